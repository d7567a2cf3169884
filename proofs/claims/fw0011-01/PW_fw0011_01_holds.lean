import PyProof.Rows.All
import Wide.All
import OpenK.AllK
import Wide.FinOn
import Lean
import PySem.Challenge.RW_fw0011_01
section
open PySem PySem.W PyProof.Rows
set_option Elab.async false
namespace Mine
local macro_rules | `(tactic| k_head) => `(tactic| x_head)
set_option maxRecDepth 100000 in
set_option maxHeartbeats 0 in
open_top hd for PySem.Challenge.rw_fw0011_01
end Mine
end
section
open PySem PySem.W PyProof.Rows
set_option Elab.async false
namespace Mine

abbrev prg : Program := PySem.Challenge.pw_fw0011_01
abbrev md (w : World) : Model := model prg w
/-- DXFTag, Tags, DXFValueError -/
abbrev cTag : Addr := 138
abbrev cTags : Addr := 365
abbrev cErr : Addr := 44
/-- the tables of codes of has_tag and of law -/
abbrev PH : Addr := 239
abbrev PL : Addr := 385
abbrev nTop : Nat := 389

noncomputable def KB (P : Params) : Frag := (hd.heap_39 P).filter fun p => !(p.1 == PH) && !(p.1 == PL)

theorem filter_lookup {p : Addr × Obj → Bool} {a : Addr} {o : Obj} : ∀ {l : List (Addr × Obj)}, (l.map (·.1)).Nodup → (l.filter p).lookup a = some o → l.lookup a = some o
  | [], _, h => by simp at h
  | x :: l, hn, h => by
    obtain ⟨b, ob⟩ := x
    rw [List.map_cons, List.nodup_cons] at hn
    by_cases hp : p (b, ob) = true
    · rw [List.filter_cons_of_pos hp] at h
      simp only [List.lookup_cons] at h ⊢
      split at h
      · exact h
      · exact filter_lookup hn.2 h
    · rw [List.filter_cons_of_neg hp] at h
      have h2 := filter_lookup hn.2 h
      rw [List.lookup_cons]
      split
      · rename_i q
        exfalso
        have e : a = b := beq_iff_eq.mp q
        subst e
        have : a ∈ l.map (·.1) := by
          clear h hn
          induction l with
          | nil => simp at h2
          | cons y l ih =>
            rw [List.lookup_cons] at h2
            split at h2
            · rename_i q'; rw [List.map_cons, beq_iff_eq.mp q']; exact List.mem_cons_self ..
            · rw [List.map_cons]; exact List.mem_cons_of_mem _ (ih h2)
        exact hn.1 this
      · exact h2

/-- the codes of one function's table -/
structure TabI (h : Heap) (c P : Addr) (q : Str) (ps : Array Value) : Prop where
  code : h.IsCode c P ps
  tab : h.get? P = some (X.tableObj ps)
  codes : ∀ pos cv, codeAmong pos ps.toList = some cv → ∃ c' o, cv = .ref c' ∧ h.get? c' = some o ∧ o.cls = .type "code" ∧ ∃ vs t, o.data = .fields vs ∧ vs[1]? = some (.str q t)

abbrev qH : Str := Str.ofString "Tags.has_tag.<locals>.<genexpr>"
abbrev qL : Str := Str.ofString "law.<locals>.<lambda>"

structure Base (w : World) (s : Shared) : Prop where
  top : ∀ a o, (hd.heap_39 w.params).lookup a = some o → a ≠ PH → a ≠ PL → s.heap.get? a = some o
  big : nTop ≤ s.heap.objs.size
  tH : ∃ ps, TabI s.heap 243 PH qH ps
  tL : ∃ ps, TabI s.heap 387 PL qL ps
  bare : AllBare s.gens

/-- what may be changed without a table being touched -/
def free (o : Obj) : Bool := match o.data with
  | .fields _ => o.cls != .type "code" && o.cls != .none
  | _ => true

structure ExtG (S : List Addr) (G : List Nat) (s s' : Shared) : Prop where
  own : ∀ a ∈ S, nTop ≤ a
  keep : ∀ b o, s.heap.get? b = some o → b ∉ S → b ≠ PH → b ≠ PL → s'.heap.get? b = some o
  tH : ∀ ps, TabI s.heap 243 PH qH ps → ∃ more, TabI s'.heap 243 PH qH (ps ++ more)
  tL : ∀ ps, TabI s.heap 387 PL qL ps → ∃ more, TabI s'.heap 387 PL qL (ps ++ more)
  gens : ∀ (i : Nat) (x : GenState), s.gens[i]? = some x → i ∉ G → s'.gens[i]? = some x
  bare : AllBare s.gens → AllBare s'.gens
  os : s'.os = s.os
abbrev Ext (S : List Addr) (s s' : Shared) : Prop := ExtG S [] s s'

theorem Ext.refl (s : Shared) : Ext [] s s :=
  ⟨(fun _ h => by cases h), fun _ _ e _ _ _ => e, fun ps x => ⟨#[], by simpa using x⟩, fun ps x => ⟨#[], by simpa using x⟩, fun _ _ e _ => e, fun x => x, rfl⟩

theorem ExtG.trans {S : List Addr} {G : List Nat} {a b c : Shared} (x : ExtG S G a b) (y : ExtG S G b c) : ExtG S G a c where
  own := x.own
  keep := fun i o e n1 n2 n3 => y.keep i o (x.keep i o e n1 n2 n3) n1 n2 n3
  tH := fun ps t => by
    obtain ⟨m, t1⟩ := x.tH ps t
    obtain ⟨m', t2⟩ := y.tH _ t1
    exact ⟨m ++ m', by rw [← Array.append_assoc]; exact t2⟩
  tL := fun ps t => by
    obtain ⟨m, t1⟩ := x.tL ps t
    obtain ⟨m', t2⟩ := y.tL _ t1
    exact ⟨m ++ m', by rw [← Array.append_assoc]; exact t2⟩
  gens := fun i g e n => y.gens i g (x.gens i g e n) n
  bare := fun h => y.bare (x.bare h)
  os := y.os.trans x.os

theorem ExtG.wk {S S' : List Addr} {G : List Nat} {a b : Shared} (x : ExtG S G a b) (h : ∀ i ∈ S, i ∈ S') (ho : ∀ i ∈ S', nTop ≤ i) : ExtG S' G a b :=
  ⟨ho, fun i o e n1 => x.keep i o e fun m => n1 (h i m), x.tH, x.tL, x.gens, x.bare, x.os⟩
theorem ExtG.wk0 {S' : List Addr} {G : List Nat} {a b : Shared} (x : ExtG [] G a b) (ho : ∀ i ∈ S', nTop ≤ i) : ExtG S' G a b := x.wk (fun _ h => by cases h) ho
theorem ExtG.wkG {S : List Addr} {G G' : List Nat} {a b : Shared} (x : ExtG S G a b) (h : ∀ i ∈ G, i ∈ G') : ExtG S G' a b :=
  ⟨x.own, x.keep, x.tH, x.tL, fun i g e n => x.gens i g e fun m => n (h i m), x.bare, x.os⟩
theorem ExtG.anyG {S : List Addr} {G : List Nat} {a b : Shared} (x : Ext S a b) : ExtG S G a b := x.wkG fun _ h => by cases h
/-- an address that was not there may be left out -/
theorem ExtG.drop {S S' : List Addr} {G : List Nat} {a b : Shared} (x : ExtG S G a b) (h : ∀ i ∈ S, i ∈ S' ∨ a.heap.get? i = none) (ho : ∀ i ∈ S', nTop ≤ i) : ExtG S' G a b :=
  ⟨ho, fun i o e n1 => x.keep i o e fun m => (h i m).elim n1 fun z => (by rw [e] at z; cases z), x.tH, x.tL, x.gens, x.bare, x.os⟩
theorem ExtG.dropG {S : List Addr} {G : List Nat} {a b : Shared} (x : ExtG S G a b) (h : ∀ i ∈ G, a.gens[i]? = none) : Ext S a b :=
  ⟨x.own, x.keep, x.tH, x.tL, fun i g e _ => x.gens i g e fun m => (by rw [h i m] at e; cases e), x.bare, x.os⟩

theorem TabI.grow {h h' : Heap} {c P : Addr} {q : Str} {ps : Array Value} (t : TabI h c P q ps) (k : ∀ b o, h.get? b = some o → h'.get? b = some o) : TabI h' c P q ps :=
  ⟨t.code.keeps k, k _ _ t.tab, fun pos cv e => let ⟨c', o, e1, e2, r⟩ := t.codes pos cv e; ⟨c', o, e1, k _ _ e2, r⟩⟩
theorem TabI.set {h h' : Heap} {c P a : Addr} {q : Str} {ps : Array Value} {o : Obj} (t : TabI h c P q ps) (hc : c ≠ a) (ho : h.get? a = some o) (hf : free o = true) (k : ∀ b o, b ≠ a → h.get? b = some o → h'.get? b = some o) : TabI h' c P q ps := by
  have hP : P ≠ a := fun e => by
    subst e; rw [t.tab] at ho; cases ho; simp [free, X.tableObj] at hf
  refine ⟨t.code.extBut (fun b o hb e => k b o hb e) hc hP, k _ _ hP t.tab, fun pos cv e => ?_⟩
  obtain ⟨c', o', e1, e2, e3, vs, tt, e4, r⟩ := t.codes pos cv e
  refine ⟨c', o', e1, k _ _ (fun z => ?_) e2, e3, vs, tt, e4, r⟩
  subst z
  rw [ho] at e2; cases e2
  simp [free, e4, e3] at hf

theorem Ext.grow {s : Shared} {h' : Heap} {t : Nat} (k : ∀ b o, s.heap.get? b = some o → h'.get? b = some o) : Ext [] s { s with heap := h', toks := t } :=
  ⟨(fun _ h => by cases h), fun b o e _ _ _ => k b o e, fun ps x => ⟨#[], by simpa using x.grow k⟩, fun ps x => ⟨#[], by simpa using x.grow k⟩, fun _ _ e _ => e, fun x => x, rfl⟩
theorem Ext.push {s : Shared} {o : Obj} {t : Nat} : Ext [] s { s with heap := s.heap.push o, toks := t } :=
  Ext.grow (fun _ _ e => Heap.get?_push_of_some _ e)
theorem Ext.tok {s : Shared} {t : Nat} : Ext [] s { s with toks := t } := Ext.grow (h' := s.heap) (fun _ _ e => e)

theorem Ext.set {s : Shared} {h' : Heap} {t : Nat} {a : Addr} {o : Obj} (hn : nTop ≤ a) (ho : s.heap.get? a = some o) (hf : free o = true) (k : Heap.SameBut a s.heap h') : Ext [a] s { s with heap := h', toks := t } := by
  have k' : ∀ b o, b ≠ a → s.heap.get? b = some o → h'.get? b = some o := fun b o hb e => (k.2 b hb).trans e
  have n1 : (243 : Addr) ≠ a := fun e => by subst e; exact absurd hn (by decide)
  have n2 : (387 : Addr) ≠ a := fun e => by subst e; exact absurd hn (by decide)
  exact ⟨fun b hb => by rw [List.mem_singleton.mp hb]; exact hn, fun b o e hb _ _ => k' b o (fun z => hb (by rw [z]; exact List.mem_singleton.mpr rfl)) e,
    fun ps x => ⟨#[], by simpa using x.set n1 ho hf k'⟩, fun ps x => ⟨#[], by simpa using x.set n2 ho hf k'⟩, fun _ _ e _ => e, fun x => x, rfl⟩

theorem last_top (P : Params) : ((hd.heap_39 P).lookup 388).isSome = true := by kernel_rfl
theorem TabI.sets {h h' : Heap} {c P : Addr} {q : Str} {ps : Array Value} {S : List Addr} (t : TabI h c P q ps) (hc : c ∉ S) (hf : ∀ a ∈ S, ∀ o, h.get? a = some o → free o = true) (k : ∀ b o, b ∉ S → h.get? b = some o → h'.get? b = some o) : TabI h' c P q ps := by
  have hP : P ∉ S := fun e => by
    have := hf P e _ t.tab; simp [free, X.tableObj] at this
  refine ⟨?_, k _ _ hP t.tab, fun pos cv e => ?_⟩
  · obtain ⟨o, vs, file, tf, flags, tg, inF, text, tt, op, g, d, h1, h2, h3, h4, h5, gp, r⟩ := t.code
    exact ⟨o, vs, file, tf, flags, tg, inF, text, tt, op, k _ _ hc g, d, h1, h2, h3, h4, h5, k _ _ hP gp, r⟩
  · obtain ⟨c', o', e1, e2, e3, vs, tt, e4, r⟩ := t.codes pos cv e
    refine ⟨c', o', e1, k _ _ (fun z => ?_) e2, e3, vs, tt, e4, r⟩
    have := hf c' z _ e2
    simp [free, e4, e3] at this
theorem Ext.sets {s : Shared} {h' : Heap} {t : Nat} {S : List Addr} (hn : ∀ a ∈ S, nTop ≤ a) (hf : ∀ a ∈ S, ∀ o, s.heap.get? a = some o → free o = true) (k : ∀ b o, b ∉ S → s.heap.get? b = some o → h'.get? b = some o) : Ext S s { s with heap := h', toks := t } :=
  ⟨hn, fun b o e hb _ _ => k b o hb e,
    fun ps x => ⟨#[], by simpa using x.sets (fun m => absurd (hn _ m) (by decide)) hf k⟩, fun ps x => ⟨#[], by simpa using x.sets (fun m => absurd (hn _ m) (by decide)) hf k⟩, fun _ _ e _ => e, fun x => x, rfl⟩
theorem Base.ext {w : World} {S : List Addr} {G : List Nat} {s s' : Shared} (B : Base w s) (x : ExtG S G s s') : Base w s' := by
  have top' : ∀ a o, (hd.heap_39 w.params).lookup a = some o → a ≠ PH → a ≠ PL → s'.heap.get? a = some o := fun a o e n1 n2 => by
    have h := B.top a o e n1 n2
    refine x.keep a o h (fun m => ?_) n1 n2
    have lo := x.own a m
    have hi : a ∈ (hd.heap_39 w.params).map (·.1) := by
      clear h n1 n2
      generalize hd.heap_39 w.params = l at e ⊢
      induction l with
      | nil => simp at e
      | cons y l ih =>
        rw [List.lookup_cons] at e
        split at e
        · rename_i q'; rw [List.map_cons, beq_iff_eq.mp q']; exact List.mem_cons_self ..
        · rw [List.map_cons]; exact List.mem_cons_of_mem _ (ih e)
    have all : ((hd.heap_39 w.params).map (·.1)).all (fun b => Nat.blt b nTop) = true := by kernel_rfl
    have := List.all_eq_true.mp all a hi
    exact absurd (Nat.le_of_ble_eq_true this) (Nat.not_lt.mpr lo)
  refine ⟨top', ?_, ?_, ?_, x.bare B.bare⟩
  · obtain ⟨o, h⟩ := Option.isSome_iff_exists.mp (last_top w.params)
    exact Heap.lt_size (top' _ _ h (by decide) (by decide))
  · exact let ⟨ps, t⟩ := B.tH; let ⟨m, t'⟩ := x.tH ps t; ⟨_, t'⟩
  · exact let ⟨ps, t⟩ := B.tL; let ⟨m, t'⟩ := x.tL ps t; ⟨_, t'⟩

theorem Base.KB {w : World} {s : Shared} (B : Base w s) : (KB w.params).In s.heap := fun a o e => by
  have hn : ((hd.heap_39 w.params).map (·.1)).Nodup := by
    have : ((hd.heap_39 w.params).map (·.1)) = (hd.heap_39 w.params).map (·.1) := rfl
    have e2 : ((hd.heap_39 w.params).map (·.1)).Pairwise (· ≠ ·) := by
      have : decide (((hd.heap_39 w.params).map (·.1)).Pairwise (· ≠ ·)) = true := by kernel_rfl
      exact of_decide_eq_true this
    exact e2
  have h2 : (Mine.KB w.params).lookup a = some o := e
  have hm : ∀ {l : List (Addr × Obj)}, l.lookup a = some o → (a, o) ∈ l := by
    intro l
    induction l with
    | nil => intro h; simp at h
    | cons y l ih =>
      obtain ⟨b, ob⟩ := y
      intro h
      rw [List.lookup_cons] at h
      split at h
      · rename_i q; cases h; rw [beq_iff_eq.mp q]; exact List.mem_cons_self ..
      · exact List.mem_cons_of_mem _ (ih h)
  have h3 := (List.mem_filter.mp (hm h2)).2
  simp only [Bool.and_eq_true, Bool.not_eq_true', beq_eq_false_iff_ne] at h3
  exact B.top a o (filter_lookup hn e) h3.1 h3.2
example : PySem.Challenge.rw_fw0011_01 = PySem.Challenge.rw_fw0011_01 ∧ hd.heap_39 = hd.heap_39 := by
  k_fill
  exact ⟨rfl, rfl⟩
theorem statics_at (P : Params) : ∃ es n, (hd.heap_39 P).lookup cStatics = some ⟨.none, none, .dict es n, #[]⟩ ∧ StrKeys es ∧ nsFind es "sys.recursionlimit" = none := by
  refine ⟨_, _, by k_is, ?_, ?_⟩
  · intro e he
    simp at he
    rcases he with rfl | rfl <;> exact ⟨_, _, rfl⟩
  · kernel_rfl
theorem Base.nolimit {w : World} {s : Shared} (B : Base w s) : s.heap.NoLimit := by
  obtain ⟨es, n, h, k, q⟩ := statics_at w.params
  exact ⟨_, ⟨_, es, n, B.top _ _ h (by decide) (by decide), rfl, k, fun _ => rfl⟩, q⟩
end Mine
end
section
open PySem PySem.W PyProof.Rows
set_option Elab.async false
namespace Mine

/-- plain data -/
inductive D where
  | int (i : Int)
  | str (x : Str)
  | bool (b : Bool)
  | none
  | tup (ds : List D)
  | list (ds : List D)
  | tag (c : Int) (x : Str)
  | tags (ts : List D)
  | at (a : Addr) (d : D)
  | raw (v : Value)
  | set (frozen : Bool) (ns : List Int)

abbrev tupO (vs : List Value) (n : Nat) : Obj := ⟨.type "tuple", none, .seq vs.toArray n, #[]⟩
abbrev listO (vs : List Value) (n : Nat) : Obj := ⟨.type "list", none, .seq vs.toArray n, #[]⟩
abbrev tagO (c : Int) (t : Tok) (x : Str) (u : Tok) (dx : Addr) : Obj := ⟨.ref cTag, some dx, .plain, #[some (.int c t), some (.str x u)]⟩
abbrev tagsO (vs : List Value) (n : Nat) (dx : Addr) : Obj := ⟨.ref cTags, some dx, .seq vs.toArray n, #[]⟩
abbrev dictO (m : Nat) : Obj := ⟨.type "dict", none, .dict #[] m, #[]⟩

abbrev setName (f : Bool) : String := if f then "frozenset" else "set"
abbrev setO (f : Bool) (es : Array (Int × Value)) (ep : Nat) (t : SetTable) : Obj := ⟨.type (setName f), none, .set es ep t, #[]⟩
/-- the elements are these ints -/
def GoodSet (es : Array (Int × Value)) (t : SetTable) (ns : List Int) : Prop :=
  (∀ e ∈ es.toList, (∃ k, e.2.isInt k = true ∧ e.1 = hashInt k) ∧ e.2.scannable = true) ∧ (∀ k, (ns.any (· == k)) = true ↔ ∃ e ∈ es.toList, e.2.isInt k = true) ∧ es.size < 100 ∧ t.fits es.size = true

mutual
def Val (h : Heap) : D → Value → Prop
  | .int i, v => ∃ t, v = .int i t
  | .str x, v => ∃ t, v = .str x t
  | .bool b, v => v = .bool b
  | .none, v => v = .none
  | .tup ds, v => ∃ a vs n, v = .ref a ∧ h.get? a = some (tupO vs n) ∧ Vals h ds vs
  | .list ds, v => ∃ a vs n, v = .ref a ∧ h.get? a = some (listO vs n) ∧ Vals h ds vs
  | .tag c x, v => ∃ a t u dx m, v = .ref a ∧ h.get? a = some (tagO c t x u dx) ∧ h.get? dx = some (dictO m)
  | .tags ds, v => ∃ a vs n dx m, v = .ref a ∧ h.get? a = some (tagsO vs n dx) ∧ h.get? dx = some (dictO m) ∧ Vals h ds vs
  | .at a d, v => v = .ref a ∧ Val h d v
  | .raw u, v => v = u
  | .set f ns, v => ∃ a es ep t, v = .ref a ∧ h.get? a = some (setO f es ep t) ∧ GoodSet es t ns
def Vals (h : Heap) : List D → List Value → Prop
  | [], vs => vs = []
  | d :: ds, vs => ∃ v r, vs = v :: r ∧ Val h d v ∧ Vals h ds r
end

/-- objects that no datum's value stands on -/
def infra (o : Obj) : Bool := match o.data with
  | .dict es _ => !es.isEmpty
  | .seq .. => false
  | .plain => false
  | .set .. => false
  | _ => true

mutual
/-- the class c may bear a part of d -/
def bears (c : Value) : D → Bool
  | .tup ds => c == .type "tuple" || bearsL c ds
  | .list ds => c == .type "list" || bearsL c ds
  | .tag .. => c == .ref cTag || c == .type "dict"
  | .tags ds => c == .ref cTags || c == .type "dict" || bearsL c ds
  | .at _ d => bears c d
  | .set f _ => c == .type (setName f)
  | _ => false
def bearsL (c : Value) : List D → Bool
  | [] => false
  | d :: ds => bears c d || bearsL c ds
end
def apart (o : Obj) (d : D) : Prop := infra o = true ∨ bears o.cls d = false
def apartL (o : Obj) (ds : List D) : Prop := infra o = true ∨ bearsL o.cls ds = false

mutual
theorem Val.move {h h' : Heap} {S : Addr → Prop} (k : ∀ b o, h.get? b = some o → ¬ S b → infra o = false → h'.get? b = some o) :
    ∀ (d : D) (v : Value), (∀ a o, S a → h.get? a = some o → apart o d) → Val h d v → Val h' d v
  | .int _, _, _, x => x
  | .str _, _, _, x => x
  | .bool _, _, _, x => x
  | .none, _, _, x => x
  | .tup ds, v, hd, ⟨a, vs, n, e, g, r⟩ => by
    refine ⟨a, vs, n, e, k _ _ g (fun s => ?_) rfl, Vals.move k ds vs (fun b o s q => ?_) r⟩
    · rcases hd a _ s g with z | z
      · cases z
      · simp [bears] at z
    · rcases hd b o s q with z | z
      · exact .inl z
      · right; simp only [bears, Bool.or_eq_false_iff] at z; exact z.2
  | .list ds, v, hd, ⟨a, vs, n, e, g, r⟩ => by
    refine ⟨a, vs, n, e, k _ _ g (fun s => ?_) rfl, Vals.move k ds vs (fun b o s q => ?_) r⟩
    · rcases hd a _ s g with z | z
      · cases z
      · simp [bears] at z
    · rcases hd b o s q with z | z
      · exact .inl z
      · right; simp only [bears, Bool.or_eq_false_iff] at z; exact z.2
  | .tag c x, v, hd, ⟨a, t, u, dx, m, e, g, gd⟩ => by
    refine ⟨a, t, u, dx, m, e, k _ _ g (fun s => ?_) rfl, k _ _ gd (fun s => ?_) rfl⟩
    · rcases hd a _ s g with z | z
      · cases z
      · simp [bears] at z
    · rcases hd dx _ s gd with z | z
      · cases z
      · simp [bears] at z
  | .tags ds, v, hd, ⟨a, vs, n, dx, m, e, g, gd, r⟩ => by
    refine ⟨a, vs, n, dx, m, e, k _ _ g (fun s => ?_) rfl, k _ _ gd (fun s => ?_) rfl, Vals.move k ds vs (fun b o s q => ?_) r⟩
    · rcases hd a _ s g with z | z
      · cases z
      · simp [bears] at z
    · rcases hd dx _ s gd with z | z
      · cases z
      · simp [bears] at z
    · rcases hd b o s q with z | z
      · exact .inl z
      · right; simp only [bears, Bool.or_eq_false_iff] at z; exact z.2
  | .raw _, _, _, x => x
  | .set f ns, v, hd, ⟨a, es, ep, t, e, g, r⟩ => by
    refine ⟨a, es, ep, t, e, k _ _ g (fun s => ?_) rfl, r⟩
    rcases hd a _ s g with z | z
    · cases z
    · simp [bears] at z
  | .at a d, v, hd, ⟨e, x⟩ => ⟨e, Val.move k d v (fun b o s q => hd b o s q) x⟩
theorem Vals.move {h h' : Heap} {S : Addr → Prop} (k : ∀ b o, h.get? b = some o → ¬ S b → infra o = false → h'.get? b = some o) :
    ∀ (ds : List D) (vs : List Value), (∀ a o, S a → h.get? a = some o → apartL o ds) → Vals h ds vs → Vals h' ds vs
  | [], _, _, x => x
  | d :: ds, vs, hd, ⟨v, r, e, x, y⟩ => by
    refine ⟨v, r, e, Val.move k d v (fun a o s q => ?_) x, Vals.move k ds r (fun a o s q => ?_) y⟩
    · rcases hd a o s q with z | z
      · exact .inl z
      · right; simp only [bearsL, Bool.or_eq_false_iff] at z; exact z.1
    · rcases hd a o s q with z | z
      · exact .inl z
      · right; simp only [bearsL, Bool.or_eq_false_iff] at z; exact z.2
end
/-- a table's object bears nothing -/
theorem infra_table (ps : Array Value) : infra (X.tableObj ps) = true := rfl

section
variable {w : World} {s s' : Shared} {S : List Addr} {G : List Nat}
theorem ExtG.val (x : ExtG S G s s') (B : Base w s) {d : D} {v : Value} (hS : ∀ a ∈ S, ∀ o, s.heap.get? a = some o → apart o d) (hv : Val s.heap d v) : Val s'.heap d v := by
  refine Val.move (S := fun a => a ∈ S) (fun b o g n i => x.keep b o g n ?_ ?_) d v (fun a o m g => hS a m o g) hv
  · intro e; subst e; obtain ⟨ps, t⟩ := B.tH; rw [t.tab] at g; cases g; cases i
  · intro e; subst e; obtain ⟨ps, t⟩ := B.tL; rw [t.tab] at g; cases g; cases i
theorem ExtG.vals (x : ExtG S G s s') (B : Base w s) {ds : List D} {vs : List Value} (hS : ∀ a ∈ S, ∀ o, s.heap.get? a = some o → apartL o ds) (hv : Vals s.heap ds vs) : Vals s'.heap ds vs := by
  refine Vals.move (S := fun a => a ∈ S) (fun b o g n i => x.keep b o g n ?_ ?_) ds vs (fun a o m g => hS a m o g) hv
  · intro e; subst e; obtain ⟨ps, t⟩ := B.tH; rw [t.tab] at g; cases g; cases i
  · intro e; subst e; obtain ⟨ps, t⟩ := B.tL; rw [t.tab] at g; cases g; cases i
theorem ExtG.val0 (x : ExtG [] G s s') (B : Base w s) {d : D} {v : Value} (hv : Val s.heap d v) : Val s'.heap d v := x.val B (fun _ m => by cases m) hv
theorem ExtG.vals0 (x : ExtG [] G s s') (B : Base w s) {ds : List D} {vs : List Value} (hv : Vals s.heap ds vs) : Vals s'.heap ds vs := x.vals B (fun _ m => by cases m) hv
/-- an object that is no table is kept -/
theorem ExtG.at (x : ExtG S G s s') (B : Base w s) {a : Addr} {o : Obj} (g : s.heap.get? a = some o) (n : a ∉ S) (hc : o.cls ≠ .none) : s'.heap.get? a = some o := by
  refine x.keep a o g n ?_ ?_
  · intro e; subst e; obtain ⟨ps, t⟩ := B.tH; rw [t.tab] at g; cases g; exact hc rfl
  · intro e; subst e; obtain ⟨ps, t⟩ := B.tL; rw [t.tab] at g; cases g; exact hc rfl
theorem ExtG.at0 (x : ExtG [] G s s') (B : Base w s) {a : Addr} {o : Obj} (g : s.heap.get? a = some o) (hc : o.cls ≠ .none) : s'.heap.get? a = some o := x.at B g (by simp) hc
end

theorem Vals.length {h : Heap} : ∀ {ds : List D} {vs : List Value}, Vals h ds vs → vs.length = ds.length
  | [], _, e => by rw [show _ = [] from e]; rfl
  | _ :: _, _, ⟨_, _, e, _, r⟩ => by rw [e, List.length_cons, List.length_cons, Vals.length r]
theorem Vals.get {h : Heap} : ∀ {ds : List D} {vs : List Value} {i : Nat} {d : D}, Vals h ds vs → ds[i]? = some d → ∃ v, vs[i]? = some v ∧ Val h d v
  | [], _, _, _, _, e => by simp at e
  | _ :: _, _, 0, _, ⟨v, r, e, x, _⟩, q => by subst e; simp at q; subst q; exact ⟨v, rfl, x⟩
  | _ :: _, _, i + 1, _, ⟨v, r, e, _, y⟩, q => by subst e; exact Vals.get (i := i) y (by simpa using q)
theorem Vals.snoc {h : Heap} : ∀ {ds : List D} {vs : List Value} {d : D} {v : Value}, Vals h ds vs → Val h d v → Vals h (ds ++ [d]) (vs ++ [v])
  | [], _, _, _, e, x => by rw [show _ = [] from e]; exact ⟨_, _, rfl, x, rfl⟩
  | _ :: _, _, _, _, ⟨v, r, e, x, y⟩, z => by subst e; exact ⟨v, _, rfl, x, Vals.snoc y z⟩
theorem Vals.app {h : Heap} : ∀ {ds es : List D} {vs ws : List Value}, Vals h ds vs → Vals h es ws → Vals h (ds ++ es) (vs ++ ws)
  | [], _, _, _, e, x => by rw [show _ = [] from e]; exact x
  | _ :: _, _, _, _, ⟨v, r, e, x, y⟩, z => by subst e; exact ⟨v, _, rfl, x, Vals.app y z⟩
end Mine
end
section
open PySem PySem.W PyProof.Rows
set_option Elab.async false
namespace Mine

structure Room (k : Nat) (A : Around) : Prop where
  handled : A.handled = none
  depth : A.depth + k < 1000
  units : A.units + 200 * k < 9000
theorem Room.mono {k k' : Nat} {A : Around} (r : Room k A) (h : k' ≤ k) : Room k' A := ⟨r.handled, by have := r.depth; omega, by have := r.units; omega⟩
theorem Room.deeper {k : Nat} {A : Around} (r : Room (k + 1) A) (env : Env) : Room k (A.deeper env) := ⟨r.handled, by have := r.depth; simp only [Around.deeper]; omega, by have := r.units; simp only [Around.deeper]; omega⟩
theorem Room.in1 {k : Nat} {A : Around} (r : Room (k + 1) A) : Room k A.in1 := ⟨r.handled, by have := r.depth; simp only [Around.in1_depth]; omega, by have := r.units; simp only [Around.in1_units]; omega⟩
theorem Room.limit {k : Nat} {A : Around} (r : Room k A) : A.depth < recursionLimit := by have := r.depth; show A.depth < 1000; omega
theorem Room.cline {k : Nat} {A : Around} (r : Room k A) : A.units < cLine := by have := r.units; show A.units < 9900; omega

/-- the name x of the block's own holds v -/
def Bound (env : Env) (s : Shared) (x : Str) (v : Value) : Prop :=
  (env.kindOf x = some .local ∧ ∃ m, s.heap.Ns env.locals m ∧ m x = some v) ∨
  ((env.kindOf x = some .cell ∨ env.kindOf x = some .free) ∧ ∃ c, env.cells.lookup x = some c ∧ nTop ≤ c ∧ s.heap.IsCell c (some v))

/-- what a block's own stores touch -/
abbrev own (env : Env) : List Addr := env.locals :: env.cells.map (·.2)

structure Holds (w : World) (env : Env) (σ : List (Str × D)) (s : Shared) : Prop where
  base : Base w s
  big : ∀ i ∈ own env, nTop ≤ i
  fn : env.scope.kind = .function
  gl : env.globals = mainGlobals
  bi : env.builtins = builtinsNs
  ns : ∃ m, s.heap.Ns env.locals m
  cells : ∀ n c, env.cells.lookup n = some c → ∃ v, s.heap.IsCell c v
  lone : ∀ o, s.heap.get? env.locals = some o → infra o = true ∨ o.cls = .type "frame" ∨ (o.cls = .type "dict" ∧ env.func = none ∧ ∀ y e, σ.lookup y = some e → bears (.type "dict") e = false)
  inj : ∀ x y c, env.cells.lookup x = some c → env.cells.lookup y = some c → x = y
  vals : ∀ x d, σ.lookup x = some d → ∃ v, Bound env s x v ∧ Val s.heap d v

section
variable {w : World} {env : Env} {σ : List (Str × D)} {s s' : Shared} {x : Str} {v : Value} {S : List Addr}
theorem nTop_PH {a : Addr} (h : nTop ≤ a) : a ≠ PH := fun e => by subst e; exact absurd h (by decide)
theorem nTop_PL {a : Addr} (h : nTop ≤ a) : a ≠ PL := fun e => by subst e; exact absurd h (by decide)
theorem ExtG.ns {G : List Nat} (e : ExtG S G s s') {a : Addr} {m : Str → Option Value} (hn : nTop ≤ a) (ha : a ∉ S) (h : s.heap.Ns a m) : s'.heap.Ns a m :=
  let ⟨o, es, ep, g, r⟩ := h; ⟨o, es, ep, e.keep a o g ha (nTop_PH hn) (nTop_PL hn), r⟩
theorem ExtG.cell {G : List Nat} (e : ExtG S G s s') {a : Addr} {v : Option Value} (hn : nTop ≤ a) (ha : a ∉ S) (h : s.heap.IsCell a v) : s'.heap.IsCell a v :=
  let ⟨o, g, r⟩ := h; ⟨o, e.keep a o g ha (nTop_PH hn) (nTop_PL hn), r⟩
theorem Bound.ext {G : List Nat} (b : Bound env s x v) (hn : ∀ i ∈ own env, nTop ≤ i) (e : ExtG [] G s s') : Bound env s' x v := by
  rcases b with ⟨k, m, h, q⟩ | ⟨k, c, h, n, q⟩
  · exact .inl ⟨k, m, e.ns (hn _ (List.mem_cons_self ..)) (by simp) h, q⟩
  · exact .inr ⟨k, c, h, n, e.cell n (by simp) q⟩
theorem Holds.ext {G : List Nat} (H : Holds w env σ s) (e : ExtG [] G s s') : Holds w env σ s' :=
  ⟨H.base.ext e, H.big, H.fn, H.gl, H.bi, let ⟨m, h⟩ := H.ns; ⟨m, e.ns (H.big _ (List.mem_cons_self ..)) (by simp) h⟩, fun n c hc => let ⟨v, h⟩ := H.cells n c hc; ⟨v, e.cell (H.big _ (List.mem_cons_of_mem _ (List.mem_map.mpr ⟨_, mem_of_lookup hc, rfl⟩))) (by simp) h⟩,
    fun o g => by
      obtain ⟨m, o', es, ep, g', r⟩ := H.ns
      have := e.keep _ _ g' (by simp) (nTop_PH (H.big _ (List.mem_cons_self ..))) (nTop_PL (H.big _ (List.mem_cons_self ..)))
      rw [g] at this; cases this
      exact H.lone o g', H.inj, fun x d q => let ⟨v, b, h⟩ := H.vals x d q; ⟨v, b.ext H.big e, e.val0 H.base h⟩⟩
theorem own_infra {o : Obj} {es : Array DictEntry} {ep : Nat} {x : Str} {v : Value} (hd : o.data = .dict es ep) (h : nsFind es x = some v) : infra o = true := by
  unfold infra; rw [hd]
  cases q : es.isEmpty with
  | false => show (!es.isEmpty) = true; rw [q]; rfl
  | true =>
    have : es = #[] := by simpa using q
    subst this; cases h
theorem Bound.load {M : Model} {A : Around} {Q : Value → Shared → Prop} {E : Value → Shared → Prop} (b : Bound env s x v) (hk : env.scope.kind = .function) (h : Q v s) (hn : (x == ("__classdict__" : Str)) = false := by decide) : wpAny M A (loadName env x) Q E s := by
  rcases b with ⟨k, m, h1, q⟩ | ⟨k | k, c, h1, n, q⟩
  · exact wpAny_loadName_local hk k h1 q h
  · exact wpAny_loadName_cell hk k h1 q h
  · exact wpAny_loadName_free hk k h1 q h hn
end

theorem bears_frame : ∀ (d : D), bears (.type "frame") d = false := by
  intro d
  induction d using D.rec (motive_2 := fun ds => bearsL (.type "frame") ds = false) with
  | int | str | bool | none | raw => rfl
  | tup ds ih => simp only [bears, ih]; decide
  | list ds ih => simp only [bears, ih]; decide
  | tag => simp only [bears]; decide
  | set f ns => cases f <;> (simp only [bears]; decide)
  | tags ds ih => simp only [bears, ih]; decide
  | «at» a d ih => simpa only [bears] using ih
  | nil => rfl
  | cons d ds h1 h2 => simp only [bearsL, h1, h2]; rfl

def place (env : Env) (x : Str) : List Addr := match env.kindOf x with
  | some .local => [env.locals]
  | _ => (env.cells.lookup x).toList
/-- a name of the block's own is stored to -/
theorem Holds.store {M : Model} {A : Around} {w : World} {env : Env} {σ : List (Str × D)} {s : Shared} {x : Str} {d : D} {v : Value} {E : Value → Shared → Prop} (H : Holds w env σ s) (hv : Val s.heap d v)
    (hk : env.kindOf x = some .local ∨ (env.kindOf x = some .cell ∧ (env.cells.lookup x).isSome = true)) (hap : env.func.isSome = true ∨ bears (.type "dict") d = false ∨ (env.kindOf x = some .local ∧ ∀ s', Ext (place env x) s s' → Val s'.heap d v))
    {Q : Unit → Shared → Prop} (h : ∀ s', Holds w env ((x, d) :: σ) s' → Ext (place env x) s s' → Val s'.heap d v → Bound env s' x v → (∀ y u, y ≠ x → Bound env s y u → Bound env s' y u) → Q () s') :
    wpAny M A (storeName env x v) Q E s := by
  obtain ⟨m, hn⟩ := H.ns
  have hL := H.big _ (List.mem_cons_self ..)
  rcases hk with kl | ⟨kc, hc⟩
  · refine wpAny_storeName_local kl hn (fun h' hn' hs' => ?_) (by rw [H.fn]; rfl)
    obtain ⟨o, es, ep, g, hd, r⟩ := id hn
    have hf : free o = true := by unfold free; rw [hd]
    have e := Ext.set (t := s.toks + 1) hL g hf hs'
    have ap : ∀ d', ((env.func.isSome = true ∨ bears (.type "dict") d' = false) ∨ ∃ y, σ.lookup y = some d') → ∀ a ∈ [env.locals], ∀ o', s.heap.get? a = some o' → apart o' d' := fun d' hd' a ha o' g' => by
      rw [List.mem_singleton.mp ha, g] at g'; cases g'
      rcases H.lone o g with q | q | ⟨q1, q2, q3⟩
      · exact .inl q
      · exact .inr (by rw [q]; exact bears_frame _)
      · refine .inr ?_
        rw [q1]
        rcases hd' with z | ⟨y, hy⟩
        · exact z.resolve_left (by rw [q2]; decide)
        · exact q3 y _ hy
    have cellne : ∀ n c, env.cells.lookup n = some c → c ≠ env.locals := fun n c hc q => by
      obtain ⟨v', o', g', d'⟩ := H.cells n c hc
      rw [q, g] at g'; cases g'; rw [hd] at d'; cases d'
    have hb : Bound env { s with heap := h', toks := s.toks + 1 } x v := .inl ⟨kl, _, hn', by simp⟩
    have ho : ∀ y u, y ≠ x → Bound env s y u → Bound env { s with heap := h', toks := s.toks + 1 } y u := fun y u ne b => by
      rcases b with ⟨k, m', h1, q⟩ | ⟨k, c, h1, n, q⟩
      · refine .inl ⟨k, _, hn', ?_⟩
        have : m' = m := by
          obtain ⟨o1, es1, ep1, g1, hd1, _, r1⟩ := h1
          obtain ⟨_, r2⟩ := r
          rw [g] at g1; cases g1; rw [hd] at hd1; cases hd1
          funext z; rw [← r1, ← r2]
        rw [if_neg ne, ← this]; exact q
      · exact .inr ⟨k, c, h1, n, q.sameBut hs' (cellne y c h1)⟩
    have hx : Val h' d v := by
      rcases hap with z | z | ⟨z1, z2⟩
      · exact e.val H.base (ap d (.inl (.inl z))) hv
      · exact e.val H.base (ap d (.inl (.inr z))) hv
      · exact z2 { s with heap := h', toks := s.toks + 1 } (by unfold place; rw [kl]; exact e)
    refine h _ ⟨H.base.ext e, H.big, H.fn, H.gl, H.bi, ⟨_, hn'⟩, fun n c hc => ?_, fun o' g' => ?_, H.inj, fun y d' hy => ?_⟩ (by unfold place; rw [kl]; exact e) hx hb ho
    · obtain ⟨v', q⟩ := H.cells n c hc; exact ⟨v', q.sameBut hs' (cellne n c hc)⟩
    · obtain ⟨o2, es2, ep2, g2, hd2, _, r2⟩ := hn'
      have g3 : h'.get? env.locals = some o' := g'
      rw [g3] at g2; cases g2
      exact .inl (own_infra hd2 (x := x) (v := v) (by rw [r2]; simp))
    · rw [List.lookup_cons] at hy
      split at hy
      · rename_i q; cases hy; rw [beq_iff_eq.mp q]; exact ⟨v, hb, hx⟩
      · rename_i q
        obtain ⟨u, b, hu⟩ := H.vals y d' hy
        exact ⟨u, ho y u (fun z => by rw [z] at q; simp at q) b, e.val H.base (ap d' (.inr ⟨y, hy⟩)) hu⟩
  · obtain ⟨c, hc⟩ := Option.isSome_iff_exists.mp hc
    have cm : c ∈ env.cells.map (·.2) := List.mem_map.mpr ⟨_, mem_of_lookup hc, rfl⟩
    obtain ⟨v₀, hcell⟩ := H.cells x c hc
    have hcn := H.big c (List.mem_cons_of_mem _ cm)
    refine wpAny_storeName_cell H.fn kc hc hcell fun h' hc' hs' => ?_
    obtain ⟨o, g, hd⟩ := id hcell
    have hf : free o = true := by unfold free; rw [hd]
    have hi : infra o = true := by unfold infra; rw [hd]
    have e := Ext.set (t := s.toks) hcn g hf hs'
    have ap : ∀ d', ∀ a ∈ [c], ∀ o', s.heap.get? a = some o' → apart o' d' := fun d' a ha o' g' => by
      rw [List.mem_singleton.mp ha, g] at g'; cases g'; exact .inl hi
    have hb : Bound env { s with heap := h' } x v := .inr ⟨.inl kc, c, hc, hcn, hc'⟩
    have nsne : env.locals ≠ c := fun q => by
      obtain ⟨o1, es1, ep1, g1, hd1, _⟩ := hn
      rw [q, g] at g1; cases g1; rw [hd] at hd1; cases hd1
    have ho : ∀ y u, y ≠ x → Bound env s y u → Bound env { s with heap := h' } y u := fun y u ne b => by
      rcases b with ⟨k, m', h1, q⟩ | ⟨k, c', h1, n, q⟩
      · exact .inl ⟨k, m', h1.sameBut hs' nsne, q⟩
      · exact .inr ⟨k, c', h1, n, q.sameBut hs' (fun z => ne (H.inj y x c' h1 (z ▸ hc)))⟩
    have hx := e.val H.base (ap d) hv
    refine h _ ⟨H.base.ext e, H.big, H.fn, H.gl, H.bi, ⟨m, hn.sameBut hs' nsne⟩, fun n' c' hm => ?_, fun o' g' => ?_, H.inj, fun y d' hy => ?_⟩ (by unfold place; rw [kc, hc]; exact e) hx hb ho
    · by_cases q : c' = c
      · rw [q]; exact ⟨_, hc'⟩
      · obtain ⟨v', q'⟩ := H.cells n' c' hm; exact ⟨v', q'.sameBut hs' q⟩
    · have g3 : s.heap.get? env.locals = some o' := by rw [← hs'.2 _ nsne]; exact g'
      rcases H.lone o' g3 with q | q | ⟨q1, q2, q3⟩
      · exact .inl q
      · exact .inr (.inl q)
      · refine .inr (.inr ⟨q1, q2, fun y e' hy => ?_⟩)
        rw [List.lookup_cons] at hy
        split at hy
        · cases hy
          rcases hap with z | z | ⟨z1, z2⟩
          · rw [q2] at z; cases z
          · exact z
          · rw [kc] at z1; cases z1
        · exact q3 y e' hy
    · rw [List.lookup_cons] at hy
      split at hy
      · rename_i q; cases hy; rw [beq_iff_eq.mp q]; exact ⟨v, hb, hx⟩
      · rename_i q
        obtain ⟨u, b, hu⟩ := H.vals y d' hy
        exact ⟨u, ho y u (fun z => by rw [z] at q; simp at q) b, e.val H.base (ap d') hu⟩

theorem place_own {env : Env} {x : Str} : ∀ i ∈ place env x, i ∈ own env := by
  intro i hi
  unfold place at hi
  split at hi
  · rw [List.mem_singleton.mp hi]; exact List.mem_cons_self ..
  · cases q : env.cells.lookup x with
    | none => rw [q] at hi; simp at hi
    | some c =>
      rw [q] at hi
      rw [show i = c by simpa using hi]
      exact List.mem_cons_of_mem _ (List.mem_map.mpr ⟨_, mem_of_lookup q, rfl⟩)
/-- fewer names -/
theorem Holds.less {w : World} {env : Env} {σ σ' : List (Str × D)} {s : Shared} (H : Holds w env σ s) (h : ∀ y d, σ'.lookup y = some d → σ.lookup y = some d) : Holds w env σ' s :=
  ⟨H.base, H.big, H.fn, H.gl, H.bi, H.ns, H.cells, fun o g => (H.lone o g).imp id (Or.imp id fun ⟨a, b, c⟩ => ⟨a, b, fun y e q => c y e (h y e q)⟩), H.inj, fun x d q => H.vals x d (h x d q)⟩

/-- the end of a pure step -/
abbrev Ok (s : Shared) (d : D) (v : Value) (s' : Shared) : Prop := Ext [] s s' ∧ Val s'.heap d v
def noE : Value → Shared → Prop := fun _ _ => False

def Ev (w : World) (A : Around) (env : Env) (σ : List (Str × D)) (e : Expr) (d : D) : Prop :=
  ∀ s, Holds w env σ s → wpAny (md w) A (eval e env) (Ok s d) noE s
def Tst (w : World) (A : Around) (env : Env) (σ : List (Str × D)) (e : Expr) (b : Bool) : Prop :=
  ∀ s, Holds w env σ s → wpAny (md w) A (isTrue e env (eval e env)) (fun r s' => r = b ∧ Ext [] s s') noE s

section
variable {M : Model} {A : Around} {α : Type} {t : Sem α} {s : Shared}
theorem wpAny_noE {Q Q' : α → Shared → Prop} {E : Value → Shared → Prop} (h : wpAny M A t Q noE s) (k : ∀ a s', Q a s' → Q' a s') : wpAny M A t Q' E s :=
  wpAny_mono h k fun _ _ f => f.elim
end

section
variable {w : World} {A : Around} {env : Env} {σ : List (Str × D)} {d : D}

theorem ev_name {x : Str} {pos : Pos} (h : σ.lookup x = some d) (hd : (x == ("__debug__" : Str)) = false := by decide) (hn : (x == ("__classdict__" : Str)) = false := by decide) : Ev w A env σ (.Name x pos) d := by
  intro s H
  obtain ⟨v, b, hv⟩ := H.vals x d h
  exact wpAny_Name (b.load H.fn ⟨Ext.refl s, hv⟩ hn) hd
/-- a thing at a told place is the thing -/
theorem ev_at {e : Expr} {a : Addr} (h : Ev w A env σ e (.at a d)) : Ev w A env σ e d := fun s H => wpAny_noE (h s H) fun _ _ q => ⟨q.1, q.2.2⟩
theorem ev_int {i : Int} {k : Nat} {pos : Pos} : Ev w A env σ (.Constant (.int i) k pos) (.int i) := fun s _ => wpAny_Constant_int ⟨Ext.tok, ⟨_, rfl⟩⟩
theorem ev_str {x : Str} {k : Nat} {pos : Pos} : Ev w A env σ (.Constant (.str x) k pos) (.str x) := fun s _ => Calls.Constant_str ⟨Ext.tok, ⟨_, rfl⟩⟩
theorem ev_none {k : Nat} {pos : Pos} : Ev w A env σ (.Constant .none k pos) .none := fun s _ => wpAny_Constant_none ⟨Ext.refl s, rfl⟩
theorem ev_bool {b : Bool} {k : Nat} {pos : Pos} : Ev w A env σ (.Constant (.bool b) k pos) (.bool b) := fun s _ => wpAny_Constant_bool ⟨Ext.refl s, rfl⟩

/-- two operands, one after the other -/
theorem ev_two {l r : Expr} {a b : D} (hl : Ev w A env σ l a) (hr : Ev w A env σ r b) {s : Shared} (H : Holds w env σ s) {Q : Value → Value → Shared → Prop}
    (h : ∀ u v s', Ext [] s s' → Holds w env σ s' → Val s'.heap a u → Val s'.heap b v → Q u v s') :
    wpAny (md w) A (eval l env) (fun u s₁ => wpAny (md w) A (eval r env) (fun v s₂ => Q u v s₂) noE s₁) noE s := by
  refine wpAny_mono (hl s H) (fun u s₁ h₁ => ?_) fun _ _ f => f
  have H₁ := H.ext h₁.1
  refine wpAny_mono (hr s₁ H₁) (fun v s₂ h₂ => ?_) fun _ _ f => f
  exact h u v s₂ (h₁.1.trans h₂.1) (H₁.ext h₂.1) (h₂.1.val0 H₁.base h₁.2) h₂.2

theorem ev_cmp {l r : Expr} {op : CmpOp} {pos : Pos} {a b : D} {c : Bool} (hl : Ev w A env σ l a) (hr : Ev w A env σ r b)
    (h : ∀ u v s, Base w s → Val s.heap a u → Val s.heap b v → wpAny (md w) A (compareOp op u v) (fun x s' => x = .bool c ∧ Ext [] s s') noE s)
    (hm : behindInMarks op r = false := by with_unfolding_all rfl) : Ev w A env σ (.Compare l [op] [r] pos) (.bool c) := by
  intro s H
  refine wpAny_Compare1 (ev_two hl hr H (Q := fun u v s₂ => wpAny (md w) A (compareOp op u v) (Ok s (.bool c)) noE s₂) fun u v s' e H' hu hv => ?_) hm
  exact wpAny_mono (h u v s' H'.base hu hv) (fun x s₂ z => ⟨e.trans z.2, z.1⟩) fun _ _ f => f
theorem tst_cmp {l r : Expr} {op : CmpOp} {pos : Pos} {a b : D} {c : Bool} (hl : Ev w A env σ l a) (hr : Ev w A env σ r b)
    (h : ∀ u v s, Base w s → Val s.heap a u → Val s.heap b v → wpAny (md w) A (compareOp op u v) (fun x s' => x = .bool c ∧ Ext [] s s') noE s)
    (hm : behindInMarks op r = false := by with_unfolding_all rfl) : Tst w A env σ (.Compare l [op] [r] pos) c := by
  intro s H
  refine wpAny_isTrue_Compare1 (ev_two hl hr H (Q := fun u v s₂ => wpAny (md w) A (compareOp op u v) (fun c' s₃ => wpAny (md w) A (truthy c') (fun r s' => r = c ∧ Ext [] s s') noE s₃) noE s₂) fun u v s' e H' hu hv => ?_) hm
  refine wpAny_mono (h u v s' H'.base hu hv) (fun x s₂ z => ?_) fun _ _ f => f
  rw [z.1]
  exact wpAny_truthy_bool ⟨rfl, e.trans z.2⟩

/-- a comparison's own words -/
def Cmp (w : World) (A : Around) (op : CmpOp) (a b : D) (c : Bool) : Prop :=
  ∀ u v s, Base w s → Val s.heap a u → Val s.heap b v → wpAny (md w) A (compareOp op u v) (fun x s' => x = .bool c ∧ Ext [] s s') noE s
theorem cmp_eq_int {a b : Int} : Cmp w A .Eq (.int a) (.int b) (a == b) := by rintro _ _ s _ ⟨t, rfl⟩ ⟨u, rfl⟩; exact eq_int ⟨rfl, Ext.refl s⟩
theorem cmp_ne_int {a b : Int} : Cmp w A .NotEq (.int a) (.int b) (a != b) := by rintro _ _ s _ ⟨t, rfl⟩ ⟨u, rfl⟩; exact ne_int ⟨rfl, Ext.refl s⟩
theorem cmp_lt_int {a b : Int} : Cmp w A .Lt (.int a) (.int b) (decide (a < b)) := by rintro _ _ s _ ⟨t, rfl⟩ ⟨u, rfl⟩; exact lt_int ⟨rfl, Ext.refl s⟩
theorem cmp_le_int {a b : Int} : Cmp w A .LtE (.int a) (.int b) (decide (a ≤ b)) := by rintro _ _ s _ ⟨t, rfl⟩ ⟨u, rfl⟩; exact le_int ⟨rfl, Ext.refl s⟩
end
end Mine
end
section
open PySem PySem.W PyProof.Rows
set_option Elab.async false
namespace Mine

abbrev envF (qual : Str) (scope : Scope) (L f : Addr) (cd : Value) : Env := envX qual scope L f cd (cellsFrom (L + 1) scope.names [])

theorem bindL_skip {ko : Str → Option NameKind} {x : Str} : ∀ {bs : List (Str × Value)} {m : Str → Option Value}, x ∉ bs.map (·.1) → bindL ko bs m x = m x
  | [], _, _ => rfl
  | (n, v) :: r, m, h => by
    have hn : x ≠ n := fun e => h (by rw [e]; exact List.mem_cons_self ..)
    rw [bindL, bindL_skip (fun q => h (List.mem_cons_of_mem _ q))]
    split
    · show (if x = n then _ else _) = _
      rw [if_neg hn]
    · rfl
theorem bindC_skip {ko : Str → Option NameKind} {x : Str} : ∀ {bs : List (Str × Value)} {m : Str → Option Value}, x ∉ bs.map (·.1) → bindC ko bs m x = m x
  | [], _, _ => rfl
  | (n, v) :: r, m, h => by
    have hn : x ≠ n := fun e => h (by rw [e]; exact List.mem_cons_self ..)
    rw [bindC, bindC_skip (fun q => h (List.mem_cons_of_mem _ q))]
    split
    · rfl
    · show (if x = n then _ else _) = _
      rw [if_neg hn]
theorem bindL_at {ko : Str → Option NameKind} {x : Str} {v : Value} (hk : ko x = some .local) : ∀ {bs : List (Str × Value)} {m : Str → Option Value}, (bs.map (·.1)).Nodup → (x, v) ∈ bs → bindL ko bs m x = some v
  | (n, u) :: r, m, hn, h => by
    rw [List.map_cons, List.nodup_cons] at hn
    rw [bindL]
    rcases List.mem_cons.mp h with e | h
    · cases e; rw [bindL_skip hn.1, if_pos hk, if_pos rfl]
    · exact bindL_at hk hn.2 h
theorem bindC_at {ko : Str → Option NameKind} {x : Str} {v : Value} (hk : ko x ≠ some .local) : ∀ {bs : List (Str × Value)} {m : Str → Option Value}, (bs.map (·.1)).Nodup → (x, v) ∈ bs → bindC ko bs m x = some v
  | (n, u) :: r, m, hn, h => by
    rw [List.map_cons, List.nodup_cons] at hn
    rw [bindC]
    rcases List.mem_cons.mp h with e | h
    · cases e; rw [bindC_skip hn.1, if_neg hk, if_pos rfl]
    · exact bindC_at hk hn.2 h

theorem zip_vals {h : Heap} {x : Str} {d : D} : ∀ {bs : List (Str × Value)} {ds : List D}, Vals h ds (bs.map (·.2)) → ((bs.map (·.1)).zip ds).lookup x = some d → ∃ v, (x, v) ∈ bs ∧ Val h d v
  | [], _, _, q => by simp at q
  | (n, u) :: r, [], e, q => by cases (show (n, u).2 :: r.map (·.2) = [] from e)
  | (n, u) :: r, d' :: ds, ⟨v, r', e, hv, hr⟩, q => by
    rw [List.map_cons] at e; cases e
    rw [List.map_cons, List.zip_cons_cons, List.lookup_cons] at q
    split at q
    · rename_i z; cases q; rw [beq_iff_eq.mp z]; exact ⟨u, List.mem_cons_self .., hv⟩
    · obtain ⟨v, m, hv'⟩ := zip_vals hr q; exact ⟨v, List.mem_cons_of_mem _ m, hv'⟩

section
variable {w : World} {k : Nat} {A : Around} {s : Shared} {R : Result → Shared → Prop} {f : Addr}
  {name qual : Str} {params : Arguments} {body : List Stmt} {scope : Scope} {dV kV doc pm cdv ct oc : Value} {an od : Option Addr} {osl : Array (Option Value)} {args : Args} {binds : List (Str × Value)} {ds : List D}

theorem fn_enter (B : Base w s) (r : Room (k + 1) A)
    (ho : (hd.heap_39 w.params).lookup f = some ⟨oc, od, .func (fnX name qual params body scope [] dV kV doc pm an cdv ct), osl⟩)
    (hcd : codeIn (KB w.params) cdv qual = true) (hbind : BindsTo s (fnX name qual params body scope [] dV kV doc pm an cdv ct) args binds) (hv : Vals s.heap ds (binds.map (·.2)))
    (h : ∀ L s₀, Ext [] s s₀ → (∀ i ∈ own (envF qual scope L f cdv), s.heap.get? i = none) → Holds w (envF qual scope L f cdv) ((binds.map (·.1)).zip ds) s₀ → Room k (A.deeper (envF qual scope L f cdv)) →
      wpAny (md w) (A.deeper (envF qual scope L f cdv)) (execs body (envF qual scope L f cdv))
        (fun f s' => R (.ok (.ret (match f with | .ret v => v | _ => .none))) s')
        (fun e s' => wpAny (md w) (A.deeper (envF qual scope L f cdv)) (leaving (envF qual scope L f cdv) e) (fun _ s'' => R (.error e) s'') (fun e' s'' => R (.error e') s'') s') s₀)
    (hf : (f == PH || f == PL) = false := by decide)
    (hkind : (binds.all fun y => scope.names.lookup y.1 == some .local || scope.names.lookup y.1 == some .cell) = true := by rfl)
    (hnd : (binds.map (·.1)).Nodup := by decide) (hloc : (binds.any fun y => scope.names.lookup y.1 == some .local) = true := by rfl)
    (hco : scope.isCoroutine = false := by rfl) (hgen : scope.isGenerator = false := by rfl) (hk : scope.kind = .function := by rfl) :
    codeAny (md w) A (.call (.ref f) args) R s := by
  rw [Bool.or_eq_false_iff, beq_eq_false_iff_ne, beq_eq_false_iff_ne] at hf
  refine codeAny_call_function r.limit (B.top _ _ ho hf.1 hf.2) rfl hco hgen rfl (codeRec_of B.KB hcd) (hbind _ _ _ _ ?_)
  refine wpAny_newFunctionEnv_cells hk (kindsX hkind _) fun env he s₁ x => ?_
  subst he
  obtain ⟨h', tk, e, kp⟩ := x.done
  have hL : nTop ≤ s.heap.objs.size := B.big
  have e0 : Ext [] s s₁ := by
    subst e
    exact Ext.grow kp
  have hmem : ∀ i ∈ (cellsFrom (s.heap.objs.size + 1) scope.names []).map (·.2), ∃ n, (n, i) ∈ cellsFrom (s.heap.objs.size + 1) scope.names [] := fun i hi => by
    obtain ⟨p, hp, e⟩ := List.mem_map.mp hi
    exact ⟨p.1, by rw [← e]; exact hp⟩
  have hge : ∀ i ∈ own (envF qual scope s.heap.objs.size f cdv), s.heap.objs.size ≤ i := fun i hi => by
    rcases List.mem_cons.mp hi with q | q
    · rw [q]; exact Nat.le_refl _
    · obtain ⟨n, hn⟩ := hmem i q
      exact Nat.le_of_lt (x.above n i hn)
  have hnone : ∀ i ∈ own (envF qual scope s.heap.objs.size f cdv), s.heap.get? i = none := fun i hi => by
    cases q : s.heap.get? i with
    | none => rfl
    | some o => exact absurd (Heap.lt_size q) (Nat.not_lt.mpr (hge i hi))
  refine ⟨B.nolimit.keeps x.toInCall.keep, codeAny_func (h s.heap.objs.size s₁ e0 hnone ⟨B.ext e0, fun i hi => Nat.le_trans hL (hge i hi), hk, rfl, rfl, ⟨_, x.toInCall.ns⟩, fun n c hc => ⟨_, x.cell n c hc⟩, fun o g => ?_, fun y z c h1 h2 => name_of_addr x.apart (mem_of_lookup h1) (mem_of_lookup h2), fun y d q => ?_⟩ (r.deeper _))⟩
  · obtain ⟨y, hy, hl⟩ := List.any_eq_true.mp hloc
    have kl : (envF qual scope s.heap.objs.size f cdv).kindOf y.1 = some .local := (by simpa using hl : scope.names.lookup y.1 = some .local)
    obtain ⟨o2, es2, ep2, g2, hd2, _, r2⟩ := x.toInCall.ns
    have g3 : s₁.heap.get? s.heap.objs.size = some o2 := g2
    rw [show s₁.heap.get? s.heap.objs.size = some o from g] at g3; cases g3
    exact .inl (own_infra hd2 (x := y.1) (v := y.2) (by rw [r2]; exact bindL_at (ko := (envF qual scope s.heap.objs.size f cdv).kindOf) kl hnd hy))
  obtain ⟨v, hm, hval⟩ := zip_vals (hv) q
  refine ⟨v, ?_, e0.val0 B hval⟩
  rcases kindsX hkind (s.heap.objs.size + 1) (y, v) hm with kl | ⟨kc, hc⟩
  · exact .inl ⟨kl, _, x.toInCall.ns, bindL_at (ko := (envF qual scope s.heap.objs.size f cdv).kindOf) kl hnd hm⟩
  · obtain ⟨c, hc⟩ := Option.isSome_iff_exists.mp hc
    have hnl : (envF qual scope s.heap.objs.size f cdv).kindOf y ≠ some .local := by rw [show (envF qual scope s.heap.objs.size f cdv).kindOf y = some .cell from kc]; decide
    refine .inr ⟨.inl kc, c, hc, Nat.le_trans hL (Nat.le_of_lt (x.above y c (mem_of_lookup hc))), ?_⟩
    have := x.cell y c hc
    change s₁.heap.IsCell c (bindC (envF qual scope s.heap.objs.size f cdv).kindOf binds (fun _ => none) y) at this
    rwa [bindC_at (ko := (envF qual scope s.heap.objs.size f cdv).kindOf) hnl hnd hm] at this

/-- a def that reads alone -/
def Fn (w : World) (k : Nat) (f : Addr) (ds : List D) (d : D) : Prop :=
  ∀ (A : Around) (s : Shared) (vs : List Value), Room k A → Base w s → Vals s.heap ds vs → codeAny (md w) A (.call (.ref f) ⟨vs, []⟩) (fun r s' => ∃ v, r = .ok (.ret v) ∧ Ok s d v s') s

def Body (w : World) (A : Around) (env : Env) (σ : List (Str × D)) (body : List Stmt) (d : D) : Prop :=
  ∀ s, Holds w env σ s → wpAny (md w) A (execs body env) (fun f s' => ∃ v, f = .ret v ∧ Ext (own env) s s' ∧ Val s'.heap d v) noE s

theorem vals_names {h : Heap} : ∀ {ds : List D} {vs : List Value} {ns : List Str}, Vals h ds vs → ns.length = ds.length → (ns.zip vs).map (·.2) = vs ∧ (ns.zip vs).map (·.1) = ns := by
  intro ds vs ns hv hl
  have := hv.length
  exact ⟨by rw [← List.unzip_snd, List.unzip_zip_right (by omega)], by rw [← List.unzip_fst, List.unzip_zip_left (by omega)]⟩

theorem body_ret {A : Around} {env : Env} {σ : List (Str × D)} {e : Expr} {pos : Pos} {rest : List Stmt} {d : D} (h : Ev w A env σ e d) : Body w A env σ (.Return (some e) pos :: rest) d := fun s H =>
  wpAny_execs_cons (wpAny_Return_some (wpAny_mono (h s H) (fun v s' q => ⟨v, rfl, q.1.wk0 H.big, q.2⟩) fun _ _ f => f))

theorem fn_pure {d : D}
    (ho : ∀ P, (hd.heap_39 P).lookup f = some ⟨oc, od, .func (fnX name qual params body scope [] dV kV doc pm an cdv ct), osl⟩)
    (hcd : codeIn (KB w.params) cdv qual = true)
    (hbind : ∀ vs : List Value, vs.length = ds.length → bindArgs (fnX name qual params body scope [] dV kV doc pm an cdv ct) ⟨vs, []⟩ = pure ((params.args.map (·.arg)).zip vs))
    (hlen : (params.args.map (·.arg)).length = ds.length)
    (h : ∀ A L, Room k A → Body w A (envF qual scope L f cdv) ((params.args.map (·.arg)).zip ds) body d)
    (hf : (f == PH || f == PL) = false := by decide)
    (hkind : ((params.args.map (·.arg)).all fun y => scope.names.lookup y == some .local || scope.names.lookup y == some .cell) = true := by rfl)
    (hnd : (params.args.map (·.arg)).Nodup := by decide) (hloc : ((params.args.map (·.arg)).any fun y => scope.names.lookup y == some .local) = true := by rfl)
    (hco : scope.isCoroutine = false := by rfl) (hgen : scope.isGenerator = false := by rfl) (hk : scope.kind = .function := by rfl) : Fn w (k + 1) f ds d := by
  intro A s vs r B hv
  have hz := vals_names hv hlen
  refine fn_enter B r (ho _) hcd (BindsTo.of_eq (hbind vs hv.length)) (binds := (params.args.map (·.arg)).zip vs) (ds := ds) (by rw [hz.1]; exact hv) (fun L s₀ e hL H r' => ?_) hf ?_ (by rw [hz.2]; exact hnd) ?_ hco hgen hk
  · rw [hz.2] at H
    refine wpAny_noE (h _ L r' s₀ H) fun fl s' q => ?_
    obtain ⟨v, rfl, x, y⟩ := q
    refine ⟨v, rfl, ?_, y⟩
    exact ((e.wk0 x.own).trans x).drop (fun i hi => .inr (hL i hi)) (by simp)
  · refine List.all_eq_true.mpr fun y hy => List.all_eq_true.mp hkind y.1 ?_
    rw [← hz.2]; exact List.mem_map_of_mem hy
  · obtain ⟨y, hy, q⟩ := List.any_eq_true.mp hloc
    rw [← hz.2] at hy
    obtain ⟨p, hp, rfl⟩ := List.mem_map.mp hy
    exact List.any_eq_true.mpr ⟨p, hp, q⟩
end
end Mine
end
section
open PySem PySem.W PyProof.Rows
set_option Elab.async false
namespace Mine

def SeqAt (h : Heap) (l : Addr) (items : Array Value) : Prop := ∃ o n, h.get? l = some o ∧ o.data = .seq items n

section
variable {prog : Program} {w : World} {A : Around} {E : Value → Shared → Prop} {s : Shared} {it l : Addr} {i : Nat} {items : Array Value} {x : Value}

theorem next_item {Q : Value → Shared → Prop} (hit : s.heap.IsListIter it l i) (hl : SeqAt s.heap l items) (hx : items[i]? = some x)
    (hQ : ∀ h', h'.IsListIter it l (i + 1) → Heap.SameBut it s.heap h' → Q x { s with heap := h' }) :
    wpAny (model prog w) A (call (.builtin "list_iterator.__next__") [.ref it]) Q E s := by
  obtain ⟨o, ho, hc, hd⟩ := id hit
  obtain ⟨ol, nl, hol, hdl⟩ := hl
  refine wpAny_call_entry slot_listiter_next hit.typeIs entry_listiter_next ?_ (args_listiter_next _)
  show wpAny _ _ (field (.ref it) 0 >>= _) _ _ s
  refine wpAny_bind (wpAny_field ho hd (x := .ref l) rfl ?_)
  show wpAny _ _ (if (Value.ref l == Value.none) = true then _ else _) _ _ s
  rw [if_neg (show ¬ ((Value.ref l == Value.none) = true) from Bool.false_ne_true)]
  show wpAny _ _ (field (.ref it) 1 >>= _) _ _ s
  refine wpAny_bind (wpAny_field ho hd (x := .int i 0) rfl ?_)
  show wpAny _ _ (seqItems? (.ref l) >>= _) _ _ s
  refine wpAny_bind (wpAny_seqItems hol hdl ?_)
  simp only [Int.toNat_natCast, hx]
  refine wpAny_bind (wpAny_setField ho hd (by simp) (wpAny_pure ⟨x, rfl, hQ _ ?_ (Heap.SameBut.update ..)⟩))
  exact ⟨_, Heap.get?_update_self _ ho (Obj.isFreed_of_fields (Obj.data_mapFields hd _)), (Obj.cls_mapFields ..).trans hc, by
    rw [Obj.data_mapFields hd]; simp [rawInt]⟩

theorem next_end {Q : Value → Shared → Prop} (hh : A.handled = none) (hit : s.heap.IsListIter it l i) (hl : SeqAt s.heap l items) (hx : items[i]? = none)
    (hE : ∀ h' e, Heap.ExtBut it s.heap h' → (∃ o, h'.get? e = some o ∧ o.cls = .type "StopIteration") → E (.ref e) { s with heap := h' }) :
    wpAny (model prog w) A (call (.builtin "list_iterator.__next__") [.ref it]) Q E s := by
  obtain ⟨o, ho, hc, hd⟩ := id hit
  obtain ⟨ol, nl, hol, hdl⟩ := hl
  refine wpAny_call_entry slot_listiter_next hit.typeIs entry_listiter_next ?_ (args_listiter_next _)
  show wpAny _ _ (field (.ref it) 0 >>= _) _ _ s
  refine wpAny_bind (wpAny_field ho hd (x := .ref l) rfl ?_)
  show wpAny _ _ (if (Value.ref l == Value.none) = true then _ else _) _ _ s
  rw [if_neg (show ¬ ((Value.ref l == Value.none) = true) from Bool.false_ne_true)]
  show wpAny _ _ (field (.ref it) 1 >>= _) _ _ s
  refine wpAny_bind (wpAny_field ho hd (x := .int i 0) rfl ?_)
  show wpAny _ _ (seqItems? (.ref l) >>= _) _ _ s
  refine wpAny_bind (wpAny_seqItems hol hdl ?_)
  simp only [Int.toNat_natCast, hx]
  refine wpAny_bind (wpAny_rule (wpAny_bind (wpAny_setField ho hd (by simp) ?_)))
  show wpAny _ _ (newExc (.type "StopIteration") [] >>= _) _ _ _
  refine wpAny_bind ?_
  simp only [newExc, newTuple]
  refine wpAny_bind (wpAny_newObj_type ?_ (by size_fits))
  refine wpAny_bind (m := firstArgMember _ _) (wpAny_of_eq (a := Value.none) (by first | rfl | (simp only [firstArgMember]; rfl)) ?_)
  refine wpAny_newObj_type ?_ (by size_fits)
  simp only [raiseNew]
  refine wpAny_bind (wpAny_handled ?_)
  first | rw [show A.in1.handled = none from hh] | rw [hh]
  refine wpAny_bind (wpAny_pure (wpAny_throw ?_))
  exact hE _ _ (((Heap.SameBut.update ..).extBut.push _).push _) ⟨_, Heap.get?_push_size _ rfl, rfl⟩

theorem pyNext_item {Q : Option Value → Shared → Prop} (hit : s.heap.IsListIter it l i) (hl : SeqAt s.heap l items) (hx : items[i]? = some x)
    (hQ : ∀ h', h'.IsListIter it l (i + 1) → Heap.SameBut it s.heap h' → Q (some x) { s with heap := h' }) : wpAny (model prog w) A (pyNext (.ref it)) Q E s := by
  unfold pyNext
  exact wpAny_bind (wpAny_attempt (wpAny_callSpecial?_slot (name := Str.ofString "__next__") hit.typeIs slot_listiter_next (next_item hit hl hx fun h' a b => wpAny_pure (hQ h' a b))))
theorem pyNext_end {Q : Option Value → Shared → Prop} (hh : A.handled = none) (hit : s.heap.IsListIter it l i) (hl : SeqAt s.heap l items) (hx : items[i]? = none)
    (hQ : ∀ h', Heap.ExtBut it s.heap h' → Q none { s with heap := h' }) : wpAny (model prog w) A (pyNext (.ref it)) Q E s := by
  unfold pyNext
  refine wpAny_bind (wpAny_attempt (wpAny_callSpecial?_slot (name := Str.ofString "__next__") hit.typeIs slot_listiter_next (next_end hh hit hl hx fun h' e a b => ?_)))
  obtain ⟨o, ho, hc⟩ := b
  refine wpAny_bind (wpAny_isInstance (T := "StopIteration") (b := true) ⟨o, ho, hc⟩ isSubtype_stop ?_)
  exact wpAny_pure (hQ _ a)
theorem nextOf_item {Q : Value → Shared → Prop} (hit : s.heap.IsListIter it l i) (hl : SeqAt s.heap l items) (hx : items[i]? = some x)
    (hQ : ∀ h', h'.IsListIter it l (i + 1) → Heap.SameBut it s.heap h' → Q x { s with heap := h' }) : wpAny (model prog w) A (Builtin.SmallTypes.nextOf (.ref it)) Q E s := by
  unfold Builtin.SmallTypes.nextOf
  exact wpAny_bind (wpAny_callSpecial?_slot (name := Str.ofString "__next__") hit.typeIs slot_listiter_next (next_item hit hl hx fun h' a b => wpAny_pure (hQ h' a b)))
theorem nextOf_end {Q : Value → Shared → Prop} (hh : A.handled = none) (hit : s.heap.IsListIter it l i) (hl : SeqAt s.heap l items) (hx : items[i]? = none)
    (hE : ∀ h' e, Heap.ExtBut it s.heap h' → (∃ o, h'.get? e = some o ∧ o.cls = .type "StopIteration") → E (.ref e) { s with heap := h' }) :
    wpAny (model prog w) A (Builtin.SmallTypes.nextOf (.ref it)) Q E s := by
  unfold Builtin.SmallTypes.nextOf
  exact wpAny_bind (wpAny_callSpecial?_slot (name := Str.ofString "__next__") hit.typeIs slot_listiter_next (next_end hh hit hl hx hE))
end

theorem SeqAt.at {h h' : Heap} {l : Addr} {items : Array Value} (x : SeqAt h l items) (k : ∀ o, h.get? l = some o → h'.get? l = some o) : SeqAt h' l items := let ⟨o, n, g, d⟩ := x; ⟨o, n, k o g, d⟩
theorem draws_seq {prog : Program} {w : World} {A : Around} (hh : A.handled = none) (it l : Addr) (hne : l ≠ it) (items : Array Value) :
    Draws prog w A it [it, l] items.size (fun i v => items[i]? = some v) (fun i h => h.IsListIter it l i ∧ SeqAt h l items) where
  live := fun _ _ st => let ⟨o, ho, _⟩ := st.1; ⟨o, ho⟩
  frame := fun _ _ _ st hk => ⟨st.1.at fun o e => hk it (by simp) o e, st.2.at fun o e => hk l (by simp) o e⟩
  item := fun i s Q E hi st hQ => by
    refine nextOf_item st.1 st.2 (x := items[i]) (by simp [hi]) fun h' hit' hs' => ?_
    exact hQ _ h' s.toks (by simp [hi]) ⟨hit', st.2.at fun o e => (hs'.2 l hne).trans e⟩ hs'
  done := fun s Q E st hE => nextOf_end hh st.1 st.2 (by simp) hE

/-- what may be stored to while a row of things is drawn -/
def TokZ (z : Shared) (T : List Addr) : Prop := ∀ t ∈ T, nTop ≤ t ∧ ∀ o, z.heap.get? t = some o → infra o = true
/-- no tuple, no tag -/
def Soft (o : Obj) : Prop := infra o = true ∨ o.cls = .type "list" ∨ o.cls = .ref cTags ∨ o.cls = .type "frame"
def flat (d : D) : Bool := !bears (.type "list") d && !bears (.ref cTags) d
theorem Soft.apart {o : Obj} {d : D} (h : Soft o) (f : flat d = true) : apart o d := by
  simp only [flat, Bool.and_eq_true, Bool.not_eq_true'] at f
  rcases h with h | h | h | h
  · exact .inl h
  · exact .inr (by rw [h]; exact f.1)
  · exact .inr (by rw [h]; exact f.2)
  · exact .inr (by rw [h]; exact bears_frame _)
theorem Soft.apartL {o : Obj} : ∀ {ds : List D}, Soft o → (∀ d ∈ ds, flat d = true) → Mine.apartL o ds
  | [], h, _ => .inr rfl
  | d :: ds, h, f => by
    rcases h.apart (f d (List.mem_cons_self ..)) with q | q
    · exact .inl q
    · rcases Soft.apartL h (fun d hd => f d (List.mem_cons_of_mem _ hd)) with r | r
      · exact .inl r
      · refine .inr ?_
        simp only [bearsL, q, r]; rfl
def Step (lax : Bool) (z : Shared) (S : List Addr) (G : List Nat) (T : List Addr) (s s' : Shared) : Prop := ∃ W, ExtG W G s s' ∧ ∀ b ∈ W, b ∉ T ∧ (b ∈ S ∨ z.heap.get? b = none) ∧ ∀ o, s.heap.get? b = some o → infra o = true ∨ (lax = true ∧ Soft o)

theorem Step.soft {lax : Bool} {o : Obj} (h : infra o = true ∨ (lax = true ∧ Soft o)) : Soft o := h.elim .inl (·.2)
theorem Step.ext {lax : Bool} {z s s' : Shared} {S T : List Addr} {G : List Nat} (e : ExtG (S ++ T) G z s) (x : Step lax z S G T s s') : ExtG (S ++ T) G z s' := by
  obtain ⟨W, y, h⟩ := x
  have o : ∀ i ∈ S ++ T ++ W, nTop ≤ i := fun i hi => (List.mem_append.mp hi).elim (e.own i) (y.own i)
  refine ((e.wk (fun i hi => List.mem_append_left _ hi) o).trans (y.wk (fun i hi => List.mem_append_right _ hi) o)).drop (fun i hi => ?_) e.own
  rcases List.mem_append.mp hi with q | q
  · exact .inl q
  · exact (h i q).2.1.imp (fun q => List.mem_append_left _ q) id
theorem ext_T {z s s' : Shared} {S T T' : List Addr} {G : List Nat} (e : ExtG (S ++ T) G z s) (x : Ext T' s s') (h : ∀ i ∈ T', i ∈ T ∨ z.heap.get? i = none) : ExtG (S ++ T) G z s' := by
  have o : ∀ i ∈ S ++ T ++ T', nTop ≤ i := fun i hi => (List.mem_append.mp hi).elim (e.own i) (x.own i)
  refine ((e.wk (fun i hi => List.mem_append_left _ hi) o).trans (x.anyG.wk (fun i hi => List.mem_append_right _ hi) o)).drop (fun i hi => ?_) e.own
  rcases List.mem_append.mp hi with q | q
  · exact .inl q
  · exact (h i q).imp (fun q => List.mem_append_right _ q) id

/-- the things that a drawn row stands on are no names' places -/
def Dull (z : Shared) (S : List Addr) : Prop := ∀ a ∈ S, ∀ o, z.heap.get? a = some o → (∀ v, o.data ≠ .cell v) ∧ ∀ es ep, o.data ≠ .dict es ep
theorem Bound.extS {env : Env} {s s' : Shared} {x : Str} {v : Value} {S : List Addr} {G : List Nat} (b : Bound env s x v) (hn : ∀ i ∈ own env, nTop ≤ i) (e : ExtG S G s s') (hd : Dull s S) : Bound env s' x v := by
  rcases b with ⟨k, m, h, q⟩ | ⟨k, c, h, n, q⟩
  · refine .inl ⟨k, m, e.ns (hn _ (List.mem_cons_self ..)) (fun hm => ?_) h, q⟩
    obtain ⟨o, es, ep, g, dd, _⟩ := h
    exact (hd _ hm o g).2 _ _ dd
  · refine .inr ⟨k, c, h, n, e.cell n (fun hm => ?_) q⟩
    obtain ⟨o, g, dd⟩ := q
    exact (hd _ hm o g).1 _ dd
theorem Holds.extV {w : World} {env : Env} {σ : List (Str × D)} {s s' : Shared} {S : List Addr} {G : List Nat} (H : Holds w env σ s) (e : ExtG S G s s') (hd : Dull s S)
    (hv : ∀ y d v, σ.lookup y = some d → Bound env s y v → Val s.heap d v → Val s'.heap d v) : Holds w env σ s' where
  base := H.base.ext e
  big := H.big
  fn := H.fn
  gl := H.gl
  bi := H.bi
  ns := by
    obtain ⟨m, h⟩ := H.ns
    refine ⟨m, e.ns (H.big _ (List.mem_cons_self ..)) (fun hm => ?_) h⟩
    obtain ⟨o, es, ep, g, dd, _⟩ := h
    exact (hd _ hm o g).2 _ _ dd
  cells := fun n c hc => by
    obtain ⟨v, q⟩ := H.cells n c hc
    refine ⟨v, e.cell (H.big _ (List.mem_cons_of_mem _ (List.mem_map.mpr ⟨_, mem_of_lookup hc, rfl⟩))) (fun hm => ?_) q⟩
    obtain ⟨o, g, dd⟩ := q
    exact (hd _ hm o g).1 _ dd
  lone := fun o g => by
    obtain ⟨m, o', es, ep, g', dd, r⟩ := H.ns
    have := e.keep _ _ g' (fun hm => (hd _ hm o' g').2 _ _ dd) (nTop_PH (H.big _ (List.mem_cons_self ..))) (nTop_PL (H.big _ (List.mem_cons_self ..)))
    rw [g] at this; cases this
    exact H.lone o g'
  inj := H.inj
  vals := fun x d q => let ⟨v, b, h⟩ := H.vals x d q; ⟨v, b.extS H.big e hd, hv x d v q b h⟩
theorem Holds.extS {w : World} {env : Env} {σ : List (Str × D)} {s s' : Shared} {S : List Addr} {G : List Nat} (H : Holds w env σ s) (e : ExtG S G s s') (hd : Dull s S)
    (ha : ∀ y d, σ.lookup y = some d → ∀ a ∈ S, ∀ o, s.heap.get? a = some o → apart o d) : Holds w env σ s' := H.extV e hd fun y d v q _ h => e.val H.base (ha y d q) h

structure Src (lax : Bool) (w : World) (A : Around) (target : Expr) (I : Addr) (z : Shared) (S : List Addr) (G : List Nat) (ds : List D) (St : List Addr → Nat → Shared → Prop) (Fin : Shared → Prop) : Prop where
  frame : ∀ T i s s', St T i s → Base w s → Ext T s s' → St T i s'
  item : ∀ T i s d, TokZ z T → (∀ t ∈ T, ∃ o, s.heap.get? t = some o) → St T i s → Base w s → ExtG (S ++ T) G z s → ds[i]? = some d →
    wpAny (md w) A (pyNext (.ref I)) (fun r s' => ∃ v, r = some v ∧ wpAny (md w) A (letOwnedTupleGo target (.ref I) v) (fun _ s'' => (∀ s', Ext T s'' s' → Val s'.heap d v) ∧ St T (i + 1) s'' ∧ Step lax z S G T s s'') noE s') noE s
  done : ∀ T s, TokZ z T → (∀ t ∈ T, ∃ o, s.heap.get? t = some o) → St T ds.length s → Base w s → ExtG (S ++ T) G z s → wpAny (md w) A (pyNext (.ref I)) (fun r s' => r = none ∧ Step lax z S G T s s' ∧ Fin s') noE s
  self : ∀ T s, St T 0 s → wpAny (md w) A (pyIter (.ref I)) (fun v s' => v = .ref I ∧ s' = s) noE s

theorem Vals.drop {h : Heap} : ∀ {ds : List D} {vs : List Value} (i : Nat), Vals h ds vs → Vals h (ds.drop i) (vs.drop i)
  | _, _, 0, x => x
  | [], _, _ + 1, e => by rw [show _ = [] from e]; exact rfl
  | _ :: _, _, i + 1, ⟨v, r, e, _, y⟩ => by subst e; exact Vals.drop i y

theorem Base.notab {w : World} {s : Shared} (B : Base w s) {a : Addr} {o : Obj} (g : s.heap.get? a = some o) (hc : o.cls ≠ .none) : a ≠ PH ∧ a ≠ PL :=
  ⟨fun e => by obtain ⟨ps, t⟩ := B.tH; rw [e, t.tab] at g; cases g; exact hc rfl, fun e => by obtain ⟨ps, t⟩ := B.tL; rw [e, t.tab] at g; cases g; exact hc rfl⟩
theorem gone {h : Heap} {a : Addr} (q : h.objs.size ≤ a) : h.get? a = none := by
  cases e : h.get? a with
  | none => rfl
  | some o => exact absurd (Heap.lt_size e) (Nat.not_lt.mpr q)
theorem Base.fresh {w : World} {s z : Shared} (B : Base w s) (x : Ext [] s z) {a : Addr} (ha : z.heap.get? a = none) : s.heap.get? a = none := by
  cases e : s.heap.get? a with
  | none => rfl
  | some o =>
    by_cases q : a = PH ∨ a = PL
    · exfalso
      have Bz := B.ext x
      rcases q with q | q
      · obtain ⟨ps, t⟩ := Bz.tH; rw [q, t.tab] at ha; cases ha
      · obtain ⟨ps, t⟩ := Bz.tL; rw [q, t.tab] at ha; cases ha
    · have := x.keep a o e (by simp) (fun h => q (.inl h)) (fun h => q (.inr h))
      rw [ha] at this; cases this
/-- a new place -/
abbrev New (s : Shared) (a : Addr) : Prop := s.heap.get? a = none ∧ nTop ≤ a
theorem Base.newer {w : World} {s z : Shared} (B : Base w s) (x : Ext [] s z) {a : Addr} (ha : New z a) : New s a := ⟨B.fresh x ha.1, ha.2⟩
theorem Src.now {s : Shared} {T : List Addr} {d : D} {v : Value} (hT : ∀ t ∈ T, nTop ≤ t) (h : ∀ s', Ext T s s' → Val s'.heap d v) : Val s.heap d v := h s ((Ext.refl s).wk0 hT)
/-- a list's things, told at the start -/
structure Told (w : World) (z : Shared) (S : List Addr) (ds : List D) (vs : List Value) : Prop where
  base : Base w z
  vals : Vals z.heap ds vs
  apart : ∀ a ∈ S, ∀ o, z.heap.get? a = some o → infra o = true
theorem Told.get {w : World} {z s : Shared} {S T : List Addr} {G : List Nat} {ds : List D} {vs : List Value} (x : Told w z S ds vs) (hT : TokZ z T) (e : ExtG (S ++ T) G z s) {i : Nat} {d : D} (hd : ds[i]? = some d) :
    ∃ v, vs[i]? = some v ∧ Val s.heap d v := by
  obtain ⟨v, h1, h2⟩ := x.vals.get hd
  refine ⟨v, h1, e.val x.base (fun a ha o g => .inl ?_) h2⟩
  rcases List.mem_append.mp ha with q | q
  · exact x.apart a q o g
  · exact (hT a q).2 o g

theorem iter_free {h : Heap} {I l : Addr} {i : Nat} (x : h.IsListIter I l i) : ∀ a ∈ [I], ∀ o, h.get? a = some o → free o = true ∧ infra o = true := fun a ha o g => by
  obtain ⟨o', g', c, d⟩ := x
  rw [List.mem_singleton.mp ha, g'] at g; cases g
  exact ⟨by unfold free; rw [d, c]; rfl, by unfold infra; rw [d]⟩

theorem src_list {w : World} {A : Around} {x : Str} {px : Pos} {I ax : Addr} {z : Shared} {ds : List D} {vs : List Value} (hh : A.handled = none) (hI : nTop ≤ I) (hne : ax ≠ I) (hax : ax ≠ PH ∧ ax ≠ PL) (hz : z.heap.IsListIter I ax 0) (told : Told w z [I] ds vs) :
    Src false w A (.Name x px) I z [I] [] ds (fun T i s => I ∉ T ∧ ax ∉ T ∧ s.heap.IsListIter I ax i ∧ SeqAt s.heap ax vs.toArray) (fun _ => True) where
  frame := fun T i s s' ⟨h1, h2, h3, h4⟩ B e => ⟨h1, h2, h3.at fun o g => e.keep I o g h1 (nTop_PH hI) (nTop_PL hI), h4.at fun o g => e.keep ax o g h2 hax.1 hax.2⟩
  item := fun T i s d hT _ ⟨h1, h2, h3, h4⟩ B e hd => by
    obtain ⟨v, hv, hval⟩ := told.get hT e hd
    refine pyNext_item h3 h4 (x := v) (by simpa using hv) fun h' hit' hs' => ⟨v, rfl, wpAny_pure ?_⟩
    have k : ∀ b o, b ∉ [I] → s.heap.get? b = some o → h'.get? b = some o := fun b o hb g => (hs'.2 b (fun q => hb (by simp [q]))).trans g
    have x := Ext.sets (t := s.toks) (S := [I]) (fun a ha => by rw [List.mem_singleton.mp ha]; exact hI) (fun a ha o g => (iter_free h3 a ha o g).1) k
    have st : Step false z [I] [] T s { s with heap := h', toks := s.toks } := ⟨[I], x, fun b hb => ⟨by rw [List.mem_singleton.mp hb]; exact h1, .inl hb, fun o g => .inl (iter_free h3 b hb o g).2⟩⟩
    refine ⟨fun s' y => ?_, ⟨h1, h2, hit', h4.at fun o g => k ax o (by simp [hne]) g⟩, st⟩
    obtain ⟨v', hv', hval'⟩ := told.get hT (ext_T (st.ext e) y fun i hi => .inl hi) hd
    rw [hv] at hv'; cases hv'; exact hval'
  done := fun T s hT _ ⟨h1, h2, h3, h4⟩ B e => by
    refine pyNext_end hh h3 h4 (by have := told.vals.length; simp [this]) fun h' hk => ⟨rfl, ⟨[I], Ext.sets (t := s.toks) (S := [I]) (fun a ha => by rw [List.mem_singleton.mp ha]; exact hI) (fun a ha o g => (iter_free h3 a ha o g).1) (fun b o hb g => hk b o (fun q => hb (by simp [q])) g), fun b hb => ⟨by rw [List.mem_singleton.mp hb]; exact h1, .inl hb, fun o g => .inl (iter_free h3 b hb o g).2⟩⟩, trivial⟩
  self := fun T s ⟨h1, h2, h3, h4⟩ => wpAny_pyIter_listiter h3 ⟨rfl, rfl⟩

/-- numbered things -/
def numbered (ds : List D) : List D := ds.mapIdx fun i d => .tup [.int i, d]

theorem enum_free {h : Heap} {e it : Addr} {i : Int} {old : Value} (x : IsEnum h e it i old) : ∀ o, h.get? e = some o → free o = true ∧ infra o = true := fun o g => by
  have g' : h.get? e = _ := x
  rw [g'] at g; cases g
  exact ⟨rfl, rfl⟩
theorem enumOut_free {h : Heap} {e it : Addr} {i : Int} {x : Value} {a : Addr} (x : IsEnumOut h e it i x a) : ∀ o, h.get? e = some o → free o = true ∧ infra o = true := fun o g => by
  have g' : h.get? e = _ := x
  rw [g'] at g; cases g
  exact ⟨rfl, rfl⟩

theorem src_enum {w : World} {A : Around} {elts : List Expr} {k : Nat} {pos : Pos} {I it ax : Addr} {z : Shared} {ds : List D} {vs : List Value} (hh : A.handled = none) (hI : nTop ≤ I) (hit : nTop ≤ it) (hax : ax ≠ PH ∧ ax ≠ PL)
    (hne : ax ≠ I) (hne2 : ax ≠ it) (hne3 : I ≠ it) (told : Told w z [I, it] ds vs) :
    Src false w A (.Tuple elts k pos) I z [I, it] [] (numbered ds) (fun T i s => I ∉ T ∧ it ∉ T ∧ ax ∉ T ∧ (∃ old, IsEnum s.heap I it i old) ∧ s.heap.IsListIter it ax i ∧ SeqAt s.heap ax vs.toArray) (fun _ => True) where
  frame := fun T i s s' ⟨h1, h2, h3, ⟨old, h4⟩, h5, h6⟩ B e => ⟨h1, h2, h3, ⟨old, e.keep I _ h4 h1 (nTop_PH hI) (nTop_PL hI)⟩, h5.at fun o g => e.keep it o g h2 (nTop_PH hit) (nTop_PL hit), h6.at fun o g => e.keep ax o g h3 hax.1 hax.2⟩
  item := fun T i s d hT hTx ⟨h1, h2, h3, ⟨old, h4⟩, h5, h6⟩ B e hd => by
    have hin : ∃ d', ds[i]? = some d' ∧ d = .tup [.int i, d'] := by
      unfold numbered at hd
      rw [List.getElem?_mapIdx] at hd
      cases q : ds[i]? with
      | none => rw [q] at hd; cases hd
      | some d' => rw [q] at hd; exact ⟨d', rfl, by simpa using hd.symm⟩
    obtain ⟨d', hd', rfl⟩ := hin
    obtain ⟨v, hv, hval⟩ := told.get hT e hd'
    have hv' : vs.toArray[i]? = some v := by simpa using hv
    have hlt : i < vs.toArray.size := (Array.getElem?_eq_some_iff.mp hv').1
    refine wpAny_pyNext_enum_itemD (draws_seq (A := A.in1) hh it ax hne2 vs.toArray) h4 ⟨h5, h6⟩ hlt hne3 (by simp [hne3, hne.symm]) fun x h' tk hP ho hs' hTup hsz hk => ?_
    have hx : x = v := by rw [hv'] at hP; exact (Option.some.inj hP).symm
    subst hx
    refine ⟨_, rfl, wpAny_letOwnedTupleGo_enum ho fun h₂ he₂ hs₂ => ?_⟩
    have free2 : ∀ a ∈ [I, it], ∀ o, s.heap.get? a = some o → free o = true ∧ infra o = true := fun a ha o g => by
      rcases List.mem_cons.mp ha with q | q
      · rw [q] at g; exact enum_free h4 o g
      · exact iter_free h5 a q o g
    have k1 : ∀ b o, b ∉ [I, it] → s.heap.get? b = some o → h₂.get? b = some o := fun b o hb g => (hs₂.2 b (fun q => hb (by simp [q]))).trans (hk b o (fun q => hb (by simp [q])) (fun q => hb (by simp [q])) g)
    have hown : ∀ a ∈ [I, it], nTop ≤ a := fun a ha => by
      rcases List.mem_cons.mp ha with q | q
      · rw [q]; exact hI
      · rw [List.mem_singleton.mp q]; exact hit
    have X := Ext.sets (t := tk + 1) (S := [I, it]) hown (fun a ha o g => (free2 a ha o g).1) k1
    have hn : s.heap.objs.size ≠ I := fun q => by
      have := Heap.lt_size (show s.heap.get? I = _ from h4)
      rw [← q] at this; exact Nat.lt_irrefl _ this
    have st : Step false z [I, it] [] T s { s with heap := h₂, toks := tk + 1 } := ⟨[I, it], X, fun b hb => ⟨fun q => ?_, .inl hb, fun o g => .inl (free2 b hb o g).2⟩⟩
    refine ⟨fun s' y => ?_, ⟨h1, h2, h3, ⟨_, by simpa using he₂⟩, hs'.1.at fun o g => (hs₂.2 it hne3.symm).trans g, hs'.2.at fun o g => (hs₂.2 ax hne).trans g⟩, st⟩
    · obtain ⟨v', hv2, hval'⟩ := told.get hT (ext_T (st.ext e) y fun i hi => .inl hi) hd'
      rw [hv] at hv2; cases hv2
      have hnT : s.heap.objs.size ∉ T := fun m => by
        obtain ⟨o, g⟩ := hTx _ m
        rw [gone (Nat.le_refl _)] at g; cases g
      have hn2 : nTop ≤ s.heap.objs.size := B.big
      exact ⟨_, [_, _], 0, rfl, y.keep _ _ ((hs₂.2 _ hn).trans hTup) hnT (fun e => by rw [e] at hn2; exact absurd hn2 (by decide)) (fun e => by rw [e] at hn2; exact absurd hn2 (by decide)), _, _, rfl, ⟨_, rfl⟩, _, _, rfl, hval', rfl⟩
    · rcases List.mem_cons.mp hb with r | r
      · rw [r] at q; exact h1 q
      · rw [List.mem_singleton.mp r] at q; exact h2 q
  done := fun T s hT _ ⟨h1, h2, h3, ⟨old, h4⟩, h5, h6⟩ B e => by
    have hl : (numbered ds).length = vs.toArray.size := by have := told.vals.length; simp [numbered, this]
    rw [hl] at h4 h5
    refine wpAny_pyNext_enum_endD (draws_seq (A := A.in1) hh it ax hne2 vs.toArray) h4 ⟨h5, h6⟩ fun h' hk => ⟨rfl, ⟨[it], Ext.sets (t := s.toks) (S := [it]) (fun a ha => by rw [List.mem_singleton.mp ha]; exact hit) (fun a ha o g => (iter_free h5 a ha o g).1) (fun b o hb g => hk b o (fun q => hb (by simp [q])) g), fun b hb => ⟨by rw [List.mem_singleton.mp hb]; exact h2, .inl (by rw [List.mem_singleton.mp hb]; simp), fun o g => .inl (iter_free h5 b hb o g).2⟩⟩, trivial⟩
  self := fun T s ⟨h1, h2, h3, ⟨old, h4⟩, h5, h6⟩ => wpAny_pyIter_enum h4 ⟨rfl, rfl⟩
end Mine
end
section
open PySem PySem.W PyProof.Rows
set_option Elab.async false
namespace Mine

/-! a comprehension's own block -/
def CI (h : Heap) (cs : List (Str × Addr)) : Prop :=
  (∀ x c, cs.lookup x = some c → ∃ v, h.IsCell c v) ∧ (∀ x y c, cs.lookup x = some c → cs.lookup y = some c → x = y)
theorem CI.lay : ∀ (names : List (Str × NameKind)) (h : Heap) (acc : List (Str × Addr)), CI h acc → CI (pushCells h names) (cellsFrom h.objs.size names acc)
  | [], _, _, x => x
  | (name, kind) :: r, h, acc, x => by
    unfold pushCells cellsFrom
    split
    · have old : ∀ y c, acc.lookup y = some c → c < h.objs.size := fun y c q => let ⟨v, z⟩ := x.1 y c q; z.lt
      have := CI.lay r (h.push { cls := .type "cell", data := .cell none }) ((name, h.objs.size) :: acc) ⟨fun y c q => ?_, fun y z c q1 q2 => ?_⟩
      · rwa [Heap.size_push] at this
      · rw [List.lookup_cons] at q
        split at q
        · cases q; exact ⟨none, _, Heap.get?_push_size _ rfl, rfl⟩
        · obtain ⟨v, z⟩ := x.1 y c q; exact ⟨v, z.keeps fun b o e => Heap.get?_push_of_some _ e⟩
      · rw [List.lookup_cons] at q1 q2
        split at q1 <;> split at q2
        · rename_i _ a _ b; rw [beq_iff_eq.mp a, beq_iff_eq.mp b]
        · cases q1; exact absurd (old _ _ q2) (Nat.lt_irrefl _)
        · cases q2; exact absurd (old _ _ q1) (Nat.lt_irrefl _)
        · exact x.2 y z c q1 q2
    · exact CI.lay r h acc x
theorem cellsFrom_mem : ∀ (names : List (Str × NameKind)) (n : Nat) (acc : List (Str × Addr)) (p : Str × Addr), p ∈ cellsFrom n names acc → p ∈ acc ∨ n ≤ p.2
  | [], _, _, _, h => .inl h
  | (name, kind) :: r, n, acc, p, h => by
    unfold cellsFrom at h
    split at h
    · rcases cellsFrom_mem r (n + 1) _ p h with q | q
      · rcases List.mem_cons.mp q with e | q
        · rw [e]; exact .inr (Nat.le_refl _)
        · exact .inl q
      · exact .inr (Nat.le_of_succ_le q)
    · exact cellsFrom_mem r n acc p h
theorem cellsFrom_own {x : Str} {lo : Nat} : ∀ (names : List (Str × NameKind)) (n : Nat) (acc : List (Str × Addr)), lo ≤ n → ((∃ c, acc.lookup x = some c ∧ lo ≤ c) ∨ names.lookup x = some .cell) → ∃ c, (cellsFrom n names acc).lookup x = some c ∧ lo ≤ c
  | [], _, _, _, h => by
    rcases h with h | h
    · exact h
    · simp at h
  | (name, kind) :: r, n, acc, hl, h => by
    unfold cellsFrom
    split
    · refine cellsFrom_own r (n + 1) _ (Nat.le_succ_of_le hl) ?_
      rw [List.lookup_cons] at h ⊢
      split
      · exact .inl ⟨n, rfl, hl⟩
      · rename_i q; simp only [q] at h; exact h
    · rename_i hk
      refine cellsFrom_own r n acc hl ?_
      rcases h with h | h
      · exact .inl h
      · rw [List.lookup_cons] at h
        split at h
        · cases h; exact absurd rfl hk
        · exact .inr h
theorem cellsFrom_free {x : Str} : ∀ (names : List (Str × NameKind)) (n : Nat) (acc : List (Str × Addr)), (names.any fun q => q.1 == x && q.2 == .cell) = false → (cellsFrom n names acc).lookup x = acc.lookup x
  | [], _, _, _ => rfl
  | (name, kind) :: r, n, acc, h => by
    rw [List.any_cons, Bool.or_eq_false_iff] at h
    unfold cellsFrom
    split
    · rename_i hk
      rw [cellsFrom_free r _ _ h.2, List.lookup_cons]
      have : (x == name) = false := by
        have := h.1
        rw [hk, Bool.and_true] at this
        rw [beq_eq_false_iff_ne] at this ⊢
        exact fun e => this e.symm
      rw [this]
    · exact cellsFrom_free r n acc h.2

def clos (cells : List (Str × Addr)) : List (Str × NameKind) → List (Str × Addr) → List (Str × Addr)
  | [], acc => acc
  | (n, k) :: r, acc => if k == .free then clos cells r ((n, (cells.lookup n).getD 0) :: acc) else clos cells r acc
theorem clos_mem {cells : List (Str × Addr)} : ∀ (names : List (Str × NameKind)) (acc : List (Str × Addr)), (∀ p ∈ names, p.2 = .free → (cells.lookup p.1).isSome = true) → (∀ x c, (x, c) ∈ acc → cells.lookup x = some c) →
    ∀ x c, (x, c) ∈ clos cells names acc → cells.lookup x = some c
  | [], _, _, h => h
  | (n, k) :: r, acc, hs, h => by
    unfold clos
    split
    · rename_i hk
      refine clos_mem r _ (fun p hp => hs p (List.mem_cons_of_mem _ hp)) fun x c hx => ?_
      rcases List.mem_cons.mp hx with e | q
      · cases e
        obtain ⟨c, hc⟩ := Option.isSome_iff_exists.mp (hs (n, k) (List.mem_cons_self ..) (by simpa using hk))
        rw [hc]; rfl
      · exact h x c q
    · exact clos_mem r _ (fun p hp => hs p (List.mem_cons_of_mem _ hp)) h
theorem clos_some {cells : List (Str × Addr)} {x : Str} : ∀ (names : List (Str × NameKind)) (acc : List (Str × Addr)), ((acc.lookup x).isSome = true ∨ (x, NameKind.free) ∈ names) → ((clos cells names acc).lookup x).isSome = true
  | [], _, h => by
    rcases h with h | h
    · exact h
    · cases h
  | (n, k) :: r, acc, h => by
    unfold clos
    split
    · refine clos_some r _ ?_
      rw [List.lookup_cons]
      split
      · exact .inl rfl
      · rename_i q
        refine h.imp id fun m => ?_
        rcases List.mem_cons.mp m with e | m
        · cases e; simp at q
        · exact m
    · rename_i hk
      refine clos_some r _ (h.imp id fun m => ?_)
      rcases List.mem_cons.mp m with e | m
      · cases e; exact absurd rfl hk
      · exact m
theorem closure_eq {env : Env} : ∀ (names : List (Str × NameKind)) (acc : List (Str × Addr)), (∀ p ∈ names, p.2 = .free → (env.cells.lookup p.1).isSome = true) →
    (forIn names acc fun (x : Str × NameKind) r => (if (x.2 == .free) = true then do let a ← cellOf env x.1; pure (.yield ((x.1, a) :: r)) else pure (.yield r) : Sem (ForInStep (List (Str × Addr))))) = pure (clos env.cells names acc)
  | [], _, _ => rfl
  | (n, k) :: r, acc, h => by
    rw [List.forIn_cons]
    unfold clos
    by_cases hk : (k == .free) = true
    · rw [if_pos hk, if_pos hk]
      obtain ⟨c, hc⟩ := Option.isSome_iff_exists.mp (h (n, k) (List.mem_cons_self ..) (by simpa using hk))
      have : cellOf env n = pure c := by unfold cellOf; rw [hc]
      rw [this, hc]
      exact closure_eq r _ fun p hp => h p (List.mem_cons_of_mem _ hp)
    · rw [if_neg hk, if_neg hk]
      exact closure_eq r _ fun p hp => h p (List.mem_cons_of_mem _ hp)

/-- what a comprehension's block wants of the names -/
def compOk (scope : Scope) (env : Env) : Bool :=
  scope.names.all fun p => (p.2 != .free || ((env.kindOf p.1 == some .cell || env.kindOf p.1 == some .free) && (env.cells.lookup p.1).isSome && !(scope.names.any fun q => q.1 == p.1 && q.2 == .cell))) &&
    (p.2 != .local || scope.names.lookup p.1 == some .local)

theorem closureFor_eq {scope : Scope} {env : Env} (h : compOk scope env = true) : closureFor scope env = pure (clos env.cells scope.names []) := by
  have h' : ∀ p ∈ scope.names, p.2 = .free → (env.cells.lookup p.1).isSome = true := fun p hp hf => by
    have := List.all_eq_true.mp h p hp
    rw [hf] at this
    simp only [bne_self_eq_false, Bool.false_or, Bool.and_eq_true] at this
    exact this.1.1.2
  have := closure_eq (env := env) scope.names [] h'
  unfold closureFor
  simp only [this]
  rfl

theorem compOk_free {scope : Scope} {env : Env} (h : compOk scope env = true) {x : Str} (hf : scope.names.lookup x = some .free) :
    (env.kindOf x = some .cell ∨ env.kindOf x = some .free) ∧ ∀ n, (cellsFrom n scope.names (clos env.cells scope.names [])).lookup x = env.cells.lookup x ∧ (env.cells.lookup x).isSome = true := by
  have hm : (x, NameKind.free) ∈ scope.names := mem_of_lookup hf
  have := List.all_eq_true.mp h _ hm
  simp only [bne_self_eq_false, Bool.false_or, Bool.and_eq_true, Bool.or_eq_true, beq_iff_eq, Bool.not_eq_true'] at this
  refine ⟨this.1.1.1, fun n => ⟨?_, this.1.1.2⟩⟩
  rw [cellsFrom_free _ _ _ this.1.2]
  obtain ⟨c, hc⟩ := Option.isSome_iff_exists.mp (clos_some (cells := env.cells) scope.names [] (.inr hm))
  have h' : ∀ p ∈ scope.names, p.2 = .free → (env.cells.lookup p.1).isSome = true := fun p hp hf => by
    have := List.all_eq_true.mp h p hp
    rw [hf] at this
    simp only [bne_self_eq_false, Bool.false_or, Bool.and_eq_true] at this
    exact this.1.1.2
  rw [hc, clos_mem scope.names [] h' (fun _ _ q => by cases q) x c (mem_of_lookup hc)]

/-- a comprehension's environment -/
def envK (scope : Scope) (C : Addr) (env : Env) : Env :=
  { scope := relabel scope env, locals := C, globals := env.globals, cells := cellsFrom (C + 1) scope.names (clos env.cells scope.names []), qual := env.qual, func := none, code := env.code, frame := env.frame, builtins := env.builtins }

theorem lookup_relabel {scope : Scope} {env : Env} {x : Str} : (relabel scope env).names.lookup x = (scope.names.lookup x).map fun k => if (k == .free && env.scope.kind == .function && env.kindOf x == some .cell) then .cell else k := by
  unfold relabel
  show List.lookup x (scope.names.map _) = _
  generalize scope.names = l
  induction l with
  | nil => rfl
  | cons p r ih =>
    obtain ⟨n, k⟩ := p
    rw [List.map_cons, List.lookup_cons]
    by_cases hc : (k == .free && env.scope.kind == .function && env.kindOf n == some .cell) = true
    · simp only [if_pos hc]
      rw [List.lookup_cons]
      cases hx : x == n with
      | true => have e : x = n := beq_iff_eq.mp hx; subst e; simp only [Option.map_some, if_pos hc]
      | false => exact ih
    · simp only [if_neg hc]
      rw [List.lookup_cons]
      cases hx : x == n with
      | true => have e : x = n := beq_iff_eq.mp hx; subst e; simp only [Option.map_some, if_neg hc]
      | false => exact ih

/-- the addresses that a comprehension's own run may store to -/
def tempo (scope : Scope) (Da : Addr) (env : Env) : List Addr :=
  Da :: (Da + 1) :: ((envK scope (Da + 1) env).cells.filter fun p => Nat.ble (Da + 2) p.2 && (envK scope (Da + 1) env).cells.lookup p.1 == some p.2).map (·.2)
theorem tempo_at {scope : Scope} {Da : Addr} {env : Env} {x : Str} {c : Addr} (h : (envK scope (Da + 1) env).cells.lookup x = some c) (hc : Da + 2 ≤ c) : c ∈ tempo scope Da env :=
  List.mem_cons_of_mem _ (List.mem_cons_of_mem _ (List.mem_map.mpr ⟨(x, c), List.mem_filter.mpr ⟨mem_of_lookup h, by simp [h, Nat.ble_eq_true_of_le hc]⟩, rfl⟩))
theorem tempo_of {scope : Scope} {Da : Addr} {env : Env} {t : Addr} (h : t ∈ tempo scope Da env) : t = Da ∨ t = Da + 1 ∨ (Da + 2 ≤ t ∧ ∃ x, (envK scope (Da + 1) env).cells.lookup x = some t) := by
  rcases List.mem_cons.mp h with q | q
  · exact .inl q
  · rcases List.mem_cons.mp q with q | q
    · exact .inr (.inl q)
    · obtain ⟨p, hp, rfl⟩ := List.mem_map.mp q
      have := (List.mem_filter.mp hp).2
      simp only [Bool.and_eq_true, beq_iff_eq] at this
      exact .inr (.inr ⟨Nat.le_of_ble_eq_true this.1, p.1, this.2⟩)

theorem newCompEnv {M : Model} {A : Around} {E : Value → Shared → Prop} {s : Shared} {scope : Scope} {env : Env} {Q : Env → Shared → Prop}
    (hQ : ∀ h', (∀ b o, s.heap.get? b = some o → h'.get? b = some o) → h'.get? s.heap.objs.size = some { cls := .type "dict", data := .dict #[] } →
      (CI s.heap (clos env.cells scope.names []) → CI h' (envK scope s.heap.objs.size env).cells) →
      Q { envK scope s.heap.objs.size env with scope := scope } { s with heap := h' }) :
    wpAny M A (newFunctionEnv scope env.globals (clos env.cells scope.names []) [] env.qual none .none (some env)) Q E s := by
  simp only [newFunctionEnv, Option.isSome_some, if_true]
  refine wpAny_bind (wpAny_alloc ?_)
  refine wpAny_bind (wpAny_layCells _ (fun name kind cells => by cases hkc : kind == NameKind.cell <;> simp [hkc]) _ _ _ _ ?_)
  refine wpAny_bind ?_
  rw [List.forIn_nil]
  refine wpAny_pure (wpAny_pure ?_)
  have hs : (s.heap.push { cls := .type "dict", data := .dict #[] }).objs.size = s.heap.objs.size + 1 := Heap.size_push ..
  have := hQ (pushCells (s.heap.push { cls := .type "dict", data := .dict #[] }) scope.names) (fun b o e => pushCells_keeps _ _ b o (Heap.get?_push_of_some _ e)) (pushCells_keeps _ _ _ _ (Heap.get?_push_size _ rfl)) fun ci => ?_
  · rw [hs]; exact this
  · have ci' : CI (s.heap.push { cls := .type "dict", data := .dict #[] }) (clos env.cells scope.names []) := ⟨fun x c q => let ⟨v, z⟩ := ci.1 x c q; ⟨v, z.keeps fun b o e => Heap.get?_push_of_some _ e⟩, ci.2⟩
    have := ci'.lay scope.names
    rw [hs] at this
    exact this

end Mine
end
section
open PySem PySem.W PyProof.Rows
set_option Elab.async false
namespace Mine

theorem comp_turns {w : World} {A : Around} {s : Shared} {elt target iter : Expr} {ifs : List Expr} {scope : Scope} {pos : Pos} {it acc : Value} {env : Env} {R : Result → Shared → Prop} (I : Nat → Shared → Prop)
    (turn : ∀ n s, I n s → wpAny (md w) A (pyNext it) (fun r s₁ => match r with
      | none => R (.ok .next) s₁
      | some v => wpAny (md w) A (letOwnedTupleGo target it v) (fun _ s₂ => wpAny (md w) A (assign target env v) (fun _ s₃ =>
          wpAny (md w) A (forIn ifs true fun c r => if r = true then do let ok ← isTrue c env (eval c env); pure (ForInStep.yield ok) else pure (ForInStep.yield r)) (fun ok s₄ =>
            if ok = true then wpAny (md w) A (eval elt env) (fun x s₅ => wpAny (md w) A (call (.builtin "list.append") [acc, x]) (fun _ s₆ => ∃ m, m < n ∧ I m s₆) noE s₅) noE s₄
            else ∃ m, m < n ∧ I m s₄) noE s₃) noE s₂) noE s₁) noE s)
    (n : Nat) (h : I n s) : codeAny (md w) A (.compLoop (.ListComp elt [⟨target, iter, ifs, 0⟩] scope pos) 0 it acc env) R s := by
  refine codeAny_loop rfl I (fun n s hI => ?_) n h
  show wpAny _ A ((compTurn (.ListComp elt [⟨target, iter, ifs, 0⟩] scope pos) 0 it acc env).onRaise (fun x => do noteFrame x env; theTreesLotGoes x)) _ _ s
  refine wpAny_noted ?_
  rw [compTurn_list]
  refine wpAny_bind (wpAny_standAt (wpAny_bind (wpAny_noE (turn n s hI) fun r s₁ h₁ => ?_)))
  cases r with
  | none => exact wpAny_pure h₁
  | some v =>
    refine wpAny_bind (wpAny_noE h₁ fun _ s₂ h₂ => ?_)
    refine wpAny_bind (wpAny_noE h₂ fun _ s₃ h₃ => ?_)
    refine wpAny_bind (wpAny_noE h₃ fun ok s₄ h₄ => ?_)
    cases ok with
    | false => exact wpAny_pure ⟨rfl, h₄⟩
    | true =>
      exact wpAny_bind (wpAny_bind (wpAny_noE h₄ fun x s₅ h₅ => wpAny_bind (wpAny_noE h₅ fun _ s₆ h₆ => wpAny_pure (wpAny_pure ⟨rfl, h₆⟩))))

def Tsts (w : World) (A : Around) (env : Env) (σ : List (Str × D)) : List Expr → Bool → Prop
  | [], b => b = true
  | [c], b => Tst w A env σ c b
  | _, _ => False
theorem Tsts.run {w : World} {A : Around} {env : Env} {σ : List (Str × D)} {ifs : List Expr} {b : Bool} {s : Shared} (h : Tsts w A env σ ifs b) (H : Holds w env σ s) :
    wpAny (md w) A (forIn ifs true fun c r => if r = true then do let ok ← isTrue c env (eval c env); pure (ForInStep.yield ok) else pure (ForInStep.yield r)) (fun ok s' => ok = b ∧ Ext [] s s') noE s := by
  cases ifs with
  | nil => exact wpAny_tests_nil ⟨(show b = true from h).symm, Ext.refl s⟩
  | cons c r =>
    cases r with
    | nil => exact wpAny_tests_one (h s H)
    | cons _ _ => exact h.elim

def freeOf (scope : Scope) (σ : List (Str × D)) : List (Str × D) := σ.filter fun p => scope.names.lookup p.1 == some .free
theorem freeOf_lookup {scope : Scope} {x : Str} {d : D} : ∀ {σ : List (Str × D)}, (freeOf scope σ).lookup x = some d → σ.lookup x = some d ∧ scope.names.lookup x = some .free
  | [], h => by simp [freeOf] at h
  | (n, e) :: r, h => by
    unfold freeOf at h
    rw [List.filter_cons] at h
    split at h
    · rename_i q
      rw [List.lookup_cons] at h ⊢
      cases hx : x == n with
      | true =>
        rw [hx] at h; cases h
        exact ⟨rfl, by rw [beq_iff_eq.mp hx]; exact beq_iff_eq.mp q⟩
      | false => rw [hx] at h; exact freeOf_lookup h
    · rename_i q
      have h2 := freeOf_lookup h
      rw [List.lookup_cons]
      cases hx : x == n with
      | true =>
        exfalso
        rw [beq_iff_eq.mp hx] at h2
        exact q (beq_iff_eq.mpr h2.2)
      | false => exact h2

section
variable {w : World} {A : Around} {env : Env} {σ : List (Str × D)} {scope : Scope} {z s s' : Shared} {S : List Addr} {G : List Nat} {lax : Bool}

structure KI (w : World) (env : Env) (scope : Scope) (z : Shared) (S : List Addr) (G : List Nat) (s : Shared) : Prop where
  base : Base w s
  ext : ExtG (S ++ tempo scope z.heap.objs.size env) G z s
  ns : ∃ m, s.heap.Ns (z.heap.objs.size + 1) m
  cells : ∀ n c, (envK scope (z.heap.objs.size + 1) env).cells.lookup n = some c → ∃ v, s.heap.IsCell c v
  lone : ∀ o, s.heap.get? (z.heap.objs.size + 1) = some o → infra o = true ∨ o.cls = .type "frame" ∨ o.cls = .type "dict"

theorem tempo_new : ∀ t ∈ tempo scope z.heap.objs.size env, z.heap.objs.size ≤ t := fun t ht => by
  rcases tempo_of ht with q | q | ⟨q, _⟩
  · exact Nat.le_of_eq q.symm
  · rw [q]; exact Nat.le_succ _
  · exact Nat.le_trans (Nat.le_trans (Nat.le_succ _) (Nat.le_succ _)) q
theorem tempo_tok (B : Base w z) : TokZ z (tempo scope z.heap.objs.size env) := fun t ht =>
  ⟨Nat.le_trans B.big (tempo_new t ht), fun o g => by rw [gone (tempo_new t ht)] at g; cases g⟩
theorem envK_cells (hk : compOk scope env = true) {C n : Addr} {x : Str} (h : (envK scope C env).cells.lookup x = some n) : (∃ y, env.cells.lookup y = some n) ∨ C + 1 ≤ n := by
  have h' : ∀ p ∈ scope.names, p.2 = .free → (env.cells.lookup p.1).isSome = true := fun p hp hf => by
    have := List.all_eq_true.mp hk p hp
    rw [hf] at this
    simp only [bne_self_eq_false, Bool.false_or, Bool.and_eq_true] at this
    exact this.1.1.2
  rcases cellsFrom_mem _ _ _ _ (mem_of_lookup h) with q | q
  · exact .inl ⟨x, clos_mem scope.names [] h' (fun _ _ q => by cases q) _ _ q⟩
  · exact .inr q
theorem envK_tempo (hk : compOk scope env = true) {x : Str} {c : Addr} (h : (envK scope (z.heap.objs.size + 1) env).cells.lookup x = some c) : (∃ y, env.cells.lookup y = some c) ∨ c ∈ tempo scope z.heap.objs.size env := by
  refine (envK_cells hk h).imp id fun q => ?_
  exact tempo_at h q

theorem KI.holds (k : KI w env scope z S G s) (H : Holds w env σ z) (hk : compOk scope env = true) (hs : scope.kind = .function) (hd : ∀ a ∈ S, ∀ o, z.heap.get? a = some o → ∀ v, o.data ≠ .cell v)
    (hS : ∀ a ∈ S, ∀ o, z.heap.get? a = some o → ∀ y d, (freeOf scope σ).lookup y = some d → apart o d) (hb : ∀ y d, (freeOf scope σ).lookup y = some d → bears (.type "dict") d = false)
    (hinj : ∀ x y c, (envK scope (z.heap.objs.size + 1) env).cells.lookup x = some c → (envK scope (z.heap.objs.size + 1) env).cells.lookup y = some c → x = y) :
    Holds w (envK scope (z.heap.objs.size + 1) env) (freeOf scope σ) s where
  base := k.base
  big := fun i hi => by
    rcases List.mem_cons.mp hi with q | q
    · rw [q]; exact Nat.le_trans H.base.big (Nat.le_succ _)
    · obtain ⟨p, hp, rfl⟩ := List.mem_map.mp q
      have h' : ∀ p ∈ scope.names, p.2 = .free → (env.cells.lookup p.1).isSome = true := fun p hp hf => by
        have := List.all_eq_true.mp hk p hp
        rw [hf] at this
        simp only [bne_self_eq_false, Bool.false_or, Bool.and_eq_true] at this
        exact this.1.1.2
      rcases cellsFrom_mem _ _ _ _ hp with q | q
      · have := clos_mem scope.names [] h' (fun _ _ q => by cases q) _ _ q
        exact H.big _ (List.mem_cons_of_mem _ (List.mem_map.mpr ⟨_, mem_of_lookup this, rfl⟩))
      · exact Nat.le_trans H.base.big (Nat.le_trans (Nat.le_trans (Nat.le_succ _) (Nat.le_succ _)) q)
  fn := hs
  gl := H.gl
  bi := H.bi
  ns := k.ns
  cells := k.cells
  lone := fun o g => (k.lone o g).imp id (Or.imp id fun q => ⟨q, rfl, hb⟩)
  inj := hinj
  vals := fun x d hx => by
    obtain ⟨h1, h2⟩ := freeOf_lookup hx
    obtain ⟨v, b, hv⟩ := H.vals x d h1
    obtain ⟨kk, hc⟩ := compOk_free hk h2
    have hval : Val s.heap d v := k.ext.val H.base (fun a ha o g => by
      rcases List.mem_append.mp ha with q | q
      · exact hS a q o g x d hx
      · rw [gone (tempo_new a q)] at g; cases g) hv
    refine ⟨v, .inr ?_, hval⟩
    have kind : (envK scope (z.heap.objs.size + 1) env).kindOf x = some .cell ∨ (envK scope (z.heap.objs.size + 1) env).kindOf x = some .free := by
      show (relabel scope env).names.lookup x = _ ∨ (relabel scope env).names.lookup x = _
      rw [lookup_relabel, h2, Option.map_some]
      split
      · exact .inl rfl
      · exact .inr rfl
    rcases b with ⟨kl, _⟩ | ⟨_, c, h3, h4, h5⟩
    · rcases kk with q | q <;> rw [kl] at q <;> cases q
    · refine ⟨kind, c, ((hc _).1).trans h3, h4, ?_⟩
      obtain ⟨oc, g, dd⟩ := id h5
      refine k.ext.cell h4 (fun m => ?_) h5
      rcases List.mem_append.mp m with q | q
      · exact hd c q oc g _ dd
      · rw [gone (tempo_new c q)] at g; cases g

theorem KI.of {σ' : List (Str × D)} (H : Holds w (envK scope (z.heap.objs.size + 1) env) σ' s) (e : ExtG (S ++ tempo scope z.heap.objs.size env) G z s) : KI w env scope z S G s :=
  ⟨H.base, e, H.ns, H.cells, fun o g => (H.lone o g).imp id (Or.imp id fun q => q.1)⟩

theorem KI.step (k : KI w env scope z S G s) (H : Holds w env σ z) (hk : compOk scope env = true) (hd : ∀ a ∈ S, ∀ o, z.heap.get? a = some o → ∀ v, o.data ≠ .cell v) (x : Step lax z S G (tempo scope z.heap.objs.size env) s s') : KI w env scope z S G s' := by
  have e := x.ext k.ext
  obtain ⟨W, y, h⟩ := x
  have hC : z.heap.objs.size + 1 ∈ tempo scope z.heap.objs.size env := List.mem_cons_of_mem _ (List.mem_cons_self ..)
  have hCn : nTop ≤ z.heap.objs.size + 1 := Nat.le_trans H.base.big (Nat.le_succ _)
  have hCW : z.heap.objs.size + 1 ∉ W := fun m => (h _ m).1 hC
  refine ⟨k.base.ext y, e, let ⟨m, q⟩ := k.ns; ⟨m, y.ns hCn hCW q⟩, fun n c q => ?_, fun o g => ?_⟩
  · obtain ⟨v, hv⟩ := k.cells n c q
    refine ⟨v, y.cell ?_ ?_ hv⟩
    · rcases envK_tempo (z := z) hk q with ⟨yy, q'⟩ | q'
      · exact H.big _ (List.mem_cons_of_mem _ (List.mem_map.mpr ⟨_, mem_of_lookup q', rfl⟩))
      · exact Nat.le_trans H.base.big (tempo_new c q')
    · intro m
      rcases envK_tempo (z := z) hk q with ⟨yy, q'⟩ | q'
      · obtain ⟨u, o, g, dd⟩ := H.cells yy c q'
        rcases (h c m).2.1 with r | r
        · exact hd c r o g _ dd
        · rw [r] at g; cases g
      · exact (h c m).1 q'
  · obtain ⟨m, o', es, ep, g', r⟩ := k.ns
    have := y.keep _ _ g' hCW (nTop_PH hCn) (nTop_PL hCn)
    rw [g] at this; cases this
    exact k.lone o g'
end

structure CompH (w : World) (A : Around) (env : Env) (σ : List (Str × D)) (scope : Scope) (target : Expr) (ifs : List Expr) (elt : Expr) (ds : List D) (bind : D → List (Str × D)) (out : D → Option D) (loc : Bool) : Prop where
  ok : compOk scope env = true
  kind : scope.kind = .function
  free : ∀ y d, (freeOf scope σ).lookup y = some d → bears (.type "dict") d = false
  asg : ∀ C s v d, d ∈ ds → Val s.heap d v → (loc = true → ∀ s', Ext [C] s s' → Val s'.heap d v) → Holds w (envK scope C env) (freeOf scope σ) s →
    wpAny (md w) A (assign target (envK scope C env) v) (fun _ s' => Holds w (envK scope C env) (bind d ++ freeOf scope σ) s' ∧ (loc = true → ∀ o, s'.heap.get? C = some o → infra o = true) ∧
      ∃ T, Ext T s s' ∧ ∀ t ∈ T, (loc = true ∧ t = C) ∨ C + 1 ≤ t ∧ ∃ x, (envK scope C env).cells.lookup x = some t) noE s
  less : ∀ d ∈ ds, ∀ y e, (freeOf scope σ).lookup y = some e → (bind d ++ freeOf scope σ).lookup y = some e
  test : ∀ C d, d ∈ ds → Tsts w A (envK scope C env) (bind d ++ freeOf scope σ) ifs (out d).isSome
  elt : ∀ C d e, d ∈ ds → out d = some e → Ev w A (envK scope C env) (bind d ++ freeOf scope σ) elt e
  flat : ∀ d ∈ ds, ∀ e, out d = some e → Mine.flat e = true ∧ (loc = false → bears (.type "dict") e = false)
  size : ds.length ≤ 1000

section
variable {w : World} {A : Around} {env : Env} {σ : List (Str × D)} {scope : Scope} {target iter elt : Expr} {ifs : List Expr} {pos : Pos} {ds : List D} {bind : D → List (Str × D)} {out : D → Option D} {loc : Bool}
  {z : Shared} {S : List Addr} {G : List Nat} {I : Addr} {St : List Addr → Nat → Shared → Prop} {Fin : Shared → Prop} {E : Value → Shared → Prop} {lax : Bool}

theorem comp_core (H : Holds w env σ z) (c : CompH w A env σ scope target ifs elt ds bind out loc) (src : Src lax w A target I z S G ds St Fin) (hd : ∀ a ∈ S, ∀ o, z.heap.get? a = some o → ∀ v, o.data ≠ .cell v)
    (hS : ∀ a ∈ S, ∀ o, z.heap.get? a = some o → ∀ y d, (freeOf scope σ).lookup y = some d → apart o d) (hSn : ∀ a ∈ S, nTop ≤ a)
    (h0 : ∀ s, Ext [] z s → St (tempo scope z.heap.objs.size env) 0 s)
    {RR : Value → Addr → Result → Shared → Prop}
    (hRR : ∀ s vs n, z.heap.get? z.heap.objs.size = none → s.heap.get? z.heap.objs.size = some (listO vs n) → Vals s.heap (ds.filterMap out) vs → (∀ h', Heap.SameBut (z.heap.objs.size + 1) s.heap h' → Vals h' (ds.filterMap out) vs) → KI w env scope z S G s → Fin s → RR (.ref z.heap.objs.size) (z.heap.objs.size + 1) (.ok .next) s) :
    wpAny (md w) A (newList []) (fun acc s₃ => wpAny (md w) A (newFunctionEnv scope env.globals (clos env.cells scope.names []) [] env.qual none .none (some env)) (fun cenv s₄ =>
      codeAny (md w) A (.compStart (.ListComp elt [⟨target, iter, ifs, 0⟩] scope pos) 0 (.ref I) acc { cenv with scope := relabel scope env }) (RR acc cenv.locals) s₄) E s₃) E z := by
  refine wpAny_newList (newCompEnv fun h₁ old hC ci => ?_)
  have hsz : (z.heap.push { cls := .type "list", data := .seq ([] : List Value).toArray }).objs.size = z.heap.objs.size + 1 := Heap.size_push ..
  dsimp only at old hC ci ⊢
  rw [hsz] at hC ci ⊢
  have old' : ∀ b o, z.heap.get? b = some o → h₁.get? b = some o := fun b o e => old b o (Heap.get?_push_of_some _ e)
  have hDa : h₁.get? z.heap.objs.size = some (listO [] 0) := old _ _ (Heap.get?_push_size _ rfl)
  have e0 : ∀ tk, Ext [] z { z with heap := h₁, toks := tk } := fun tk => Ext.grow old'
  have hci : CI (z.heap.push { cls := .type "list", data := .seq ([] : List Value).toArray }) (clos env.cells scope.names []) := by
    have h' : ∀ p ∈ scope.names, p.2 = .free → (env.cells.lookup p.1).isSome = true := fun p hp hf => by
      have := List.all_eq_true.mp c.ok p hp
      rw [hf] at this
      simp only [bne_self_eq_false, Bool.false_or, Bool.and_eq_true] at this
      exact this.1.1.2
    have cm := fun x cc q => clos_mem (cells := env.cells) scope.names [] h' (fun _ _ q => by cases q) x cc (mem_of_lookup q)
    refine ⟨fun x cc q => ?_, fun x y cc q1 q2 => H.inj x y cc (cm x cc q1) (cm y cc q2)⟩
    obtain ⟨v, q'⟩ := H.cells x cc (cm x cc q)
    exact ⟨v, q'.keeps fun b o e => Heap.get?_push_of_some _ e⟩
  have ci' := ci hci
  have hTn : ∀ t ∈ S ++ tempo scope z.heap.objs.size env, nTop ≤ t := fun t ht => (List.mem_append.mp ht).elim (hSn t) fun q => Nat.le_trans H.base.big (tempo_new t q)
  let s₀ : Shared := { z with heap := h₁ }
  have k0 : KI w env scope z S G s₀ := by
    refine ⟨H.base.ext (e0 z.toks), ((e0 z.toks).anyG).wk0 hTn, ⟨_, _, #[], 0, hC, rfl, ?_, fun _ => rfl⟩, ci'.1, fun o g => ?_⟩
    · intro e he; simp at he
    · have g' : h₁.get? (z.heap.objs.size + 1) = some o := g
      rw [hC] at g'; cases g'; exact .inr (.inr rfl)
  have loop : codeAny (md w) A (.compLoop (.ListComp elt [⟨target, iter, ifs, 0⟩] scope pos) 0 (.ref I) (.ref z.heap.objs.size) (envK scope (z.heap.objs.size + 1) env))
      (RR (.ref z.heap.objs.size) (z.heap.objs.size + 1)) s₀ := by
    refine comp_turns (fun k s => ∃ i vs n, k = ds.length - i ∧ i ≤ ds.length ∧ vs.length ≤ i ∧ (loc = true → 0 < i → ∀ o, s.heap.get? (z.heap.objs.size + 1) = some o → infra o = true) ∧ KI w env scope z S G s ∧ St (tempo scope z.heap.objs.size env) i s ∧ s.heap.get? z.heap.objs.size = some (listO vs n) ∧ Vals s.heap ((ds.take i).filterMap out) vs) ?_ ds.length
      ⟨0, [], 0, rfl, Nat.zero_le _, Nat.le_refl _, fun _ q => absurd q (Nat.lt_irrefl _), k0, h0 _ (e0 z.toks), hDa, rfl⟩
    rintro k s ⟨i, vs, n, rfl, hi, hvl, hinf, ki, st, hacc, hvs⟩
    have hDaT : z.heap.objs.size ∈ tempo scope z.heap.objs.size env := List.mem_cons_self ..
    have hDan : nTop ≤ z.heap.objs.size := H.base.big
    have tok := tempo_tok (scope := scope) (env := env) H.base
    have flt : ∀ i, ∀ e ∈ (ds.take i).filterMap out, Mine.flat e = true := fun i e he => by
      obtain ⟨d, hd, ho⟩ := List.mem_filterMap.mp he
      exact (c.flat d (List.mem_of_mem_take hd) e ho).1
    have hCT : z.heap.objs.size + 1 ∈ tempo scope z.heap.objs.size env := List.mem_cons_of_mem _ (List.mem_cons_self ..)
    have hCn : nTop ≤ z.heap.objs.size + 1 := Nat.le_succ_of_le hDan
    -- the results outlive a change of the block
    have live : ∀ {s : Shared} {h' : Heap} {vs : List Value} (i : Nat), i ≤ ds.length → KI w env scope z S G s → (loc = true → 0 < i → ∀ o, s.heap.get? (z.heap.objs.size + 1) = some o → infra o = true) →
        Vals s.heap ((ds.take i).filterMap out) vs → Heap.SameBut (z.heap.objs.size + 1) s.heap h' → Vals h' ((ds.take i).filterMap out) vs := fun {s h' vs} i _ ki hinf hv hs => by
      obtain ⟨m, o, es, ep, g, hd', _⟩ := ki.ns
      have y := Ext.set (t := s.toks) hCn g (by unfold free; rw [hd']) hs
      cases hl : loc with
      | true =>
        by_cases hi0 : 0 < i
        · exact y.vals ki.base (fun a ha o g => .inl (by rw [List.mem_singleton.mp ha] at g; exact hinf hl hi0 o g)) hv
        · have : i = 0 := by omega
          subst this
          have e0 : vs = [] := hv
          subst e0; exact rfl
      | false =>
        refine y.vals ki.base (fun a ha o g => ?_) hv
        rw [List.mem_singleton.mp ha] at g
        have nodict : bearsL (.type "dict") ((ds.take i).filterMap out) = false := by
          have : ∀ e ∈ (ds.take i).filterMap out, bears (.type "dict") e = false := fun e he => by
            obtain ⟨d, hd, ho⟩ := List.mem_filterMap.mp he
            exact (c.flat d (List.mem_of_mem_take hd) e ho).2 hl
          revert this
          generalize (ds.take i).filterMap out = l
          intro this
          induction l with
          | nil => rfl
          | cons x l ih => simp only [bearsL, this x (List.mem_cons_self ..), ih fun e he => this e (List.mem_cons_of_mem _ he)]; rfl
        rcases ki.lone o g with r | r | r
        · exact .inl r
        · exact .inr (by
            rw [r]
            generalize (ds.take i).filterMap out = l
            induction l with
            | nil => rfl
            | cons x l ih => simp only [bearsL, bears_frame, ih]; rfl)
        · exact .inr (by rw [r]; exact nodict)
    have hTx : ∀ t ∈ tempo scope z.heap.objs.size env, ∃ o, s.heap.get? t = some o := fun t ht => by
      rcases tempo_of ht with q | q | ⟨_, x, q⟩
      · rw [q]; exact ⟨_, hacc⟩
      · obtain ⟨m, o, es, ep, g, _⟩ := ki.ns
        rw [q]; exact ⟨o, g⟩
      · obtain ⟨v, o, g, _⟩ := ki.cells x t q
        exact ⟨o, g⟩
    cases hdi : ds[i]? with
    | none =>
      have hil : i = ds.length := Nat.le_antisymm hi (by simpa using hdi)
      subst hil
      refine wpAny_noE (src.done _ s tok hTx st ki.base ki.ext) fun r s₁ q => ?_
      obtain ⟨rfl, q, fin⟩ := q
      have k1 := ki.step H c.ok hd q
      obtain ⟨W, y, hW⟩ := q
      have hv1 : Vals s₁.heap ((ds.take ds.length).filterMap out) vs := y.vals ki.base (fun a ha o g => (Step.soft ((hW a ha).2.2 o g)).apartL (flt _)) hvs
      have hinf1 : loc = true → 0 < ds.length → ∀ o, s₁.heap.get? (z.heap.objs.size + 1) = some o → infra o = true := fun a b o g => by
        obtain ⟨m, o', es, ep, g', _⟩ := ki.ns
        have := y.keep _ _ g' (fun m => (hW _ m).1 hCT) (nTop_PH hCn) (nTop_PL hCn)
        rw [g] at this; cases this
        exact hinf a b _ g'
      have lv := fun h' hs => live (h' := h') ds.length (Nat.le_refl _) k1 hinf1 hv1 hs
      rw [List.take_length] at hv1 lv
      exact hRR s₁ vs n (gone (Nat.le_refl _)) (y.keep _ _ hacc (fun m => (hW _ m).1 hDaT) (nTop_PH hDan) (nTop_PL hDan)) hv1 lv k1 fin
    | some d =>
      have hdm : d ∈ ds := List.mem_of_getElem? hdi
      have hilt : i < ds.length := (List.getElem?_eq_some_iff.mp hdi).1
      refine wpAny_noE (src.item _ i s d tok hTx st ki.base ki.ext hdi) fun r s₁ q => ?_
      obtain ⟨v, rfl, q⟩ := q
      refine wpAny_noE q fun _ s₂ q => ?_
      obtain ⟨hv, st2, q⟩ := q
      have hTn' : ∀ t ∈ tempo scope z.heap.objs.size env, nTop ≤ t := fun t ht => (tok t ht).1
      have k2 := ki.step H c.ok hd q
      obtain ⟨W, y, hW⟩ := q
      have hvs2 : Vals s₂.heap ((ds.take i).filterMap out) vs := y.vals ki.base (fun a ha o g => (Step.soft ((hW a ha).2.2 o g)).apartL (flt _)) hvs
      have hacc2 := y.keep _ _ hacc (fun m => (hW _ m).1 hDaT) (nTop_PH hDan) (nTop_PL hDan)
      have H2 := k2.holds H c.ok c.kind hd hS c.free ci'.2
      have hinf2 : loc = true → 0 < i → ∀ o, s₂.heap.get? (z.heap.objs.size + 1) = some o → infra o = true := fun a b o g => by
        obtain ⟨m, o', es, ep, g', _⟩ := ki.ns
        have := y.keep _ _ g' (fun m => (hW _ m).1 hCT) (nTop_PH hCn) (nTop_PL hCn)
        rw [g] at this; cases this
        exact hinf a b _ g'
      refine wpAny_noE (c.asg _ s₂ v d hdm (Src.now hTn' hv) (fun _ s' y => hv s' (y.wk (fun t ht => by rw [List.mem_singleton.mp ht]; exact hCT) hTn')) H2) fun _ s₃ q => ?_
      obtain ⟨H3, hinf3, T', x3, hT'⟩ := q
      have hT'' : ∀ t ∈ T', t ∈ tempo scope z.heap.objs.size env := fun t ht => by
        rcases hT' t ht with ⟨_, q⟩ | ⟨q, x, m⟩
        · rw [q]; exact List.mem_cons_of_mem _ (List.mem_cons_self ..)
        · exact tempo_at m q
      have hDa3 : z.heap.objs.size ∉ T' := fun m => by
        rcases hT' _ m with ⟨_, q⟩ | ⟨q, _⟩
        · exact absurd q (Nat.ne_of_lt (Nat.lt_succ_self _))
        · exact absurd q (Nat.not_le.mpr (Nat.lt_succ_of_lt (Nat.lt_succ_self _)))
      have hvs3 : Vals s₃.heap ((ds.take i).filterMap out) vs := by
        by_cases hi0 : 0 < i
        · refine x3.vals k2.base (fun a ha o g => ?_) hvs2
          rcases hT' a ha with ⟨hl, q⟩ | ⟨q, x, m⟩
          · rw [q] at g; exact .inl (hinf2 hl hi0 o g)
          · obtain ⟨v', o', g', dd⟩ := H2.cells x a m
            rw [g] at g'; cases g'
            exact .inl (by unfold infra; rw [dd])
        · have : i = 0 := by omega
          subst this
          have e0 : vs = [] := hvs2
          subst e0; exact rfl
      have st3 := src.frame _ _ _ _ st2 k2.base (x3.wk hT'' fun t ht => (tok t ht).1)
      have e3 := ext_T k2.ext x3 fun t ht => .inl (hT'' t ht)
      have hacc3 := x3.keep _ _ hacc2 hDa3 (nTop_PH hDan) (nTop_PL hDan)
      refine wpAny_noE ((c.test _ d hdm).run H3) fun ok s₄ q => ?_
      obtain ⟨rfl, x4⟩ := q
      have H4 := H3.ext x4
      have hvs4 := x4.vals0 H3.base hvs3
      have st4 := src.frame _ _ _ _ st3 H3.base (x4.wk0 fun t ht => (tok t ht).1)
      have e4 := ext_T e3 x4 (fun t ht => by cases ht)
      have hacc4 := x4.keep _ _ hacc3 (by simp) (nTop_PH hDan) (nTop_PL hDan)
      have keepC : ∀ {s s' : Shared}, (∃ m, s.heap.Ns (z.heap.objs.size + 1) m) → Ext [] s s' → (∀ o, s.heap.get? (z.heap.objs.size + 1) = some o → infra o = true) → ∀ o, s'.heap.get? (z.heap.objs.size + 1) = some o → infra o = true := fun ⟨m, o', es, ep, g', _⟩ e h o g => by
        have := e.keep _ _ g' (by simp) (nTop_PH hCn) (nTop_PL hCn)
        rw [g] at this; cases this
        exact h _ g'
      have hinf4 : loc = true → ∀ o, s₄.heap.get? (z.heap.objs.size + 1) = some o → infra o = true := fun a => keepC H3.ns x4 (hinf3 a)
      have htk : (ds.take (i + 1)).filterMap out = (ds.take i).filterMap out ++ (out d).toList := by
        rw [List.take_add_one, hdi, List.filterMap_append]; cases q : out d <;> simp [q]
      cases ho : out d with
      | none =>
        simp only [Option.isSome_none, Bool.false_eq_true, if_false]
        refine ⟨ds.length - (i + 1), by omega, i + 1, vs, n, rfl, hilt, Nat.le_succ_of_le hvl, fun a _ o g => hinf4 a o g, .of H4 e4, st4, hacc4, ?_⟩
        rw [htk, ho]; simpa using hvs4
      | some e =>
        simp only [Option.isSome_some, if_true]
        refine wpAny_noE (c.elt _ d e hdm ho s₄ H4) fun x s₅ q => ?_
        obtain ⟨x5, hx⟩ := q
        have H5 := H4.ext x5
        have hvs5 := x5.vals0 H4.base hvs4
        have st5 := src.frame _ _ _ _ st4 H4.base (x5.wk0 fun t ht => (tok t ht).1)
        have e5 := ext_T e4 x5 (fun t ht => by cases ht)
        have hacc5 := x5.keep _ _ hacc4 (by simp) (nTop_PH hDan) (nTop_PL hDan)
        have hsz : vs.toArray.size ≤ sizeLine := by
          have h1 := c.size
          have h2 : vs.toArray.size = vs.length := by simp
          show vs.toArray.size ≤ 16777216
          omega
        refine wpAny_list_append_plain (items := vs.toArray) ⟨n, hacc5⟩ (fun h₆ hl₆ hs₆ => ?_) hsz
        obtain ⟨n6, hacc6⟩ := hl₆
        have x6 : Ext [z.heap.objs.size] s₅ { s₅ with heap := h₆ } := Ext.set (t := s₅.toks) hDan hacc5 rfl hs₆
        have soft6 : ∀ a ∈ [z.heap.objs.size], ∀ o, s₅.heap.get? a = some o → Soft o := fun a ha o g => by
          rw [List.mem_singleton.mp ha, hacc5] at g; cases g; exact .inr (.inl rfl)
        have fe : Mine.flat e = true := (c.flat d hdm e ho).1
        have hinf5 : loc = true → ∀ o, s₅.heap.get? (z.heap.objs.size + 1) = some o → infra o = true := fun a => keepC H4.ns x5 (hinf4 a)
        have hC6 : z.heap.objs.size + 1 ≠ z.heap.objs.size := Nat.succ_ne_self _
        refine ⟨ds.length - (i + 1), by omega, i + 1, vs ++ [x], n6, rfl, hilt, (by simp only [List.length_append, List.length_singleton]; omega), fun a _ o g => hinf5 a o ((hs₆.2 _ hC6).symm.trans g), ?_, src.frame _ _ _ _ st5 H5.base (x6.wk (fun t ht => by rw [List.mem_singleton.mp ht]; exact hDaT) fun t ht => (tok t ht).1), ?_, ?_⟩
        · refine ⟨H5.base.ext x6, ext_T e5 x6 (fun t ht => .inl (by rw [List.mem_singleton.mp ht]; exact hDaT)), ?_, fun n c q => ?_, fun o g => ?_⟩
          · obtain ⟨m, q⟩ := H5.ns; exact ⟨m, q.sameBut hs₆ hC6⟩
          · obtain ⟨v', o', g', dd⟩ := H5.cells n c q
            refine ⟨v', o', (hs₆.2 c fun q' => ?_).trans g', dd⟩
            rw [q', hacc5] at g'; cases g'; cases dd
          · have g' : s₅.heap.get? (z.heap.objs.size + 1) = some o := (hs₆.2 _ hC6).symm.trans g
            exact (H5.lone o g').imp id (Or.imp id fun q => q.1)
        · rw [hacc6]; simp
        · rw [htk, ho]
          exact (x6.vals H5.base (fun a ha o g => (soft6 a ha o g).apartL (flt _)) hvs5).snoc (x6.val H5.base (fun a ha o g => (soft6 a ha o g).apart fe) hx)
  refine codeAny_compStart_list loop ?_
  exact wpAny_noE (src.self _ s₀ (h0 _ (e0 z.toks))) fun v s' q => by rw [q.1, q.2]; exact loop
end
end Mine
end
section
open PySem PySem.W PyProof.Rows
set_option Elab.async false
namespace Mine

/-- a names' place -/
def Store (o : Obj) : Prop := (∃ es ep, o.data = .dict es ep) ∨ ∃ v, o.data = .cell v
def Iter (w : World) (A : Around) (env : Env) (σ : List (Str × D)) (target iter : Expr) (ds : List D) : Prop :=
  ∀ s, Holds w env σ s → wpAny (md w) A (eval iter env) (fun x s₁ => wpAny (md w) A (pyIter x) (fun it s₂ => ∃ I S St Fin, it = .ref I ∧ Src false w A target I s₂ S [] ds St Fin ∧ Ext [] s s₂ ∧
    (∀ a ∈ S, s.heap.get? a = none ∧ nTop ≤ a ∧ ∀ o, s₂.heap.get? a = some o → infra o = true ∧ (∀ v, o.data ≠ .cell v) ∧ ∀ es ep, o.data ≠ .dict es ep) ∧
    (∀ T s', (∀ t ∈ T, ∀ o, s₂.heap.get? t = some o → Store o) → Ext [] s₂ s' → St T 0 s')) noE s₁) noE s

section
variable {w : World} {A : Around} {env : Env} {σ : List (Str × D)} {scope : Scope} {target iter elt : Expr} {ifs : List Expr} {pos : Pos} {ds : List D} {bind : D → List (Str × D)} {out : D → Option D} {loc : Bool}

/-- at the end of a comprehension, its block let go -/
theorem comp_end {s z s' : Shared} {S : List Addr} {vs : List Value} {n : Nat} (B : Base w s) (x : Ext [] s z) (hS : ∀ a ∈ S, s.heap.get? a = none) (k : KI w env scope z S [] s')
    (hg : s'.heap.get? z.heap.objs.size = some (listO vs n)) (hv : ∀ h', Heap.SameBut (z.heap.objs.size + 1) s'.heap h' → Vals h' (ds.filterMap out) vs)
    {h' : Heap} (hs : Heap.SameBut (z.heap.objs.size + 1) s'.heap h') : Ext [] s { s' with heap := h' } ∧ Val h' (.list (ds.filterMap out)) (.ref z.heap.objs.size) ∧ s.heap.get? z.heap.objs.size = none := by
  have fresh : ∀ a, z.heap.get? a = none → s.heap.get? a = none := fun a ha => B.fresh x ha
  obtain ⟨m, o, es, ep, g, hd, _⟩ := k.ns
  have hC : nTop ≤ z.heap.objs.size + 1 := Nat.le_trans (B.ext x).big (Nat.le_succ _)
  have y := Ext.set (t := s'.toks) hC g (by unfold free; rw [hd]) hs
  refine ⟨?_, ⟨_, vs, n, rfl, (hs.2 _ (Nat.ne_of_lt (Nat.lt_succ_self _))).trans hg, hv h' hs⟩, fresh _ (gone (Nat.le_refl _))⟩
  · have e1 := ext_T k.ext y fun i hi => .inr (gone (by rw [List.mem_singleton.mp hi]; exact Nat.le_succ _))
    refine ((x.wk0 e1.own).trans e1).drop (fun i hi => .inr ?_) (by simp)
    rcases List.mem_append.mp hi with q | q
    · exact hS i q
    · exact fresh _ (gone (tempo_new i q))

theorem comp_names (h : compOk scope env = true) : ∀ x ∈ scope.names, x.2 = .local → scope.names.lookup x.1 = some .local := fun x hx hl => by
  have := List.all_eq_true.mp h x hx
  simp only [hl, bne_self_eq_false, Bool.false_or, Bool.and_eq_true, beq_iff_eq] at this
  exact this.2

theorem ev_comp (it : Iter w A env σ target iter ds) (c : CompH w A env σ scope target ifs elt ds bind out loc) (hs : ∀ x, foldedSetIterable iter env x = pure x := by intro _; rfl) (s : Shared) (H : Holds w env σ s) :
    wpAny (md w) A (eval (.ListComp elt [⟨target, iter, ifs, 0⟩] scope pos) env) (fun v s' => Ok s (.list (ds.filterMap out)) v s' ∧ ∃ a, v = .ref a ∧ New s a) noE s := by
  rw [eval_ListComp]
  refine wpAny_comprehension_free (use := none) rfl hs (closureFor_eq c.ok) c.kind (comp_names c.ok) (wpAny_noE (it s H) fun x s₁ h₁ => wpAny_noE h₁ fun i z h => ?_)
  obtain ⟨I, S, St, Fin, rfl, src, x, hS, st⟩ := h
  refine comp_core (RR := fun acc C => compPost (md w) A noE none _ acc C) (H.ext x) c src (fun a ha o g => ((hS a ha).2.2 o g).2.1) (fun a ha o g y d q => .inl ((hS a ha).2.2 o g).1) (fun a ha => (hS a ha).2.1)
    (fun s' e => st _ s' (fun t ht o g => by rw [gone (tempo_new t ht)] at g; cases g) e) ?_
  intro s' vs n _ hg _ hv k _
  obtain ⟨m, hn⟩ := k.ns
  refine ⟨m, hn, fun h' hs => ?_⟩
  obtain ⟨h1, h2, h3⟩ := comp_end H.base x (fun a ha => (hS a ha).1) k hg hv hs
  exact ⟨⟨h1, h2⟩, _, rfl, h3, (H.base.ext x).big⟩
end

section
variable {w : World} {A : Around} {env : Env} {σ : List (Str × D)} {e : Expr} {x : Str} {px : Pos} {ds : List D}

theorem it_objs {s₁ : Shared} {ax : Addr} : (s₁.heap.push { cls := .type "list_iterator", data := .fields #[.ref ax, .int 0 0] }).IsListIter s₁.heap.objs.size ax 0 := ⟨_, Heap.get?_push_size _ rfl, rfl, rfl⟩

theorem iter_at {s₁ : Shared} {ds : List D} {vs : List Value} {a : Addr} {o : Obj} {n : Nat} (hh : A.handled = none) (B1 : Base w s₁) (g : s₁.heap.get? a = some o) (hd : o.data = .seq vs.toArray n) (hc : o.cls ≠ .none) (hv : Vals s₁.heap ds vs) {s : Shared} (B : Base w s) (e1 : Ext [] s s₁) :
    ∃ S St Fin, Src false w A (.Name x px) s₁.heap.objs.size { s₁ with heap := s₁.heap.push { cls := .type "list_iterator", data := .fields #[.ref a, .int 0 0] } } S [] ds St Fin ∧ Ext [] s { s₁ with heap := s₁.heap.push { cls := .type "list_iterator", data := .fields #[.ref a, .int 0 0] } } ∧
    (∀ b ∈ S, s.heap.get? b = none ∧ nTop ≤ b ∧ ∀ o, (s₁.heap.push { cls := .type "list_iterator", data := .fields #[.ref a, .int 0 0] }).get? b = some o → infra o = true ∧ (∀ v, o.data ≠ .cell v) ∧ ∀ es ep, o.data ≠ .dict es ep) ∧
    (∀ T s', (∀ t ∈ T, ∀ o, (s₁.heap.push { cls := .type "list_iterator", data := .fields #[.ref a, .int 0 0] }).get? t = some o → Store o) → Ext [] { s₁ with heap := s₁.heap.push { cls := .type "list_iterator", data := .fields #[.ref a, .int 0 0] } } s' → St T 0 s') := by
  have e2 : Ext [] s₁ { s₁ with heap := s₁.heap.push { cls := .type "list_iterator", data := .fields #[.ref a, .int 0 0] } } := Ext.push (t := s₁.toks)
  have hI : nTop ≤ s₁.heap.objs.size := B1.big
  have hne : a ≠ s₁.heap.objs.size := Nat.ne_of_lt (Heap.lt_size g)
  refine ⟨[s₁.heap.objs.size], _, _, src_list hh hI hne (B1.notab g hc) it_objs ⟨B1.ext e2, e2.vals0 B1 hv, fun b hb o g' => (iter_free it_objs b hb o g').2⟩, e1.trans e2, fun b hb => ?_, fun T s' hT e3 => ?_⟩
  · rw [List.mem_singleton.mp hb]
    refine ⟨B.fresh e1 (gone (Nat.le_refl _)), hI, fun o g' => ?_⟩
    have := it_objs (s₁ := s₁) (ax := a)
    obtain ⟨o', g'', c, d⟩ := this
    rw [g''] at g'; cases g'
    exact ⟨by unfold infra; rw [d], fun v q => (by rw [d] at q; cases q), fun es ep q => (by rw [d] at q; cases q)⟩
  · have h2 := it_objs (s₁ := s₁) (ax := a)
    have k : ∀ b o, (s₁.heap.push { cls := .type "list_iterator", data := .fields #[.ref a, .int 0 0] }).get? b = some o → o.cls ≠ .none → s'.heap.get? b = some o := fun b o g' hc => e3.at0 (B1.ext e2) g' hc
    refine ⟨fun m => ?_, fun m => ?_, h2.at fun o g' => k _ o g' ?_, SeqAt.at ⟨_, _, Heap.get?_push_of_some _ g, hd⟩ fun o g' => k _ o g' ?_⟩
    · obtain ⟨o', g'', _, d⟩ := h2
      rcases hT _ m _ g'' with ⟨es, ep, q⟩ | ⟨v, q⟩ <;> rw [d] at q <;> cases q
    · rcases hT _ m _ (Heap.get?_push_of_some _ g) with ⟨es, ep, q⟩ | ⟨v, q⟩ <;> rw [hd] at q <;> cases q
    · obtain ⟨o', g'', c, d⟩ := h2
      rw [g''] at g'; cases g'; rw [c]; simp
    · rw [Heap.get?_push_of_some _ g] at g'; cases g'; exact hc
theorem iter_list (hh : A.handled = none) (h : Ev w A env σ e (.list ds)) : Iter w A env σ (.Name x px) e ds := fun s H => by
  refine wpAny_noE (h s H) fun v s₁ q => ?_
  obtain ⟨e1, a, vs, n, rfl, g, hv⟩ := q
  refine wpAny_pyIter_list ⟨_, g, rfl, n, rfl⟩ ?_
  obtain ⟨S, St, Fin, h1, h2, h3, h4⟩ := iter_at (x := x) (px := px) hh (H.base.ext e1) g rfl (by simp) hv H.base e1
  exact ⟨_, S, St, Fin, rfl, h1, h2, h3, h4⟩
end

/-! a comprehension whose target is one name -/
section
variable {w : World} {A : Around} {env : Env} {σ : List (Str × D)} {scope : Scope} {iter elt : Expr} {ifs : List Expr} {pos px : Pos} {ds : List D} {out : D → Option D} {x : Str}

theorem envK_kind {C : Addr} (h : scope.names.lookup x = some .local) : (envK scope C env).kindOf x = some .local := by
  show (relabel scope env).names.lookup x = _
  rw [lookup_relabel, h]; rfl
theorem free_ne {y : Str} {d : D} (hx : scope.names.lookup x = some .local) (h : (freeOf scope σ).lookup y = some d) : y ≠ x := fun e => by
  have := (freeOf_lookup h).2
  rw [e, hx] at this; cases this
theorem comp_name (ok : compOk scope env = true) (kind : scope.kind = .function) (free : ∀ y d, (freeOf scope σ).lookup y = some d → bears (.type "dict") d = false)
    (hx : scope.names.lookup x = some .local) (size : ds.length ≤ 1000)
    (test : ∀ C d, d ∈ ds → Tsts w A (envK scope C env) ((x, d) :: freeOf scope σ) ifs (out d).isSome)
    (elts : ∀ C d e, d ∈ ds → out d = some e → Ev w A (envK scope C env) ((x, d) :: freeOf scope σ) elt e)
    (fl : ∀ d ∈ ds, ∀ e, out d = some e → Mine.flat e = true) : CompH w A env σ scope (.Name x px) ifs elt ds (fun d => [(x, d)]) out true where
  ok := ok
  kind := kind
  free := free
  size := size
  test := test
  elt := elts
  flat := fun d hd e ho => ⟨fl d hd e ho, fun q => by cases q⟩
  less := fun d hd y e h => by
    show List.lookup y ((x, d) :: freeOf scope σ) = _
    rw [List.lookup_cons]
    have : (y == x) = false := by simpa using free_ne hx h
    rw [this]; exact h
  asg := fun C s v d hd hv hv' H => by
    have hl := envK_kind (env := env) (C := C) hx
    refine wpAny_assign_Name (H.store hv (.inl hl) (.inr (.inr ⟨hl, fun s' e => hv' rfl s' (by unfold place at e; rw [hl] at e; exact e)⟩)) fun s' H' e _ hb _ => ⟨H', fun _ o g => ?_, [C], by unfold place at e; rw [hl] at e; exact e, fun t ht => .inl ⟨rfl, List.mem_singleton.mp ht⟩⟩)
    rcases hb with ⟨_, m, ⟨o', es, ep, g', dd, _, r⟩, hm⟩ | ⟨k | k, _⟩
    · have g2 : s'.heap.get? C = some o' := g'
      rw [show s'.heap.get? C = _ from g] at g2; cases g2
      exact own_infra dd (x := x) (v := v) (by rw [r]; exact hm)
    · rw [hl] at k; cases k
    · rw [hl] at k; cases k
end
end Mine
end
section
open PySem PySem.W PyProof.Rows
set_option Elab.async false
set_option maxRecDepth 100000
namespace Mine

section
variable {w : World} {A : Around} {env : Env} {σ : List (Str × D)}

/-! names of the module and of the builtins -/
def Gl (w : World) (A : Around) (env : Env) (σ : List (Str × D)) (e : Expr) (v : Value) : Prop :=
  ∀ s, Holds w env σ s → wpAny (md w) A (eval e env) (fun u s' => u = v ∧ s' = s) noE s
theorem gl_main {x : Str} {pos : Pos} {v : Value} (hx : env.kindOf x = some .globalImplicit) (hg : nsIn (KB w.params) mainGlobals x = some (some v)) (hd : (x == ("__debug__" : Str)) = false := by decide) : Gl w A env σ (.Name x pos) v := fun s H => by
  refine Calls.Name_function_global H.fn hx ?_ hd
  unfold loadGlobal
  rw [H.gl]
  exact wpAny_bind ((looks_nsIn H.base.KB hg).here (wpAny_pure ⟨rfl, rfl⟩))
theorem gl_builtin {x : Str} {pos : Pos} {v : Value} (hx : env.kindOf x = some .globalImplicit) (hm : nsIn (KB w.params) mainGlobals x = some none) (hg : nsIn (KB w.params) builtinsNs x = some (some v)) (hd : (x == ("__debug__" : Str)) = false := by decide) : Gl w A env σ (.Name x pos) v := fun s H => by
  refine Calls.Name_function_global H.fn hx ?_ hd
  unfold loadGlobal
  rw [H.gl, H.bi]
  refine wpAny_bind ((looks_nsIn H.base.KB hm).here ?_)
  exact wpAny_bind ((looks_nsIn H.base.KB hg).here (wpAny_pure ⟨rfl, rfl⟩))

/-! truth -/
def tru : D → Bool
  | .int i => i != 0
  | .str x => x.length != 0
  | .bool b => b
  | .none => false
  | .tup ds => !ds.isEmpty
  | .list ds => !ds.isEmpty
  | .tags ds => !ds.isEmpty
  | .tag .. => true
  | .at _ d => tru d
  | .raw _ => true
  | .set _ ns => !ns.isEmpty
def simpleT : D → Bool
  | .bool _ => true
  | .none => true
  | .list ds => Nat.ble ds.length 1000
  | _ => false
theorem truthy_D {d : D} {v : Value} {s : Shared} (hs : simpleT d = true) (hv : Val s.heap d v) : wpAny (md w) A (truthy v) (fun b s' => b = tru d ∧ Ext [] s s') noE s := by
  cases d with
  | bool b => rw [show v = _ from hv]; exact wpAny_truthy_bool ⟨rfl, Ext.refl s⟩
  | none => rw [show v = _ from hv]; exact truthy_none ⟨rfl, Ext.refl s⟩
  | list ds =>
    obtain ⟨a, vs, n, rfl, g, hvs⟩ := hv
    have hl := hvs.length
    have hb := Nat.le_of_ble_eq_true hs
    have e : (!vs.toArray.isEmpty) = !ds.isEmpty := by
      cases ds with
      | nil => simp only [List.length_nil] at hl; have : vs = [] := List.length_eq_zero_iff.mp hl; subst this; rfl
      | cons _ _ =>
        cases vs with
        | nil => cases hl
        | cons _ _ => rfl
    exact wpAny_truthy_list ⟨_, g, rfl, n, rfl⟩ (by simp; omega) ⟨e, Ext.tok⟩
  | _ => cases hs
theorem tst_ev {e : Expr} {d : D} (h : Ev w A env σ e d) (hs : simpleT d = true) (he : ∀ whole, isTrue e env whole = (do let v ← whole; standAt e.pos; holding [v] (truthy v)) := by intro _; rfl) : Tst w A env σ e (tru d) := fun s H => by
  refine wpAny_isTrue_value (wpAny_noE (h s H) fun v s₁ q => wpAny_noE (truthy_D hs q.2) fun b s₂ z => ⟨z.1, q.1.trans z.2⟩) (he _)
theorem tst_not {e : Expr} {pos : Pos} {b : Bool} (h : Tst w A env σ e b) : Tst w A env σ (.UnaryOp .Not e pos) (!b) := fun s H =>
  wpAny_isTrue_Not (wpAny_noE (h s H) fun c s' q => ⟨by rw [q.1], q.2⟩)
def Alls (w : World) (A : Around) (env : Env) (σ : List (Str × D)) : List Expr → List Bool → Prop
  | [], bs => bs = []
  | e :: es, bs => ∃ b r, bs = b :: r ∧ Tst w A env σ e b ∧ (b = false → Alls w A env σ es r)
theorem tst_or_aux : ∀ {es : List Expr} {bs : List Bool}, Alls w A env σ es bs → ∀ {s : Shared}, Holds w env σ s → wpAny (md w) A (allTrue .Or es env) (fun r s' => r = bs.any id ∧ Ext [] s s') noE s
  | [], _, e, s, _ => by subst e; exact wpAny_allTrue_Or_nil ⟨rfl, Ext.refl s⟩
  | _ :: _, _, ⟨b, r, e, h, hr⟩, s, H => by
    subst e
    refine wpAny_allTrue_Or_cons (wpAny_noE (h s H) fun c s₁ q => ?_)
    obtain ⟨rfl, x⟩ := q
    cases c with
    | true => exact ⟨rfl, x⟩
    | false => exact wpAny_noE (tst_or_aux (hr rfl) (H.ext x)) fun r' s₂ z => ⟨by rw [z.1]; rfl, x.trans z.2⟩
theorem tst_or {es : List Expr} {bs : List Bool} {pos : Pos} (h : Alls w A env σ es bs) : Tst w A env σ (.BoolOp .Or es pos) (bs.any id) := fun s H => wpAny_isTrue_BoolOp (tst_or_aux h H)
def AllA (w : World) (A : Around) (env : Env) (σ : List (Str × D)) : List Expr → List Bool → Prop
  | [], bs => bs = []
  | e :: es, bs => ∃ b r, bs = b :: r ∧ Tst w A env σ e b ∧ (b = true → AllA w A env σ es r)
theorem tst_and_aux : ∀ {es : List Expr} {bs : List Bool}, AllA w A env σ es bs → ∀ {s : Shared}, Holds w env σ s → wpAny (md w) A (allTrue .And es env) (fun r s' => r = bs.all id ∧ Ext [] s s') noE s
  | [], _, e, s, _ => by subst e; exact wpAny_allTrue_And_nil ⟨rfl, Ext.refl s⟩
  | _ :: _, _, ⟨b, r, e, h, hr⟩, s, H => by
    subst e
    refine wpAny_allTrue_And_cons (wpAny_noE (h s H) fun c s₁ q => ?_)
    obtain ⟨rfl, x⟩ := q
    cases c with
    | false => exact ⟨rfl, x⟩
    | true => exact wpAny_noE (tst_and_aux (hr rfl) (H.ext x)) fun r' s₂ z => ⟨by rw [z.1]; rfl, x.trans z.2⟩
theorem tst_and {es : List Expr} {bs : List Bool} {pos : Pos} (h : AllA w A env σ es bs) : Tst w A env σ (.BoolOp .And es pos) (bs.all id) := fun s H => wpAny_isTrue_BoolOp (tst_and_aux h H)

/-- x or y -/
theorem ev_or2 {x y : Expr} {pos : Pos} {a d : D} (hx : Ev w A env σ x a) (hs : simpleT a = true) (h1 : tru a = true → d = a) (h2 : tru a = false → Ev w A env σ y d) : Ev w A env σ (.BoolOp .Or [x, y] pos) d := fun s H => by
  refine wpAny_Or2 (wpAny_noE (hx s H) fun v s₁ q => wpAny_noE (truthy_D hs q.2) fun b s₂ z => ?_)
  obtain ⟨rfl, x2⟩ := z
  have x12 := q.1.trans x2
  cases e : tru a with
  | true => rw [h1 e]; exact ⟨x12, x2.val0 (H.base.ext q.1) q.2⟩
  | false => exact wpAny_noE (h2 e s₂ (H.ext x12)) fun u s₃ r => ⟨x12.trans r.1, r.2⟩
theorem ev_ifexp {t x y : Expr} {pos : Pos} {b : Bool} {d : D} (ht : Tst w A env σ t b) (h1 : b = true → Ev w A env σ x d) (h2 : b = false → Ev w A env σ y d) : Ev w A env σ (.IfExp t x y pos) d := fun s H => by
  refine wpAny_IfExp (wpAny_noE (ht s H) fun c s₁ q => ?_)
  obtain ⟨rfl, x⟩ := q
  cases c with
  | true => exact wpAny_noE (h1 rfl s₁ (H.ext x)) fun u s₂ r => ⟨x.trans r.1, r.2⟩
  | false => exact wpAny_noE (h2 rfl s₁ (H.ext x)) fun u s₂ r => ⟨x.trans r.1, r.2⟩

/-- three in a chain -/
theorem ev_chain {l m r : Expr} {o1 o2 : CmpOp} {pos : Pos} {a b c : D} {x y : Bool} (hl : Ev w A env σ l a) (hm : Ev w A env σ m b) (hr : Ev w A env σ r c) (h1 : Cmp w A o1 a b x) (h2 : Cmp w A o2 b c y)
    (hk : lastMarks [o1, o2] [m, r] = false := by with_unfolding_all rfl) : Ev w A env σ (.Compare l [o1, o2] [m, r] pos) (.bool (x && y)) := fun s H => by
  refine Compare_chain (wpAny_noE (hl s H) fun u s₁ q1 => chain_link (wpAny_noE (hm s₁ (H.ext q1.1)) fun v s₂ q2 => ?_)) hk
  have x2 := q1.1.trans q2.1
  have H2 := H.ext x2
  refine wpAny_noE (h1 u v s₂ H2.base (q2.1.val0 (H.ext q1.1).base q1.2) q2.2) fun cv s₃ q3 => ?_
  obtain ⟨rfl, x3⟩ := q3
  refine wpAny_truthy_bool ?_
  have H3 := H2.ext x3
  cases x with
  | false => exact ⟨x2.trans x3, rfl⟩
  | true =>
    refine chain_last (wpAny_noE (hr s₃ H3) fun t s₄ q4 => wpAny_noE (h2 v t s₄ (H3.ext q4.1).base ((x3.trans q4.1).val0 H2.base q2.2) q4.2) fun cv s₅ q5 => ?_)
    exact ⟨((x2.trans x3).trans q4.1).trans q5.2, q5.1⟩
theorem tst_chain {l m r : Expr} {o1 o2 : CmpOp} {pos : Pos} {a b c : D} {x y : Bool} (hl : Ev w A env σ l a) (hm : Ev w A env σ m b) (hr : Ev w A env σ r c) (h1 : Cmp w A o1 a b x) (h2 : Cmp w A o2 b c y)
    (hk : lastMarks [o1, o2] [m, r] = false := by with_unfolding_all rfl) : Tst w A env σ (.Compare l [o1, o2] [m, r] pos) (x && y) := fun s H => by
  refine isTrue_chain (wpAny_noE (hl s H) fun u s₁ q1 => test_link (wpAny_noE (hm s₁ (H.ext q1.1)) fun v s₂ q2 => ?_)) hk
  have x2 := q1.1.trans q2.1
  have H2 := H.ext x2
  refine wpAny_noE (h1 u v s₂ H2.base (q2.1.val0 (H.ext q1.1).base q1.2) q2.2) fun cv s₃ q3 => ?_
  obtain ⟨rfl, x3⟩ := q3
  refine wpAny_truthy_bool ?_
  have H3 := H2.ext x3
  cases x with
  | false => exact ⟨rfl, x2.trans x3⟩
  | true =>
    refine test_last (wpAny_noE (hr s₃ H3) fun t s₄ q4 => wpAny_noE (h2 v t s₄ (H3.ext q4.1).base ((x3.trans q4.1).val0 H2.base q2.2) q4.2) fun cv s₅ q5 => ?_)
    obtain ⟨rfl, x5⟩ := q5
    exact wpAny_truthy_bool ⟨rfl, ((x2.trans x3).trans q4.1).trans x5⟩

/-! displays -/
def Evs (w : World) (A : Around) (env : Env) (σ : List (Str × D)) : List Expr → List D → Prop
  | [], ds => ds = []
  | e :: es, ds => ∃ d r, ds = d :: r ∧ Ev w A env σ e d ∧ Evs w A env σ es r
theorem evs_run {pos : Pos} : ∀ {es : List Expr} {ds : List D}, Evs w A env σ es ds → (es.all fun e => match e with | .Starred .. => false | _ => true) = true → ∀ {s : Shared}, Holds w env σ s →
    wpAny (md w) A (spliced (backTo pos (starEach es env))) (fun vs s' => Ext [] s s' ∧ Vals s'.heap ds vs) noE s
  | [], _, e, _, s, _ => by subst e; exact wpAny_items_nil ⟨Ext.refl s, rfl⟩
  | e :: es, _, ⟨d, r, q, h, hr⟩, hst, s, H => by
    subst q
    rw [List.all_cons, Bool.and_eq_true] at hst
    refine wpAny_items_cons (wpAny_noE (h s H) fun v s₁ q => wpAny_noE (evs_run hr hst.2 (H.ext q.1)) fun vs s₂ z => ?_) ?_
    · exact ⟨q.1.trans z.1, v, vs, rfl, z.1.val0 (H.ext q.1).base q.2, z.2⟩
    · cases e <;> first | rfl | (simp at hst)
theorem ev_tuple {es : List Expr} {ds : List D} {k : Nat} {pos : Pos} (h : Evs w A env σ es ds) (hst : (es.all fun e => match e with | .Starred .. => false | _ => true) = true := by rfl) (hz : Nat.ble ds.length 1000 = true := by rfl) : Ev w A env σ (.Tuple es k pos) (.tup ds) := fun s H => by
  refine wpAny_Tuple (wpAny_noE (evs_run h hst H) fun vs s₁ q => ⟨?_, q.1.trans Ext.push, _, vs, 0, rfl, Heap.get?_push_size _ rfl, (Ext.push (t := s₁.toks)).vals0 (H.base.ext q.1) q.2⟩)
  have := q.2.length; have := Nat.le_of_ble_eq_true hz; show vs.length ≤ 16777216; omega
/-- a new list -/
def EvF (w : World) (A : Around) (env : Env) (σ : List (Str × D)) (e : Expr) (d : D) : Prop :=
  ∀ s, Holds w env σ s → wpAny (md w) A (eval e env) (fun v s' => Ok s d v s' ∧ ∃ a, v = .ref a ∧ New s a) noE s
theorem EvF.ev {e : Expr} {d : D} (h : EvF w A env σ e d) : Ev w A env σ e d := fun s H => wpAny_noE (h s H) fun _ _ q => q.1
theorem evF_list {es : List Expr} {ds : List D} {pos : Pos} (h : Evs w A env σ es ds) (hst : (es.all fun e => match e with | .Starred .. => false | _ => true) = true := by rfl) (hz : Nat.ble ds.length 1000 = true := by rfl) : EvF w A env σ (.List es pos) (.list ds) := fun s H => by
  refine wpAny_List (wpAny_noE (evs_run h hst H) fun vs s₁ q => ⟨?_, ⟨q.1.trans Ext.push, _, vs, 0, rfl, Heap.get?_push_size _ rfl, (Ext.push (t := s₁.toks)).vals0 (H.base.ext q.1) q.2⟩, _, rfl, H.base.fresh q.1 (gone (Nat.le_refl _)), (H.base.ext q.1).big⟩)
  have := q.2.length; have := Nat.le_of_ble_eq_true hz; show vs.length ≤ 16777216; omega

/-! arithmetic -/
def Bin (w : World) (A : Around) (op : Operator) (a b d : D) : Prop :=
  ∀ u v s, Base w s → Val s.heap a u → Val s.heap b v → wpAny (md w) A (binaryOp op u v) (Ok s d) noE s
theorem ev_bin {l r : Expr} {op : Operator} {pos : Pos} {a b d : D} (hl : Ev w A env σ l a) (hr : Ev w A env σ r b) (h : Bin w A op a b d) : Ev w A env σ (.BinOp l op r pos) d := fun s H => by
  refine wpAny_BinOp (ev_two hl hr H (Q := fun u v s₂ => wpAny (md w) A (binaryOp op u v) (Ok s d) noE s₂) fun u v s' e H' hu hv => ?_)
  exact wpAny_noE (h u v s' H'.base hu hv) fun x s₂ z => ⟨e.trans z.1, z.2⟩
theorem bin_add {a b : Int} : Bin w A .Add (.int a) (.int b) (.int (a + b)) := by rintro _ _ s _ ⟨t, rfl⟩ ⟨u, rfl⟩; exact PyProof.Rows.add_int ⟨Ext.tok, _, rfl⟩
theorem bin_mod {a b : Int} (hb : b ≠ 0) : Bin w A .Mod (.int a) (.int b) (.int (a.fmod b)) := by rintro _ _ s _ ⟨t, rfl⟩ ⟨u, rfl⟩; exact PyProof.Rows.mod_int hb ⟨Ext.tok, _, rfl⟩
theorem bin_fdiv {a b : Int} (hb : b ≠ 0) (hp : Builtin.divisionGoesByPylong a b = false) : Bin w A .FloorDiv (.int a) (.int b) (.int (a.fdiv b)) := by
  rintro _ _ s _ ⟨t, rfl⟩ ⟨u, rfl⟩; exact floordiv_int hb ⟨Ext.tok, _, rfl⟩ (.inl hp)
theorem bin_cat {x y : Str} (hx : (x.length == 0) = false) (hy : (y.length == 0) = false) (hz : (x ++ y).length ≤ 1000) : Bin w A .Add (.str x) (.str y) (.str (x ++ y)) := by
  rintro _ _ s _ ⟨t, rfl⟩ ⟨u, rfl⟩
  refine P.add_str ?_
  rw [hx, hy]
  simp only [Bool.false_eq_true, if_false]
  refine ⟨?_, Ext.tok, _, rfl⟩
  show (x ++ y).length ≤ 16777216
  omega
theorem bin_lists {xs ys : List D} (hz : xs.length + ys.length ≤ 1000) : Bin w A .Add (.list xs) (.list ys) (.list (xs ++ ys)) := by
  rintro _ _ s B ⟨a, vs, n, rfl, g, hv⟩ ⟨b, ws, m, rfl, g', hw⟩
  refine P.add_list g g' ?_ (by have := hv.length; have := hw.length; simp [sizeLine]; omega)
  have x : Ext [] s { s with heap := s.heap.push { cls := .type "list", data := .seq (vs.toArray ++ ws.toArray) } } := Ext.push (t := s.toks)
  refine ⟨x, _, vs ++ ws, 0, rfl, ?_, (x.vals0 B hv).app (x.vals0 B hw)⟩
  have e : (vs ++ ws).toArray = vs.toArray ++ ws.toArray := by simp
  show (s.heap.push _).get? _ = some ⟨_, _, .seq (vs ++ ws).toArray 0, _⟩
  rw [e]
  exact Heap.get?_push_size _ rfl
end
end Mine
end
section
open PySem PySem.W PyProof.Rows
set_option Elab.async false
set_option maxRecDepth 100000
namespace Mine

theorem rec_head {K : Frag} {p : Addr} {T : String} {v : Value} (h : (recIn K p T).bind (·.head?) = some v) : ∃ r, recIn K p T = some (v :: r) := by
  cases e : recIn K p T with
  | none => rw [e] at h; cases h
  | some l =>
    rw [e] at h
    cases l with
    | nil => cases h
    | cons a r => cases h; exact ⟨r, rfl⟩
theorem k_tag_ga (P : Params) : findIn (KB P) (.ref cTag) "__getattribute__" = some (some (.builtin "object.__getattribute__")) := by kernel_rfl
theorem k_tag_g (P : Params) : findIn (KB P) (.ref cTag) "__getattr__" = some none := by kernel_rfl
theorem k_tags_ga (P : Params) : findIn (KB P) (.ref cTags) "__getattribute__" = some (some (.builtin "list.__getattribute__")) := by kernel_rfl
theorem k_tags_g (P : Params) : findIn (KB P) (.ref cTags) "__getattr__" = some none := by kernel_rfl
theorem k_code (P : Params) (m : Nat) : findObj (KB P) cTag (some (dictO m)) "code" = some (.bind (.builtin "property.__get__") (.ref 84)) := by kernel_rfl
theorem k_value (P : Params) (m : Nat) : findObj (KB P) cTag (some (dictO m)) "value" = some (.bind (.builtin "property.__get__") (.ref 92)) := by kernel_rfl
theorem k__code (P : Params) (m : Nat) : findObj (KB P) cTag (some (dictO m)) "_code" = some (.bind (.builtin "member_descriptor.__get__") (.ref 139)) := by kernel_rfl
theorem k__value (P : Params) (m : Nat) : findObj (KB P) cTag (some (dictO m)) "_value" = some (.bind (.builtin "member_descriptor.__get__") (.ref 140)) := by kernel_rfl
theorem k_slot0 (P : Params) : slotIn (KB P) 139 cTag = some 0 := by kernel_rfl
theorem k_slot1 (P : Params) : slotIn (KB P) 140 cTag = some 1 := by kernel_rfl
theorem k_prop0 (P : Params) : ∃ r, recIn (KB P) 84 "property" = some (.ref 83 :: r) := rec_head (by kernel_rfl)
theorem k_prop1 (P : Params) : ∃ r, recIn (KB P) 92 "property" = some (.ref 91 :: r) := rec_head (by kernel_rfl)

theorem inst_tag {h : Heap} {a : Addr} {c : Int} {t : Tok} {x : Str} {u : Tok} {dx : Addr} {m : Nat} (g : h.get? a = some (tagO c t x u dx)) (gd : h.get? dx = some (dictO m)) : InstAt h a (tagO c t x u dx) cTag (some (dictO m)) := ⟨g, rfl, rfl, gd⟩
theorem inst_tags {h : Heap} {a : Addr} {vs : List Value} {n m : Nat} {dx : Addr} (g : h.get? a = some (tagsO vs n dx)) (gd : h.get? dx = some (dictO m)) : InstAt h a (tagsO vs n dx) cTags (some (dictO m)) := ⟨g, rfl, rfl, gd⟩

theorem handed_int (i : Int) (t : Tok) : handedIn (.int i t) = true := rfl
theorem handed_str (x : Str) (t : Tok) : handedIn (.str x t) = true := rfl

section
variable {w : World} {A : Around} {env : Env} {σ : List (Str × D)}
theorem get__code {v : Value} {s : Shared} {c : Int} {x : Str} {e : Bool} (B : Base w s) (hv : Val s.heap (.tag c x) v) : wpAny (md w) A (getAttr v "_code" e) (Ok s (.int c)) noE s := by
  obtain ⟨a, t, u, dx, m, rfl, g, gd⟩ := hv
  exact get_bind B.KB (inst_tag g gd) (k_tag_ga _) (k__code _ _) (k_tag_g _) (wpAny_call (slot_get (s := { s with toks := s.toks + 1 }) B.KB (inst_tag g gd) (k_slot0 _) rfl (handed_on (handed_int c t) ⟨Ext.tok, _, rfl⟩)))
theorem get__value {v : Value} {s : Shared} {c : Int} {x : Str} {e : Bool} (B : Base w s) (hv : Val s.heap (.tag c x) v) : wpAny (md w) A (getAttr v "_value" e) (Ok s (.str x)) noE s := by
  obtain ⟨a, t, u, dx, m, rfl, g, gd⟩ := hv
  exact get_bind B.KB (inst_tag g gd) (k_tag_ga _) (k__value _ _) (k_tag_g _) (wpAny_call (slot_get (s := { s with toks := s.toks + 1 }) B.KB (inst_tag g gd) (k_slot1 _) rfl (handed_on (handed_str x u) ⟨Ext.tok, _, rfl⟩)))

theorem ev_attr {e : Expr} {n : Str} {pos : Pos} {a d : D} (h : Ev w A env σ e a) (hg : ∀ v s, Base w s → Val s.heap a v → wpAny (md w) A (getAttr v n true) (Ok s d) noE s)
    (he : eval (.Attribute e n pos) env = (do
      let o ← eval e env
      standAt pos.atName
      let r ← holding [o] (getAttr o n true)
      letTemporaryGo e o r
      pure r) := by with_unfolding_all rfl) : Ev w A env σ (.Attribute e n pos) d := fun s H => by
  refine Attribute_any_ (wpAny_noE (h s H) fun v s₁ q => wpAny_noE (hg v s₁ (H.base.ext q.1) q.2) fun r s₂ z => ⟨q.1.trans z.1, z.2⟩) he
theorem ev__code {e : Expr} {pos : Pos} {c : Int} {x : Str} (h : Ev w A env σ e (.tag c x))
    (he : eval (.Attribute e "_code" pos) env = (do
      let o ← eval e env
      standAt pos.atName
      let r ← holding [o] (getAttr o "_code" true)
      letTemporaryGo e o r
      pure r) := by with_unfolding_all rfl) : Ev w A env σ (.Attribute e "_code" pos) (.int c) := ev_attr h (fun _ _ B hv => get__code B hv) he
theorem ev__value {e : Expr} {pos : Pos} {c : Int} {x : Str} (h : Ev w A env σ e (.tag c x))
    (he : eval (.Attribute e "_value" pos) env = (do
      let o ← eval e env
      standAt pos.atName
      let r ← holding [o] (getAttr o "_value" true)
      letTemporaryGo e o r
      pure r) := by with_unfolding_all rfl) : Ev w A env σ (.Attribute e "_value" pos) (.str x) := ev_attr h (fun _ _ B hv => get__value B hv) he
end

theorem one_arg {fd : FuncData} {n : Str} (h : ∀ v, bindArgs fd ⟨[v], []⟩ = pure [(n, v)]) : ∀ vs : List Value, vs.length = 1 → bindArgs fd ⟨vs, []⟩ = pure ([n].zip vs) := fun vs hl => by
  obtain ⟨v, rfl⟩ := List.length_eq_one_iff.mp hl
  exact h v
theorem fn_code {w : World} {k : Nat} {c : Int} {x : Str} : Fn w (k + 1) 83 [.tag c x] (.int c) := by
  refine fn_pure (fun P => by k_is) (by kernel_rfl) (by exact one_arg fun v => rfl) (by rfl) (by exact fun A L r => body_ret (ev__code (ev_name rfl)))
end Mine
end
section
open PySem PySem.W PyProof.Rows
set_option Elab.async false
set_option maxRecDepth 100000
namespace Mine

def Callee (w : World) (f : Value) : Prop := ∀ h, (KB w.params).In h → ∃ k, (k = Keeper.frame ∨ k = Keeper.machine ∨ k = Keeper.boundFrame) ∧ Looks (md w) h (keeperOf f) k
theorem callee_K {w : World} {f : Value} (hk : keepIn (KB w.params) f = true) : Callee w f := fun h X => keeps_K hk h X
theorem callee_b {w : World} {i : String} : Callee w (.builtin i) := fun h _ => ⟨.machine, .inr (.inl rfl), Looks.of_pure rfl⟩
theorem callee_t {w : World} {i : String} : Callee w (.type i) := fun h _ => ⟨.machine, .inr (.inl rfl), Looks.of_pure rfl⟩

def noStar (es : List Expr) : Bool := es.all fun e => match e with | .Starred .. => false | _ => true
theorem star_false {pos : Pos} {env : Env} : ∀ {es : List Expr}, noStar es = true → (backTo pos (starEach es env)).any (·.1) = false
  | [], _ => rfl
  | e :: es, h => by
    unfold noStar at h
    rw [List.all_cons, Bool.and_eq_true] at h
    have ih := star_false (pos := pos) (env := env) (es := es) h.2
    cases e <;> first | (simp at h; done) | (simpa [starEach, backTo] using ih)

section
variable {w : World} {A : Around} {env : Env} {σ : List (Str × D)} {E : Value → Shared → Prop}

theorem callW {pos : Pos} {f : Value} {first : List Value} {es : List Expr} {ds : List D} {s : Shared} {Q : Value → Shared → Prop} (hk : Callee w f) (h : Evs w A env σ es ds) (H : Holds w env σ s) (hst : noStar es = true := by rfl)
    (hc : ∀ vs s', Ext [] s s' → Holds w env σ s' → Vals s'.heap ds vs → wpAny (md w) A (call f (first ++ vs)) Q E s') : wpAny (md w) A (callWith pos f first (backTo pos (starEach es env)) []) Q E s := by
  refine callWith_of (P := (KB w.params).In) (by rw [star_false hst]; rfl) hk ?_
  have key : wpAny (md w) A (spliced (backTo pos (starEach es env))) (fun vs s' => (KB w.params).In s'.heap ∧ wpAny (md w) A (call f (first ++ vs)) Q E s') E s :=
    wpAny_noE (evs_run h hst H) fun vs s' q => ⟨(H.base.ext q.1).KB, hc vs s' q.1 (H.ext q.1) q.2⟩
  cases es with
  | nil =>
    have := show ds = [] from h
    subst this
    exact evalArgs_nil3 ⟨H.base.KB, hc [] s (Ext.refl s) H rfl⟩
  | cons e r =>
    have e1 : backTo pos (starEach (e :: r) env) = (false, eval e env) :: backTo pos (starEach r env) := by
      unfold noStar at hst
      rw [List.all_cons, Bool.and_eq_true] at hst
      cases e <;> first | rfl | (simp at hst; done)
    rw [e1] at key ⊢
    exact Calls.evalArgs_plain key

theorem eval_Call_Name {x : Str} {px pos : Pos} {es : List Expr} : eval (.Call (.Name x px) es [] pos) env = (do callWith pos (← eval (.Name x px) env) [] (backTo pos (starEach es env)) (backToKw pos (keywordEach [] env))) := rfl

/-- a name called -/
theorem callName {x : Str} {px pos : Pos} {f : Value} {es : List Expr} {ds : List D} {s : Shared} {Q : Value → Shared → Prop} (hg : Gl w A env σ (.Name x px) f) (hk : Callee w f) (h : Evs w A env σ es ds) (H : Holds w env σ s)
    (hc : ∀ vs s', Ext [] s s' → Holds w env σ s' → Vals s'.heap ds vs → wpAny (md w) A (call f vs) Q E s') (hst : noStar es = true := by rfl) : wpAny (md w) A (eval (.Call (.Name x px) es [] pos) env) Q E s := by
  rw [eval_Call_Name]
  refine wpAny_bind (wpAny_noE (hg s H) fun u s' q => ?_)
  obtain ⟨rfl, rfl⟩ := q
  exact callW hk h H hst hc

theorem wpAny_fn {k : Nat} {f : Addr} {ds : List D} {d : D} {s : Shared} {vs : List Value} (h : Fn w k f ds d) (r : Room k A) (B : Base w s) (hv : Vals s.heap ds vs) : wpAny (md w) A (call (.ref f) vs) (Ok s d) noE s := by
  refine wpAny_call (codeAny_mono (h A s vs r B hv) fun r s' q => ?_)
  obtain ⟨v, rfl, z⟩ := q
  exact z
theorem ev_fn {k : Nat} {x : Str} {px pos : Pos} {f : Addr} {es : List Expr} {ds : List D} {d : D} (hf : Fn w k f ds d) (hg : Gl w A env σ (.Name x px) (.ref f)) (hk : keepIn (KB w.params) (.ref f) = true) (h : Evs w A env σ es ds) (r : Room k A)
    (hst : noStar es = true := by rfl) : Ev w A env σ (.Call (.Name x px) es [] pos) d := fun s H =>
  callName hg (callee_K hk) h H (fun vs s' e H' hv => wpAny_noE (wpAny_fn hf r H'.base hv) fun v s'' z => ⟨e.trans z.1, z.2⟩) hst

/-- the getters of a tag -/
theorem get_code {v : Value} {s : Shared} {c : Int} {x : Str} {e : Bool} {k : Nat} (r : Room (k + 2) A) (B : Base w s) (hv : Val s.heap (.tag c x) v) : wpAny (md w) A (getAttr v "code" e) (Ok s (.int c)) noE s := by
  obtain ⟨a, t, u, dx, m, rfl, g, gd⟩ := hv
  obtain ⟨rest, hp⟩ := k_prop0 w.params
  have e0 : Ext [] s { s with toks := s.toks + 1 } := Ext.tok
  refine get_bind B.KB (inst_tag g gd) (k_tag_ga _) (k_code _ _) (k_tag_g _) (wpAny_call (prop_get (s := { s with toks := s.toks + 1 }) B.KB hp (codeAny_mono (fn_code (k := k) (c := c) (x := x) A.in1 _ [.ref a] r.in1 (B.ext e0) ⟨_, _, rfl, ⟨a, t, u, dx, m, rfl, g, gd⟩, rfl⟩) fun rr s' q => ?_)))
  obtain ⟨v, rfl, z⟩ := q
  obtain ⟨i, rfl⟩ := z.2
  exact handed_on (handed_int _ _) ⟨e0.trans z.1, _, rfl⟩
theorem fn_value {k : Nat} {c : Int} {x : Str} : Fn w (k + 1) 91 [.tag c x] (.str x) := by
  refine fn_pure (fun P => by k_is) (by kernel_rfl) (by exact one_arg fun v => rfl) (by rfl) (by exact fun A L r => body_ret (ev__value (ev_name rfl)))
theorem get_value {v : Value} {s : Shared} {c : Int} {x : Str} {e : Bool} {k : Nat} (r : Room (k + 2) A) (B : Base w s) (hv : Val s.heap (.tag c x) v) : wpAny (md w) A (getAttr v "value" e) (Ok s (.str x)) noE s := by
  obtain ⟨a, t, u, dx, m, rfl, g, gd⟩ := hv
  obtain ⟨rest, hp⟩ := k_prop1 w.params
  have e0 : Ext [] s { s with toks := s.toks + 1 } := Ext.tok
  refine get_bind B.KB (inst_tag g gd) (k_tag_ga _) (k_value _ _) (k_tag_g _) (wpAny_call (prop_get (s := { s with toks := s.toks + 1 }) B.KB hp (codeAny_mono (fn_value (k := k) (c := c) (x := x) A.in1 _ [.ref a] r.in1 (B.ext e0) ⟨_, _, rfl, ⟨a, t, u, dx, m, rfl, g, gd⟩, rfl⟩) fun rr s' q => ?_)))
  obtain ⟨v, rfl, z⟩ := q
  obtain ⟨i, rfl⟩ := z.2
  exact handed_on (handed_str _ _) ⟨e0.trans z.1, _, rfl⟩
theorem ev_code {e : Expr} {pos : Pos} {c : Int} {x : Str} {k : Nat} (r : Room (k + 2) A) (h : Ev w A env σ e (.tag c x))
    (he : eval (.Attribute e "code" pos) env = (do
      let o ← eval e env
      standAt pos.atName
      let r ← holding [o] (getAttr o "code" true)
      letTemporaryGo e o r
      pure r) := by with_unfolding_all rfl) : Ev w A env σ (.Attribute e "code" pos) (.int c) := ev_attr h (fun _ _ B hv => get_code r B hv) he
theorem ev_value {e : Expr} {pos : Pos} {c : Int} {x : Str} {k : Nat} (r : Room (k + 2) A) (h : Ev w A env σ e (.tag c x))
    (he : eval (.Attribute e "value" pos) env = (do
      let o ← eval e env
      standAt pos.atName
      let r ← holding [o] (getAttr o "value" true)
      letTemporaryGo e o r
      pure r) := by with_unfolding_all rfl) : Ev w A env σ (.Attribute e "value" pos) (.str x) := ev_attr h (fun _ _ B hv => get_value r B hv) he
end
end Mine
end
section
open PySem PySem.W PyProof.Rows PySem.Builtin PySem.Builtin.ObjectAttr PySem.Builtin.Getset_descriptor
set_option Elab.async false
set_option maxRecDepth 100000
namespace Mine

/-- a slot of any object is stored to -/
theorem slot_put {prog : Program} {w : World} {A : Around} {s : Shared} {K : Frag} {p x C : Addr} {R : Result → Shared → Prop} {ox : Obj} {od : Option Obj} {v : Value} {i : Nat} (X : K.In s.heap) (I : InstAt s.heap x ox C od)
    (hp : slotIn K p C = some i) (hi : i < 1000)
    (hf : ({ ox with slots := (ox.slots ++ Array.replicate (i + 1 - ox.slots.size) none).setIfInBounds i (some v) } : Obj).isFreed = false)
    (h : ∀ h', h'.get? x = some { ox with slots := (ox.slots ++ Array.replicate (i + 1 - ox.slots.size) none).setIfInBounds i (some v) } → Heap.SameBut x s.heap h' → R (.ok (.ret .none)) { s with heap := h' }) :
    codeAny (model prog w) A (.call (.builtin "member_descriptor.__set__") ⟨[.ref p, .ref x, v], []⟩) R s := by
  obtain ⟨n, tn, owner, behind, tb, d, sl, cd, ho, hc, hm, hb, rfl⟩ := slot_of X hp
  obtain ⟨hh, g, dr, t, os⟩ := s
  have t1 := I.type (M := model prog w)
  have t2 := looks_mroIn (M := model prog w) X hm
  have t3 : Looks (model prog w) hh (Slots.slotNamesOf (.ref C)) cd.slotNames := (looks_clsIn X hc).andThen .now
  have hx := I.at_
  dsimp only at ho hx t1 t2
  have f0 := looks_field (M := model prog w) ho 0 (v := .str n tn) rfl
  have f1 := looks_field (M := model prog w) ho 1 (v := owner) rfl
  have f3 := looks_field (M := model prog w) ho 3 (v := .builtin "proto.slot#set") rfl
  have f4 := looks_field (M := model prog w) ho 4 (v := .int behind tb) rfl
  have f5 : Looks (model prog w) hh (descrItself (.ref p)) [.ref p] := ((Looks.ld (part := none) ho).andThen .now).andThen (Looks.of_pure (by kernel_rfl))
  refine codeAny_call_builtin KF.slot_mset.plain KF.entry_mset (KF.slot_mset.check _ _ _ _ _ _ _ _ ⟨_, ho, rfl⟩ (KF.args_mset _ _ _) ?_)
  unfold Builtin.«member_descriptor.__set__» descrSet descrStoreThrough descrCheckInstance descrNameAndClass isInstance
  repeat lk
  refine ⟨Code.quiet_builtin _ (by decide +kernel), codeAny_builtin KF.entry_slotset ?_⟩
  unfold Builtin.«proto.slot#set» Slots.target
  repeat lk
  rw [if_neg hb]
  refine wpAny_pure (wpAny_bind ?_)
  unfold setSlotAt
  dsimp only
  rw [if_neg (by rw [sizeLine_eq]; omega)]
  exact wpAny_updatePart hx (wpAny_pure (h _ (Heap.get?_update_self _ hx hf) (Heap.SameBut.update ..)))

theorem mem_of_lookup' {α : Type} : ∀ {l : List (Str × α)} {n : Str} {c : α}, l.lookup n = some c → (n, c) ∈ l := mem_of_lookup
theorem k_tag_sa (P : Params) : findIn (KB P) (.ref cTag) "__setattr__" = some (some (.builtin "object.__setattr__")) := by kernel_rfl
theorem k_tag_over (P : Params) : plainOver (KB P) cTag = true := by kernel_rfl
theorem k_take0 (P : Params) : takerIn (KB P) cTag "_code" = some (some (.ref 139)) := by kernel_rfl
theorem k_take1 (P : Params) : takerIn (KB P) cTag "_value" = some (some (.ref 140)) := by kernel_rfl
theorem k_ty0 (P : Params) : typeIn (KB P) (.ref 139) = some (.type "member_descriptor") := by kernel_rfl
theorem k_ty1 (P : Params) : typeIn (KB P) (.ref 140) = some (.type "member_descriptor") := by kernel_rfl
theorem k_makes_tag (P : Params) : makesIn (KB P) cTag = true := by kernel_rfl
theorem k_init_tag (P : Params) : findIn (KB P) (.ref cTag) "__init__" = some (some (.ref 62)) := by kernel_rfl
theorem k_fn62 (P : Params) : typeIn (KB P) (.ref 62) = some (.type "function") := by kernel_rfl

section
variable {w : World} {A : Around} {env : Env} {σ : List (Str × D)}

/-- storing to a slot of a tag that is not yet filled -/
theorem put_slot {s : Shared} {x dx : Addr} {ox : Obj} {m : Nat} {name : Str} {p : Addr} {i : Nat} {v : Value} {Q : Unit → Shared → Prop} {E : Value → Shared → Prop} (B : Base w s) (I : InstAt s.heap x ox cTag (some (dictO m)))
    (ht : takerIn (KB w.params) cTag name = some (some (.ref p))) (hT : typeIn (KB w.params) (.ref p) = some (.type "member_descriptor")) (hp : slotIn (KB w.params) p cTag = some i) (hi : i < 1000)
    {ox' : Obj} (he : ({ ox with slots := (ox.slots ++ Array.replicate (i + 1 - ox.slots.size) none).setIfInBounds i (some v) } : Obj) = ox') (hf : ox'.isFreed = false)
    (h : ∀ h' t, h'.get? x = some ox' → Heap.SameBut x s.heap h' → Q () { s with heap := h', toks := t }) :
    wpAny (md w) A (setAttr (.ref x) name v) Q E s :=
  set_plain B.KB I (k_tag_sa _) (osa_descr (s := { s with toks := s.toks + 1 }) KF.slot_mset B.KB I (k_tag_over _) ht hT (slot_put (s := { s with toks := s.toks + 1 }) B.KB I hp hi (by rw [he]; exact hf) fun h' a b => h h' _ (by rw [a, he]) b))
def isRaw : D → Bool
  | .raw _ => true
  | _ => false
theorem Holds.extR {w : World} {env : Env} {σ : List (Str × D)} {s s' : Shared} {S : List Addr} {G : List Nat} (H : Holds w env σ s) (e : ExtG S G s s') (hd : Dull s S) (hr : (σ.all fun p => isRaw p.2) = true) : Holds w env σ s' :=
  H.extV e hd fun y d v q _ h => by
    have := List.all_eq_true.mp hr (y, d) (mem_of_lookup' q)
    cases d <;> first | exact h | cases this
theorem Room.under {k : Nat} {C : Addr} {rest : List Value} {kw : List (Str × Value)} (r : Room (k + 1) A) : Room k (A.under (.builtin "type.__call__" ⟨.ref C :: rest, kw⟩)) := by
  have h1 := r.depth
  have h2 := r.units
  have e1 : (A.under (.builtin "type.__call__" ⟨.ref C :: rest, kw⟩)).depth = A.depth + 1 := depth_under_kw ..
  have e2 : (A.under (.builtin "type.__call__" ⟨.ref C :: rest, kw⟩)).units = A.units + (Code.builtin "type.__call__" ⟨.ref C :: rest, kw⟩).cUnits := rfl
  have e3 : (Code.builtin "type.__call__" ⟨.ref C :: rest, kw⟩).cUnits = 1 := by
    show 1 + 3 * Code.frames _ = 1
    kernel_rfl
  exact ⟨r.handled, by omega, by omega⟩

set_option maxHeartbeats 1000000 in
theorem init_tag {k : Nat} {s : Shared} {x dx : Addr} {m : Nat} {c : Int} {t : PySem.Tok} {y : Str} {u : PySem.Tok} {R : Result → Shared → Prop} (r : Room (k + 1) A) (B : Base w s) (hn : nTop ≤ x) (g : s.heap.get? x = some ⟨.ref cTag, some dx, .plain, #[]⟩) (gd : s.heap.get? dx = some (dictO m))
    (h : ∀ s', Ext [x] s s' → s'.heap.get? x = some (tagO c t y u dx) → R (.ok (.ret .none)) s') :
    codeAny (md w) A (.call (.ref 62) ⟨[.ref x, .int c t, .str y u], []⟩) R s := by
  refine fn_enter (binds := [(Str.ofString "self", .ref x), (Str.ofString "code", .int c t), (Str.ofString "value", .str y u)]) (ds := [.raw (.ref x), .raw (.int c t), .raw (.str y u)]) B r (by k_is) (by kernel_rfl) (by exact BindsTo.of_eq rfl)
    ⟨_, _, rfl, rfl, _, _, rfl, rfl, _, _, rfl, rfl, rfl⟩ (by
      intro L s₀ e0 hnew H r'
      have k1 := e0.at0 B g (by simp)
      have k2 := e0.at0 B gd (by simp)
      refine wpAny_execs_cons (plainObj_wpAny_Assign_Attribute (wpAny_noE ((ev_name (d := .raw (.int c t)) rfl) _ H) fun v1 s1 q1 => wpAny_noE ((ev_name (d := .raw (.ref x)) rfl) _ (H.ext q1.1)) fun v2 s2 q2 => ?_))
      have H2 := (H.ext q1.1).ext q2.1
      have x12 := q1.1.trans q2.1
      rw [show v2 = _ from q2.2, show v1 = _ from q1.2]
      have g2 := x12.at0 H.base k1 (by simp)
      have gd2 := x12.at0 H.base k2 (by simp)
      refine put_slot (dx := dx) (m := m) H2.base ⟨g2, rfl, rfl, gd2⟩ (k_take0 _) (k_ty0 _) (k_slot0 _) (by decide) (ox' := ⟨.ref cTag, some dx, .plain, #[some (.int c t)]⟩) rfl rfl fun h3 t3 g3 sb3 => ?_
      have x3 : Ext [x] s2 { s2 with heap := h3, toks := t3 } := Ext.set hn g2 rfl sb3
      have dull : ∀ {s : Shared} {o : Obj}, s.heap.get? x = some o → o.data = .plain → Dull s [x] := fun g hp a ha o' g' => by
        rw [List.mem_singleton.mp ha, g] at g'; cases g'
        exact ⟨fun v q => (by rw [hp] at q; cases q), fun es ep q => (by rw [hp] at q; cases q)⟩
      have H3 := H2.extR x3 (dull g2 rfl) rfl
      have gd3 : h3.get? dx = some (dictO m) := (sb3.2 dx fun e => by rw [e, g2] at gd2; cases gd2).trans gd2
      refine wpAny_execs_cons (plainObj_wpAny_Assign_Attribute (wpAny_noE ((ev_name (d := .raw (.str y u)) rfl) _ H3) fun v4 s4 q4 => wpAny_noE ((ev_name (d := .raw (.ref x)) rfl) _ (H3.ext q4.1)) fun v5 s5 q5 => ?_))
      have H5 := (H3.ext q4.1).ext q5.1
      have x35 := q4.1.trans q5.1
      rw [show v5 = _ from q5.2, show v4 = _ from q4.2]
      have g5 := x35.at0 H3.base g3 (by simp)
      have gd5 := x35.at0 H3.base gd3 (by simp)
      refine put_slot (dx := dx) (m := m) H5.base ⟨g5, rfl, rfl, gd5⟩ (k_take1 _) (k_ty1 _) (k_slot1 _) (by decide) (ox' := tagO c t y u dx) rfl rfl fun h6 t6 g6 sb6 => ?_
      have x6 : Ext [x] s5 { s5 with heap := h6, toks := t6 } := Ext.set hn g5 rfl sb6
      refine wpAny_execs_nil (h _ ?_ ?_)
      · have hx : ∀ i ∈ [x], nTop ≤ i := fun i hi => by rw [List.mem_singleton.mp hi]; exact hn
        exact ((((e0.trans x12).wk0 hx).trans x3).trans (x35.wk0 hx)).trans x6
      · exact g6
      ) (hnd := by simp only [List.map_cons, List.map_nil]; decide)

theorem make_tag {k : Nat} {s : Shared} {c : Int} {y : Str} {cv yv : Value} (r : Room (k + 2) A) (B : Base w s) (hc : Val s.heap (.int c) cv) (hy : Val s.heap (.str y) yv) : wpAny (md w) A (call (.ref cTag) [cv, yv]) (Ok s (.tag c y)) noE s := by
  obtain ⟨t, rfl⟩ := hc
  obtain ⟨u, rfl⟩ := hy
  obtain ⟨hh, g, d, tk, os⟩ := s
  refine wpAny_call (make_core (makes_of B.KB (k_makes_tag _)) (looks_findIn B.KB (k_init_tag _)) (fun self => bind_fn B.KB self (k_fn62 _)) (.inl rfl) ?_)
  have e1 : Ext [] ⟨hh, g, d, tk, os⟩ ⟨(hh.push emptyDict).push (instObj cTag hh.objs.size), g, d, tk, os⟩ := Ext.grow (t := tk) fun b o e => Heap.get?_push_of_some _ (Heap.get?_push_of_some _ e)
  have hs : (hh.push emptyDict).objs.size = hh.objs.size + 1 := Heap.size_push ..
  have gx : ((hh.push emptyDict).push (instObj cTag hh.objs.size)).get? (hh.objs.size + 1) = some (instObj cTag hh.objs.size) := by rw [← hs]; exact Heap.get?_push_size _ rfl
  have gd : ((hh.push emptyDict).push (instObj cTag hh.objs.size)).get? hh.objs.size = some (dictO 0) := Heap.get?_push_of_some _ (Heap.get?_push_size _ rfl)
  have hn : nTop ≤ hh.objs.size + 1 := Nat.le_succ_of_le B.big
  refine init_tag (k := k) (s := ⟨(hh.push emptyDict).push (instObj cTag hh.objs.size), g, d, tk, os⟩) (dx := hh.objs.size) (m := 0) r.under (B.ext e1) hn gx gd fun s' e2 g2 => ?_
  refine ⟨rfl, ((e1.wk0 e2.own).trans e2).drop (fun i hi => .inr ?_) (by simp), _, t, u, _, 0, rfl, g2, ?_⟩
  · rw [List.mem_singleton.mp hi]; exact gone (Nat.le_succ _)
  · exact e2.at (B.ext e1) gd (by simp) (by simp)
theorem k_keep_tag (P : Params) : keepIn (KB P) (.ref cTag) = true := by kernel_rfl
theorem k_keep_tags (P : Params) : keepIn (KB P) (.ref cTags) = true := by kernel_rfl
theorem k_g_tag (P : Params) : nsIn (KB P) mainGlobals "DXFTag" = some (some (.ref cTag)) := by kernel_rfl
theorem k_g_tags (P : Params) : nsIn (KB P) mainGlobals "Tags" = some (some (.ref cTags)) := by kernel_rfl
theorem ev_make {k : Nat} {px pos : Pos} {e1 e2 : Expr} {c : Int} {y : Str} (r : Room (k + 2) A) (hx : env.kindOf "DXFTag" = some .globalImplicit) (h1 : Ev w A env σ e1 (.int c)) (h2 : Ev w A env σ e2 (.str y)) (hst : noStar [e1, e2] = true := by rfl) :
    Ev w A env σ (.Call (.Name "DXFTag" px) [e1, e2] [] pos) (.tag c y) := fun s H =>
  callName (gl_main hx (k_g_tag _)) (callee_K (k_keep_tag _)) (ds := [.int c, .str y]) ⟨_, _, rfl, h1, _, _, rfl, h2, rfl⟩ H (fun vs s' e H' hv => by
    obtain ⟨v1, r1, rfl, a1, v2, r2, rfl, a2, hr⟩ := hv
    rw [show r2 = [] from hr]
    exact wpAny_noE (make_tag r H'.base a1 a2) fun v s'' z => ⟨e.trans z.1, z.2⟩) hst
end
end Mine
end
section
open PySem PySem.W PyProof.Rows PySem.Builtin PySem.AutoSeq1
set_option Elab.async false
set_option maxRecDepth 100000
namespace Mine

theorem check_method {M : Model} {A : Around} {E : Value → Shared → Prop} {s : Shared} {i owner n : String} {self : Value} {rest : List Value} {Q : Unit → Shared → Prop}
    (hk : builtinKind i = some .method) (hs : splitId i = some (owner, n)) (hi : Looks M s.heap (isInstance self (.type owner)) true) (ha : argsOk i ⟨self :: rest, []⟩) (q : Q () s) :
    wpAny M A (checkBuiltinCall i ⟨self :: rest, []⟩) Q E s := by
  simp only [checkBuiltinCall, hk, hs]
  refine wpAny_bind (hi.here ?_)
  simp only [Bool.not_true, Bool.false_eq_true, if_false]
  cases hsig : Manifest.signature? i with
  | none => exact wpAny_pure q
  | some sig =>
    simp only [argsOk, hsig] at ha
    have h2 : Bind.checkArgs i sig ⟨self :: rest, []⟩ = pure () := ha
    show wpAny M A (Bind.checkArgs i sig ⟨self :: rest, []⟩) Q E s
    rw [h2]; exact wpAny_pure q

theorem k_tags_sub (P : Params) : subIn (KB P) (.ref cTags) (.type "list") = some true := by kernel_rfl

section
variable {w : World} {A : Around} {env : Env} {σ : List (Str × D)} {s : Shared} {a dx : Addr} {vs : List Value} {n m : Nat} {E : Value → Shared → Prop}

theorem tags_inst (B : Base w s) (g : s.heap.get? a = some (tagsO vs n dx)) : Looks (md w) s.heap (isInstance (.ref a) (.type "list")) true :=
  ((Looks.ld (part := none) g).andThen .now).andThen (looks_subIn B.KB (k_tags_sub _))

/-- a list's method on a row of tags -/
theorem call_meth {id nm : String} {b : Builtin} {rest : List Value} {Q : Value → Shared → Prop} (B : Base w s) (g : s.heap.get? a = some (tagsO vs n dx)) (hp : plainId id = true) (hb : entryFor table id = some b) (hk : builtinKind id = some .method) (hs : splitId id = some ("list", nm)) (ha : argsOk id ⟨.ref a :: rest, []⟩)
    (hc : wpAny (md w) A.in1 (b ⟨.ref a :: rest, []⟩) (fun fin s' => ∃ v, fin = .done (.ret v) ∧ Q v s') E s) : wpAny (md w) A (call (.builtin id) (.ref a :: rest)) Q E s :=
  wpAny_call (codeAny_call_builtin hp hb (check_method hk hs (tags_inst B g) ha (wpAny_mono hc (fun fin s' h => by obtain ⟨v, rfl, q⟩ := h; exact q) fun _ _ e => e)))
theorem call_slot {id nm : String} {b : Builtin} {rest : List Value} {Q : Value → Shared → Prop} (B : Base w s) (g : s.heap.get? a = some (tagsO vs n dx)) (hp : plainId id = true) (hb : entryFor table id = some b) (hk : builtinKind id = some .slot) (hs : splitId id = some ("list", nm)) (ha : argsOk id ⟨.ref a :: rest, []⟩)
    (hc : wpAny (md w) A.in1 (b ⟨.ref a :: rest, []⟩) (fun fin s' => ∃ v, fin = .done (.ret v) ∧ Q v s') E s) : wpAny (md w) A (call (.builtin id) (.ref a :: rest)) Q E s :=
  wpAny_call (codeAny_call_builtin hp hb (check_slot hk hs (tags_inst B g) ha (wpAny_mono hc (fun fin s' h => by obtain ⟨v, rfl, q⟩ := h; exact q) fun _ _ e => e)))

theorem mapSeq_tags (f : Array Value → Array Value) (vs : List Value) (n : Nat) (dx : Addr) : ∃ n', Obj.mapSeq f (tagsO vs n dx) = tagsO (f vs.toArray).toList n' dx := by
  refine ⟨?_, ?_⟩
  rotate_left
  · unfold Obj.mapSeq tagsO; simp only [Array.toArray_toList]; rfl
theorem tags_upd {f : Array Value → Array Value} {ws : List Value} {h : Heap} (g : h.get? a = some (tagsO vs n dx)) (e : (f vs.toArray).toList = ws) : ∃ n', (h.update a (Obj.mapSeq f)).get? a = some (tagsO ws n' dx) := by
  obtain ⟨n', e'⟩ := mapSeq_tags f vs n dx
  refine ⟨n', ?_⟩
  rw [← e, ← e']
  exact Heap.get?_update_self _ g (by rw [e']; rfl)
theorem tags_clear {Q : Value → Shared → Prop} (B : Base w s) (g : s.heap.get? a = some (tagsO vs n dx)) (hz : vs.length ≤ 1000)
    (h : ∀ h' n', h'.get? a = some (tagsO [] n' dx) → Heap.SameBut a s.heap h' → Q .none { s with heap := h' }) : wpAny (md w) A (call (.builtin "list.clear") [.ref a]) Q E s := by
  refine call_meth (nm := "clear") B g F.slot_list_clear.plain F.entry_list_clear (by decide +kernel) (by decide +kernel) (F.args_list_clear_1 _) ?_
  obtain ⟨hp, gg, d, tk, os⟩ := s
  have hl : Heap.get? (Shared.heap ⟨hp, gg, d, tk, os⟩) a = some (tagsO vs n dx) := g
  wp_walk using (wpAny_updateSeq hl rfl), wpAny_loadPart' hl
  exact ⟨_, rfl, h _ _ (Heap.get?_update_self _ hl rfl) (Heap.SameBut.update ..)⟩

theorem tags_extend {Q : Value → Shared → Prop} {b : Addr} {ws : List Value} {k : Nat} (B : Base w s) (g : s.heap.get? a = some (tagsO vs n dx)) (gb : s.heap.get? b = some (listO ws k)) (hz : vs.length + ws.length ≤ 1000)
    (h : ∀ h' n', h'.get? a = some (tagsO (vs ++ ws) n' dx) → Heap.SameBut a s.heap h' → Q .none { s with heap := h' }) : wpAny (md w) A (call (.builtin "list.extend") [.ref a, .ref b]) Q E s := by
  refine call_meth (nm := "extend") B g F.slot_list_extend.plain F.entry_list_extend (by decide +kernel) (by decide +kernel) (F.args_list_extend_2 _ _) ?_
  obtain ⟨hp, gg, d, tk, os⟩ := s
  have hl : Heap.get? (Shared.heap ⟨hp, gg, d, tk, os⟩) a = some (tagsO vs n dx) := g
  have hb : Heap.get? (Shared.heap ⟨hp, gg, d, tk, os⟩) b = some (listO ws k) := gb
  have z1 : vs.toArray.size ≤ sizeLine := by show vs.toArray.size ≤ 16777216; simp; omega
  have z2 : (vs.toArray ++ ws.toArray).size ≤ sizeLine + 1 := by show (vs.toArray ++ ws.toArray).size ≤ 16777216 + 1; simp; omega
  have z3 : ¬(!vs.toArray.isEmpty && Builtin.List.listTooLong (vs.toArray.size + ws.toArray.size)) = true := by
    unfold Builtin.List.listTooLong
    simp only [Bool.and_eq_true, decide_eq_true_eq, not_and]
    intro _
    simp [sizeLine]
    omega
  wp_walk using (wpAny_updateSeq hl rfl (hz := z1) (_hz' := z2)), wpAny_loadPart' hl, wpAny_loadPart' hb
  rw [if_neg z3]
  wp_walk using (wpAny_updateSeq hl rfl (hz := z1) (_hz' := z2)), wpAny_loadPart' hl, wpAny_loadPart' hb
  obtain ⟨n', e⟩ := tags_upd (f := fun x => x ++ ws.toArray) (ws := vs ++ ws) hl (by simp)
  exact ⟨_, rfl, h _ n' e (Heap.SameBut.update ..)⟩

theorem tags_append {Q : Value → Shared → Prop} {x : Value} (B : Base w s) (g : s.heap.get? a = some (tagsO vs n dx)) (hz : vs.length ≤ 1000)
    (h : ∀ h' n', h'.get? a = some (tagsO (vs ++ [x]) n' dx) → Heap.SameBut a s.heap h' → Q .none { s with heap := h' }) : wpAny (md w) A (call (.builtin "list.append") [.ref a, x]) Q E s := by
  refine call_meth (nm := "append") B g slot_list_append.plain entry_list_append (by decide +kernel) (by decide +kernel) (args_list_append _ _) ?_
  obtain ⟨hp, gg, d, tk, os⟩ := s
  have hl : Heap.get? (Shared.heap ⟨hp, gg, d, tk, os⟩) a = some (tagsO vs n dx) := g
  have z1 : vs.toArray.size ≤ sizeLine := by show vs.toArray.size ≤ 16777216; simp; omega
  have z2 : (vs.toArray.push x).size ≤ sizeLine + 1 := by show (vs.toArray.push x).size ≤ 16777216 + 1; simp; omega
  wp_walk using (wpAny_updateSeq hl rfl (hz := z1) (_hz' := z2)), wpAny_loadPart' hl
  refine ⟨_, rfl, h _ (n + 1) ?_ (Heap.SameBut.update ..)⟩
  have e : (tagsO (vs ++ [x]) (n + 1) dx) = Obj.mapSeq (·.push x) (tagsO vs n dx) := by simp [tagsO, Obj.mapSeq]
  rw [e]
  exact Heap.get?_update_self _ hl rfl

theorem tags_iter {Q : Value → Shared → Prop} (B : Base w s) (g : s.heap.get? a = some (tagsO vs n dx))
    (h : Q (.ref s.heap.objs.size) { s with heap := s.heap.push { cls := .type "list_iterator", data := .fields #[.ref a, .int 0 0] } }) : wpAny (md w) A (call (.builtin "list.__iter__") [.ref a]) Q E s := by
  refine call_slot (nm := "__iter__") B g slot_list_iter.plain entry_list_iter (by decide +kernel) (by decide +kernel) (args_list_iter _) ?_
  show wpAny _ _ (do ret (← newFields "list_iterator" [.ref a, rawInt 0])) _ _ s
  exact wpAny_bind (wpAny_newObj_type (wpAny_pure ⟨_, rfl, h⟩))

theorem tags_len {Q : Value → Shared → Prop} (B : Base w s) (g : s.heap.get? a = some (tagsO vs n dx))
    (h : Q (.int vs.length s.toks) { s with toks := s.toks + 1 }) : wpAny (md w) A (call (.builtin "list.__len__") [.ref a]) Q E s := by
  refine call_slot (nm := "__len__") B g slot_list_len.plain entry_list_len (by decide +kernel) (by decide +kernel) (args_list_len _) ?_
  obtain ⟨hp, gg, d, tk, os⟩ := s
  have hl : Heap.get? (Shared.heap ⟨hp, gg, d, tk, os⟩) a = some (tagsO vs n dx) := g
  wp_walk using wpAny_loadPart' hl
  refine ⟨_, rfl, ?_⟩
  simpa using h

theorem tags_get {Q : Value → Shared → Prop} {i : Int} {t : PySem.Tok} {x : Value} (B : Base w s) (g : s.heap.get? a = some (tagsO vs n dx)) (h0 : 0 ≤ i) (hi : vs[i.toNat]? = some x) (hz : vs.length ≤ 1000)
    (h : Q x s) : wpAny (md w) A (call (.builtin "list.__getitem__") [.ref a, .int i t]) Q E s := by
  have hlt : i.toNat < vs.length := (List.getElem?_eq_some_iff.mp hi).1
  have hfit : i < 2 ^ 63 := by omega
  refine call_meth (nm := "__getitem__") B g slot_list_getitem.plain entry_list_getitem (by decide +kernel) (by decide +kernel) (args_list_getitem _ _) ?_
  show wpAny _ _ (Builtin.List.listSubscript? (.int i t) >>= _) _ _ s
  refine wpAny_bind (wpAny_listSubscript_int (fitsIndex_of h0 hfit) ?_)
  clear hfit
  obtain ⟨j, rfl⟩ := Int.eq_ofNat_of_zero_le h0
  have hx' : vs.toArray[j]? = some x := by simpa using hi
  show wpAny _ _ ((seqItemAt a j >>= fun r => pure (r.map (j, ·))) >>= _) _ _ s
  refine wpAny_bind (wpAny_bind (wpAny_seqItemAt g rfl (wpAny_pure ?_)))
  rw [hx']
  first
    | exact wpAny_bind (wpAny_pure (wpAny_pure ⟨x, rfl, h⟩))
    | exact wpAny_pure ⟨x, rfl, h⟩

theorem tags_set {Q : Value → Shared → Prop} {i : Int} {t : PySem.Tok} {x : Value} (B : Base w s) (g : s.heap.get? a = some (tagsO vs n dx)) (h0 : 0 ≤ i) (hi : i.toNat < vs.length) (hz : vs.length ≤ 1000)
    (h : ∀ h' n', h'.get? a = some (tagsO (vs.set i.toNat x) n' dx) → Heap.SameBut a s.heap h' → Q .none { s with heap := h' }) : wpAny (md w) A (call (.builtin "list.__setitem__") [.ref a, .int i t, x]) Q E s := by
  have hfit : i < 2 ^ 63 := by omega
  refine call_slot (nm := "__setitem__") B g slot_list_setitem.plain entry_list_setitem (by decide +kernel) (by decide +kernel) (args_list_setitem _ _ _) ?_
  show wpAny _ _ (Builtin.List.listSubscript? (.int i t) >>= _) _ _ s
  refine wpAny_bind (wpAny_listSubscript_int (fitsIndex_of h0 hfit) ?_)
  clear hfit
  obtain ⟨j, rfl⟩ := Int.eq_ofNat_of_zero_le h0
  have hj : j < vs.length := by simpa using hi
  show wpAny _ _ ((seqItemAt a j >>= fun r => pure (r.map (j, ·))) >>= _) _ _ s
  refine wpAny_bind (wpAny_bind (wpAny_seqItemAt g rfl (wpAny_pure ?_)))
  rw [show vs.toArray[j]? = some vs[j] by simp [hj]]
  obtain ⟨n', fin⟩ := tags_upd (f := fun y => y.setIfInBounds j x) (ws := vs.set j x) g (by simp)
  refine wpAny_bind (wpAny_setSeqItemAt g rfl ?_)
  exact wpAny_pure ⟨_, rfl, h _ n' fin (Heap.SameBut.update ..)⟩
end
end Mine
end
section
open PySem PySem.W PyProof.Rows PySem.Builtin
set_option Elab.async false
set_option maxRecDepth 100000
namespace Mine

theorem k_s_iter (P : Params) : findIn (KB P) (.ref cTags) "__iter__" = some (some (.builtin "list.__iter__")) := by kernel_rfl
theorem k_s_getitem (P : Params) : findIn (KB P) (.ref cTags) "__getitem__" = some (some (.builtin "list.__getitem__")) := by kernel_rfl
theorem k_s_setitem (P : Params) : findIn (KB P) (.ref cTags) "__setitem__" = some (some (.builtin "list.__setitem__")) := by kernel_rfl
theorem k_s_len (P : Params) : findIn (KB P) (.ref cTags) "__len__" = some (some (.builtin "list.__len__")) := by kernel_rfl
theorem k_noseq (P : Params) : noSeq (KB P) cTags = true := by kernel_rfl

section
variable {w : World} {A : Around} {env : Env} {σ : List (Str × D)} {s : Shared} {a dx x C : Addr} {vs : List Value} {n m : Nat} {E : Value → Shared → Prop} {ox : Obj} {od : Option Obj} {T id : String} {name : Str}

theorem special_b {args : List Value} {Q : Option Value → Shared → Prop} (B : Base w s) (I : InstAt s.heap x ox C od) (hs : findIn (KB w.params) (.ref C) name = some (some (.builtin id))) (sl : Slot T name id)
    (h : wpAny (md w) A (call (.builtin id) (.ref x :: args)) (fun v => Q (some v)) E s) : wpAny (md w) A (callSpecial? (.ref x) name args) Q E s := by
  unfold callSpecial? specialOf
  refine wpAny_bind (wpAny_bind (I.type.here ((looks_findIn B.KB hs).here (wpAny_holding ?_))))
  rw [sl.bind]
  exact wpAny_bind (wpAny_pure (wpAny_bind (wpAny_mono h (fun _ _ z => wpAny_pure z) fun _ _ z => z)))
theorem ifBound_b {refuse : Sem Value} {Q : Option Value → Shared → Prop} (B : Base w s) (I : InstAt s.heap x ox C od) (hs : findIn (KB w.params) (.ref C) name = some (some (.builtin id))) (sl : Slot T name id)
    (h : wpAny (md w) A (call (.builtin id) [.ref x]) (fun v => Q (some v)) E s) : wpAny (md w) A (callSpecialIfBoundUnlessNone? (.ref x) name refuse) Q E s := by
  simp only [callSpecialIfBoundUnlessNone?, bindSpecialIfBound?]
  refine wpAny_holding (wpAny_bind (wpAny_bind (wpAny_bind (I.type.here ((looks_findIn B.KB hs).here ?_)))))
  simp only [sl.bind]
  refine wpAny_bind (wpAny_askSetting (wpAny_ite ?_))
  have fin : wpAny (md w) A (if (Value.builtin id == Value.none) = true then (refuse >>= fun v => pure (some v)) else (call (.builtin id) [.ref x] >>= fun v => pure (some v))) Q E s := by
    simp only [builtin_beq_none, Bool.false_eq_true, if_false]
    exact wpAny_bind (wpAny_mono h (fun v s' h' => wpAny_pure h') fun _ _ h' => h')
  split
  · exact wpAny_bind (wpAny_pure (wpAny_pure fin))
  · exact wpAny_tryCatch (wpAny_bind (wpAny_pure (wpAny_pure fin)))

theorem anyM_no {M : Model} {h : Heap} {K : Frag} (X : K.In h) {t : Value} : ∀ {l : List String}, (l.all fun n => subIn K t (.type n) == some false) = true → Looks M h (l.anyM fun n => isSubtype t (.type n)) false
  | [], _ => .now
  | n :: l, e => by
    rw [List.all_cons, Bool.and_eq_true] at e
    rw [List.anyM_cons]
    exact (looks_subIn X (beq_iff_eq.mp e.1)).andThen (anyM_no X e.2)

theorem seqKey_tags {k : Value} {Q : Value → Shared → Prop} (B : Base w s) (I : InstAt s.heap x ox cTags od) (h : Q k s) : wpAny (md w) A (sequenceKey (.ref x) k name) Q E s := by
  unfold sequenceKey
  refine wpAny_bind (I.type.here ?_)
  dsimp only
  refine wpAny_bind ((anyM_no B.KB (k_noseq w.params)).here ?_)
  exact wpAny_pure h

theorem getItem_tags {Q : Value → Shared → Prop} {i : Value} (B : Base w s) (g : s.heap.get? a = some (tagsO vs n dx)) (gd : s.heap.get? dx = some (dictO m)) (h : wpAny (md w) A (call (.builtin "list.__getitem__") [.ref a, i]) Q E s) : wpAny (md w) A (getItem (.ref a) i) Q E s := by
  unfold getItem
  refine wpAny_holding (wpAny_bind (seqKey_tags B (inst_tags g gd) (wpAny_bind (special_b B (inst_tags g gd) (k_s_getitem _) slot_list_getitem (wpAny_mono h (fun v s' z => wpAny_pure z) fun _ _ z => z)))))
theorem setItem_tags {Q : Unit → Shared → Prop} {i v : Value} (B : Base w s) (g : s.heap.get? a = some (tagsO vs n dx)) (gd : s.heap.get? dx = some (dictO m)) (h : wpAny (md w) A (call (.builtin "list.__setitem__") [.ref a, i, v]) (fun _ => Q ()) E s) : wpAny (md w) A (setItem (.ref a) i v) Q E s := by
  unfold setItem
  refine wpAny_holding (wpAny_bind (seqKey_tags B (inst_tags g gd) (wpAny_bind (special_b B (inst_tags g gd) (k_s_setitem _) slot_list_setitem (wpAny_mono h (fun v s' z => wpAny_pure z) fun _ _ z => z)))))
theorem pyIter_tags {Q : Value → Shared → Prop} (B : Base w s) (g : s.heap.get? a = some (tagsO vs n dx)) (gd : s.heap.get? dx = some (dictO m))
    (h : Q (.ref s.heap.objs.size) { s with heap := s.heap.push { cls := .type "list_iterator", data := .fields #[.ref a, .int 0 0] } }) : wpAny (md w) A (pyIter (.ref a)) Q E s := by
  have I := inst_tags g gd
  unfold pyIter
  refine wpAny_bind (wpAny_bind (I.type.here ((looks_findIn B.KB (k_s_iter _)).here ?_)))
  refine wpAny_bind (ifBound_b B I (k_s_iter _) slot_list_iter (tags_iter B g ?_))
  refine wpAny_bind (wpAny_specialOf (T := "list_iterator") ⟨_, Heap.get?_push_size _ rfl, rfl⟩ slot_listiter_next.lookup (wpAny_pure h))
theorem iter_tags {e : Expr} {y : Str} {px : Pos} {ds : List D} (hh : A.handled = none) (h : Ev w A env σ e (.tags ds)) : Iter w A env σ (.Name y px) e ds := fun s H => by
  refine wpAny_noE (h s H) fun v s₁ q => ?_
  obtain ⟨e1, a, vs, n, dx, m, rfl, g, gd, hv⟩ := q
  refine pyIter_tags (H.base.ext e1) g gd ?_
  obtain ⟨S, St, Fin, h1, h2, h3, h4⟩ := iter_at (x := y) (px := px) hh (H.base.ext e1) g rfl (by simp) hv H.base e1
  exact ⟨_, S, St, Fin, rfl, h1, h2, h3, h4⟩
end
end Mine
end
section
open PySem PySem.W PyProof.Rows PySem.Builtin
set_option Elab.async false
set_option maxRecDepth 100000
namespace Mine
theorem k_made (P : Params) : peek (KB P) ⟨prg, P⟩ (Bind.madeBy (.ref cTags)) = some (some "list.__new__") := by kernel_rfl
theorem k_base (P : Params) : peek (KB P) ⟨prg, P⟩ (Bind.staticBase (.ref cTags)) = some (.ref cTags) := by kernel_rfl
theorem k_calls (P : Params) : specialIn (KB P) (.ref cTags) "__call__" = some (some (.builtin "type.__call__")) := by kernel_rfl
theorem k_istype (P : Params) : instIn (KB P) (.ref cTags) (.type "type") = some true := by kernel_rfl
theorem k_check (P : Params) : peek (KB P) ⟨prg, P⟩ (checkBuiltinCall "list.__new__" ⟨[.ref cTags], []⟩) = some () := by kernel_rfl
theorem k_check1 (P : Params) (v : Value) : peek (KB P) ⟨prg, P⟩ (checkBuiltinCall "list.__new__" ⟨[.ref cTags, v], []⟩) = some () := by kernel_rfl

theorem k_isType (P : Params) : peek (KB P) ⟨prg, P⟩ (isType (.ref cTags)) = some true := by kernel_rfl
theorem k_sub_self (P : Params) : subIn (KB P) (.ref cTags) (.ref cTags) = some true := by kernel_rfl
theorem k_init (P : Params) : findIn (KB P) (.ref cTags) "__init__" = some (some (.builtin "list.__init__")) := by kernel_rfl
theorem k_mro_ne (P : Params) : (clsIn (KB P) cTags).map (fun cd => cd.mro.isEmpty || cd.hasDel) = some false := by kernel_rfl

theorem cls_at {K : Frag} {h : Heap} {C : Addr} {cd : ClassData} (X : K.In h) (e : clsIn K C = some cd) : ∃ oc od sl, h.get? C = some ⟨oc, od, .cls cd, sl⟩ := by
  unfold clsIn at e
  split at e
  · rename_i ho; cases e; exact ⟨_, _, _, X _ _ ho⟩
  · cases e

section
variable {w : World} {A : Around} {s : Shared} {R : Result → Shared → Prop} {E : Value → Shared → Prop}

theorem new_tags {rest : List Value} (B : Base w s) (hr : rest = [] ∨ ∃ v, rest = [v])
    (h : R (.ok (.ret (.ref (s.heap.objs.size + 1)))) { s with heap := (s.heap.push emptyDict).push (tagsO [] 0 s.heap.objs.size) }) :
    codeAny (md w) A (.call (.builtin "list.__new__") ⟨.ref cTags :: rest, []⟩) R s := by
  have ck : Looks (md w) s.heap (checkBuiltinCall "list.__new__" ⟨.ref cTags :: rest, []⟩) () := by
    rcases hr with rfl | ⟨v, rfl⟩
    · exact Looks.of_peek B.KB (k_check _)
    · exact Looks.of_peek B.KB (k_check1 _ v)
  refine codeAny_of_tree ?_
  show wpAny _ A.in1 (do checkBuiltinCall "list.__new__" ⟨.ref cTags :: rest, []⟩; again (.builtin "list.__new__" ⟨.ref cTags :: rest, []⟩)) _ _ s
  refine wpAny_bind (ck.here (wpAny_pure ⟨plainId_quiet PySem.F.plain_list_new _, codeAny_builtin_stack PySem.F.entry_list_new rfl fun p st => ?_⟩))
  rw [Around.under_plainId PySem.F.plain_list_new _]
  have hown := owner_list_new
  have l1 : Looks (md w) s.heap (isType (.ref cTags)) true := Looks.of_peek B.KB (k_isType _)
  have l2 : Looks (md w) s.heap (isSubtype (.ref cTags) (.type "list")) true := looks_subIn B.KB (k_tags_sub _)
  simp only [hown]
  obtain ⟨hh, g, d, tk, os⟩ := s
  dsimp only at l1 l2 h ⊢
  obtain ⟨cd, hcd, hdel⟩ : ∃ cd, clsIn (KB w.params) cTags = some cd ∧ cd.hasDel = false := by
    have := k_mro_ne w.params
    cases q : clsIn (KB w.params) cTags with
    | none => rw [q] at this; cases this
    | some cd =>
      rw [q] at this
      simp only [Option.map_some, Option.some.injEq, Bool.or_eq_false_iff] at this
      exact ⟨cd, rfl, this.2⟩
  obtain ⟨oc, od, sl, hC⟩ := cls_at B.KB hcd
  repeat lk
  refine nd_load (Heap.get?_push_of_some _ (Heap.get?_push_of_some _ hC)) ?_
  refine wpAny_pure ?_
  dsimp only
  rw [hdel]
  repeat lk
  rw [Heap.size_push]
  exact h

theorem make_tags {rest : List Value} {Q : Value → Shared → Prop} (B : Base w s) (hr : rest = [] ∨ ∃ v, rest = [v])
    (hi : ∀ A', A'.handled = A.handled → codeAny (md w) A' (.call (.builtin "list.__init__") ⟨.ref (s.heap.objs.size + 1) :: rest, []⟩) (fun r s' => match r with | .ok (.ret v) => v = .none ∧ Q (.ref (s.heap.objs.size + 1)) s' | .ok _ => False | .error e => E e s') { s with heap := (s.heap.push emptyDict).push (tagsO [] 0 s.heap.objs.size) }) :
    wpAny (md w) A (call (.ref cTags) rest) Q E s := by
  obtain ⟨cd, hcd, hne⟩ : ∃ cd, clsIn (KB w.params) cTags = some cd ∧ cd.mro.isEmpty = false := by
    have := k_mro_ne w.params
    cases q : clsIn (KB w.params) cTags with
    | none => rw [q] at this; cases this
    | some cd =>
      rw [q] at this
      simp only [Option.map_some, Option.some.injEq, Bool.or_eq_false_iff] at this
      exact ⟨cd, rfl, this.1⟩
  obtain ⟨oc, od, sl, hC⟩ := cls_at B.KB hcd
  have made : Looks (md w) s.heap (Bind.madeBy (.ref cTags)) (some "list.__new__") := Looks.of_peek B.KB (k_made _)
  have cl : Looks (md w) s.heap (specialOf (.ref cTags) "__call__") (some (.builtin "type.__call__")) := looks_specialIn B.KB (k_calls _)
  have typ : Looks (md w) s.heap (isInstance (.ref cTags) (.type "type")) true := looks_instIn B.KB (k_istype _)
  have hm : Looks (md w) s.heap (mroOf (.ref cTags)) cd.mro := (looks_clsIn B.KB hcd).andThen .now
  have newt := fun (A' : Around) (R : Result → Shared → Prop) => new_tags (A := A') (R := R) B hr
  have self : Looks (md w) s.heap (isSubtype (.ref cTags) (.ref cTags)) true := looks_subIn B.KB (k_sub_self _)
  have fi : Looks (md w) s.heap (typeLookup (.ref cTags) "__init__") (some (.builtin "list.__init__")) := looks_findIn B.KB (k_init _)
  obtain ⟨h, g, d, tk, os⟩ := s
  dsimp only at made cl typ hm hC self fi newt hi
  refine wpAny_call (codeAny_of_tree ?_)
  show wpAny _ _ (callAny (.ref cTags) _) _ _ _
  refine nd_load hC ?_
  show wpAny _ _ (callAny.viaDunder (.ref cTags) _) _ _ _
  unfold callAny.viaDunder
  refine wpAny_bind (cl.at ?_)
  dsimp only
  rw [tc_bind]
  refine wpAny_bind (wpAny_pure (wpAny_bind (wpAny_pure ?_)))
  refine wpAny_pure (a := Fin.again (.call (.builtin "type.__call__") ⟨.ref cTags :: rest, []⟩)) (And.intro rfl ?_)
  refine codeAny_call_builtin_at (Code.quiet_builtin _ (by decide +kernel)) entry_typeCall (check_slot tc_kind tc_split typ (tc_args _ _ _) ?_)
  unfold Builtin.«type.__call__»
  repeat (first | simp only [hne, Bool.false_eq_true, if_false] | with_reducible refine wpAny_call ?_ | lk)
  refine newt _ _ ?_
  have k : ∀ b o, h.get? b = some o → ((h.push emptyDict).push (tagsO [] 0 h.objs.size)).get? b = some o := fun b o e => Heap.get?_push_of_some _ (Heap.get?_push_of_some _ e)
  have hs : (h.push emptyDict).objs.size = h.objs.size + 1 := Heap.size_push ..
  have hx : ((h.push emptyDict).push (tagsO [] 0 h.objs.size)).get? (h.objs.size + 1) = some (tagsO [] 0 h.objs.size) := by rw [← hs]; exact Heap.get?_push_size _ rfl
  have t1 : Looks (md w) ((h.push emptyDict).push (tagsO [] 0 h.objs.size)) (typeOf (.ref (h.objs.size + 1))) (.ref cTags) := (Looks.ld hx).andThen .now
  have s1 := self.keeps k
  have i1 := fi.keeps k
  have b1 : bindSpecial (.builtin "list.__init__") (.ref (h.objs.size + 1)) = pure (.builtin "list.__init__", [.ref (h.objs.size + 1)]) := PySem.F.slot_list_init.bind _
  dsimp only
  unfold isInstance callSpecial? specialOf
  refine wpAny_bind (wpAny_bind (t1.here (s1.here ?_)))
  rw [if_neg (by decide)]
  refine wpAny_bind (wpAny_holding (wpAny_bind (wpAny_bind (t1.here (i1.here (wpAny_holding ?_))))))
  rw [b1]
  refine wpAny_bind (wpAny_pure (wpAny_bind (wpAny_call (codeAny_mono (hi _ rfl) fun r s' z => ?_))))
  rcases r with e | (v | _ | _ | _) <;> first | exact z | exact z.elim | skip
  obtain ⟨rfl, z⟩ := z
  exact wpAny_pure (wpAny_pure z)

theorem code_slot {a dx n : Nat} {vs : List Value} {id nm : String} {b : Builtin} {rest : List Value} {Q : Value → Shared → Prop} (B : Base w s) (g : s.heap.get? a = some (tagsO vs n dx)) (hp : plainId id = true) (hb : entryFor table id = some b) (hk : builtinKind id = some .slot) (hs : splitId id = some ("list", nm)) (ha : argsOk id ⟨.ref a :: rest, []⟩)
    (hc : wpAny (md w) A.in1 (b ⟨.ref a :: rest, []⟩) (fun fin s' => ∃ v, fin = .done (.ret v) ∧ Q v s') noE s) : codeAny (md w) A (.call (.builtin id) ⟨.ref a :: rest, []⟩) (fun r s' => ∃ v, r = .ok (.ret v) ∧ Q v s') s :=
  codeAny_call_builtin hp hb (check_slot hk hs (tags_inst B g) ha (wpAny_mono hc (fun fin s' h => by obtain ⟨v, rfl, q⟩ := h; exact ⟨v, rfl, q⟩) fun _ _ e => e.elim))
theorem init_tags0 {a dx : Addr} {Q : Value → Shared → Prop} (B : Base w s) (g : s.heap.get? a = some (tagsO [] 0 dx))
    (h : ∀ h' n', h'.get? a = some (tagsO [] n' dx) → Heap.SameBut a s.heap h' → Q .none { s with heap := h' }) : codeAny (md w) A (.call (.builtin "list.__init__") ⟨[.ref a], []⟩) (fun r s' => ∃ v, r = .ok (.ret v) ∧ Q v s') s := by
  refine code_slot (nm := "__init__") B g PySem.F.slot_list_init.plain PySem.F.entry_list_init (by decide +kernel) (by decide +kernel) (PySem.F.args_list_init_1 _) ?_
  obtain ⟨hp, gg, d, tk, os⟩ := s
  have hl : Heap.get? (Shared.heap ⟨hp, gg, d, tk, os⟩) a = some (tagsO [] 0 dx) := g
  wp_walk using (wpAny_updateSeq hl rfl), AutoSeq1.wpAny_loadPart' hl
  obtain ⟨n', e⟩ := tags_upd (f := fun _ => #[]) (ws := []) hl (by simp)
  exact ⟨_, rfl, h _ n' e (Heap.SameBut.update ..)⟩

theorem init_tags1 {a dx b : Addr} {ws : List Value} {k : Nat} {Q : Value → Shared → Prop} (B : Base w s) (g : s.heap.get? a = some (tagsO [] 0 dx)) (gb : s.heap.get? b = some (listO ws k)) (hz : ws.length ≤ 1000)
    (h : ∀ h' n', h'.get? a = some (tagsO ws n' dx) → Heap.SameBut a s.heap h' → Q .none { s with heap := h' }) : codeAny (md w) A (.call (.builtin "list.__init__") ⟨[.ref a, .ref b], []⟩) (fun r s' => ∃ v, r = .ok (.ret v) ∧ Q v s') s := by
  refine code_slot (nm := "__init__") B g PySem.F.slot_list_init.plain PySem.F.entry_list_init (by decide +kernel) (by decide +kernel) (PySem.F.args_list_init_2 _ _) ?_
  obtain ⟨hp, gg, d, tk, os⟩ := s
  have hl : Heap.get? (Shared.heap ⟨hp, gg, d, tk, os⟩) a = some (tagsO [] 0 dx) := g
  have hb : Heap.get? (Shared.heap ⟨hp, gg, d, tk, os⟩) b = some (listO ws k) := gb
  have hne : b ≠ a := fun e => by rw [e, hl] at hb; cases hb
  obtain ⟨n1, e1⟩ := tags_upd (f := fun _ => #[]) (ws := []) hl (by simp)
  have sb := Heap.SameBut.update hp a (Obj.mapSeq fun _ => #[])
  have hb1 := (sb.2 b hne).trans hb
  wp_walk using (wpAny_updateSeq hl rfl), AutoSeq1.wpAny_loadPart' hl
  obtain ⟨n2, e2⟩ := mapSeq_tags (fun x => x ++ ws.toArray) [] n1 dx
  have e3 : Obj.mapSeq (fun x => x ++ ws.toArray) (tagsO [] n1 dx) = tagsO ws n2 dx := by rw [e2]; simp
  rw [e3]
  have e4 : (tagsO ws n2 dx).data.pastItsLine = none := pastItsLine_seq (by show ws.toArray.size ≤ 16777216 + 1; simp; omega)
  rw [e4]
  have sb2 := Heap.SameBut.update (hp.update a (Obj.mapSeq fun _ => #[])) a (Obj.mapSeq fun x => x ++ ws.toArray)
  refine wpAny_pure (wpAny_pure ⟨_, rfl, h _ n2 ?_ (sb.trans sb2)⟩)
  rw [← e3]
  exact Heap.get?_update_self _ e1 (by rw [e3]; rfl)

/-- a row of tags made of a list -/
theorem make_tags_list {ds : List D} {v : Value} (B : Base w s) (hv : Val s.heap (.list ds) v) (hz : ds.length ≤ 1000) (hfl : ∀ d ∈ ds, flat d = true) :
    wpAny (md w) A (call (.ref cTags) [v]) (fun u s' => Ok s (.tags ds) u s' ∧ ∃ a, u = .ref a ∧ New s a) noE s := by
  obtain ⟨b, ws, k, rfl, gb, hvs⟩ := hv
  have hl := hvs.length
  refine make_tags B (.inr ⟨_, rfl⟩) fun A' hA => ?_
  have hs : (s.heap.push emptyDict).objs.size = s.heap.objs.size + 1 := Heap.size_push ..
  have e1 : Ext [] s { s with heap := (s.heap.push emptyDict).push (tagsO [] 0 s.heap.objs.size) } := Ext.grow (t := s.toks) fun b o e => Heap.get?_push_of_some _ (Heap.get?_push_of_some _ e)
  have B1 := B.ext e1
  have hx : ((s.heap.push emptyDict).push (tagsO [] 0 s.heap.objs.size)).get? (s.heap.objs.size + 1) = some (tagsO [] 0 s.heap.objs.size) := by rw [← hs]; exact Heap.get?_push_size _ rfl
  have gd : ((s.heap.push emptyDict).push (tagsO [] 0 s.heap.objs.size)).get? s.heap.objs.size = some (dictO 0) := Heap.get?_push_of_some _ (Heap.get?_push_size _ rfl)
  have hn : nTop ≤ s.heap.objs.size + 1 := Nat.le_succ_of_le B.big
  let s₁ : Shared := { s with heap := (s.heap.push emptyDict).push (tagsO [] 0 s.heap.objs.size) }
  refine codeAny_mono (init_tags1 (A := A') (s := s₁) (Q := fun v s' => v = .none ∧ (Ok s (.tags ds) (.ref (s.heap.objs.size + 1)) s' ∧ ∃ a, Value.ref (s.heap.objs.size + 1) = .ref a ∧ New s a)) B1 hx (e1.at0 B gb (by simp)) (by omega) fun h' n' g' sb => ?_) fun r s' q => ?_
  · have e2 : Ext [s.heap.objs.size + 1] s₁ { s with heap := h', toks := s.toks } := Ext.set (s := s₁) hn hx rfl sb
    have e12 : Ext [] s { s with heap := h', toks := s.toks } := ((e1.wk0 e2.own).trans e2).drop (fun i hi => .inr (gone (by rw [List.mem_singleton.mp hi]; exact Nat.le_succ _))) (by simp)
    refine ⟨rfl, ⟨e12, _, ws, n', _, 0, rfl, g', (sb.2 _ (Nat.ne_of_lt (Nat.lt_succ_self _))).trans gd, e2.vals B1 (fun a ha o g => ?_) (e1.vals0 B hvs)⟩, _, rfl, gone (Nat.le_succ _), hn⟩
    have g2 : s₁.heap.get? (s.heap.objs.size + 1) = some o := by rw [← List.mem_singleton.mp ha]; exact g
    rw [hx] at g2; cases g2
    exact Soft.apartL (.inr (.inr (.inl rfl))) hfl
  · obtain ⟨v, rfl, q⟩ := q; exact q
theorem make_tags_none (B : Base w s) : wpAny (md w) A (call (.ref cTags) []) (fun u s' => Ok s (.tags []) u s' ∧ ∃ a, u = .ref a ∧ New s a) noE s := by
  refine make_tags B (.inl rfl) fun A' hA => ?_
  have hs : (s.heap.push emptyDict).objs.size = s.heap.objs.size + 1 := Heap.size_push ..
  have e1 : Ext [] s { s with heap := (s.heap.push emptyDict).push (tagsO [] 0 s.heap.objs.size) } := Ext.grow (t := s.toks) fun b o e => Heap.get?_push_of_some _ (Heap.get?_push_of_some _ e)
  have B1 := B.ext e1
  have hx : ((s.heap.push emptyDict).push (tagsO [] 0 s.heap.objs.size)).get? (s.heap.objs.size + 1) = some (tagsO [] 0 s.heap.objs.size) := by rw [← hs]; exact Heap.get?_push_size _ rfl
  have gd : ((s.heap.push emptyDict).push (tagsO [] 0 s.heap.objs.size)).get? s.heap.objs.size = some (dictO 0) := Heap.get?_push_of_some _ (Heap.get?_push_size _ rfl)
  have hn : nTop ≤ s.heap.objs.size + 1 := Nat.le_succ_of_le B.big
  let s₁ : Shared := { s with heap := (s.heap.push emptyDict).push (tagsO [] 0 s.heap.objs.size) }
  refine codeAny_mono (init_tags0 (A := A') (s := s₁) (Q := fun v s' => v = .none ∧ (Ok s (.tags []) (.ref (s.heap.objs.size + 1)) s' ∧ ∃ a, Value.ref (s.heap.objs.size + 1) = .ref a ∧ New s a)) B1 hx fun h' n' g' sb => ?_) fun r s' q => ?_
  · have e2 : Ext [s.heap.objs.size + 1] s₁ { s with heap := h', toks := s.toks } := Ext.set (s := s₁) hn hx rfl sb
    have e12 : Ext [] s { s with heap := h', toks := s.toks } := ((e1.wk0 e2.own).trans e2).drop (fun i hi => .inr (gone (by rw [List.mem_singleton.mp hi]; exact Nat.le_succ _))) (by simp)
    exact ⟨rfl, ⟨e12, _, [], n', _, 0, rfl, g', (sb.2 _ (Nat.ne_of_lt (Nat.lt_succ_self _))).trans gd, rfl⟩, _, rfl, gone (Nat.le_succ _), hn⟩
  · obtain ⟨v, rfl, q⟩ := q; exact q

variable {env : Env} {σ : List (Str × D)}
/-- Tags(e) -/
theorem evF_tags {px pos : Pos} {e : Expr} {ds : List D} (hx : env.kindOf "Tags" = some .globalImplicit) (h1 : Ev w A env σ e (.list ds)) (hz : ds.length ≤ 1000) (hfl : ∀ d ∈ ds, flat d = true) (hst : noStar [e] = true := by rfl) :
    EvF w A env σ (.Call (.Name "Tags" px) [e] [] pos) (.tags ds) := fun s H =>
  callName (gl_main hx (k_g_tags _)) (callee_K (k_keep_tags _)) (ds := [.list ds]) ⟨_, _, rfl, h1, rfl⟩ H (fun vs s' e H' hv => by
    obtain ⟨v1, r1, rfl, a1, hr⟩ := hv
    rw [show r1 = [] from hr]
    exact wpAny_noE (make_tags_list H'.base a1 hz hfl) fun v s'' z => ⟨⟨e.trans z.1.1, z.1.2⟩, let ⟨a, p, q⟩ := z.2; ⟨a, p, H.base.newer e q⟩⟩) hst
theorem evF_tags0 {px pos : Pos} (hx : env.kindOf "Tags" = some .globalImplicit) : EvF w A env σ (.Call (.Name "Tags" px) [] [] pos) (.tags []) := fun s H =>
  callName (gl_main hx (k_g_tags _)) (callee_K (k_keep_tags _)) (ds := []) rfl H (fun vs s' e H' hv => by
    rw [show vs = [] from hv]
    exact wpAny_noE (make_tags_none H'.base) fun v s'' z => ⟨⟨e.trans z.1.1, z.1.2⟩, let ⟨a, p, q⟩ := z.2; ⟨a, p, H.base.newer e q⟩⟩)
end
end Mine
end
section
open PySem PySem.W PyProof.Rows PySem.Builtin
set_option Elab.async false
set_option maxRecDepth 100000
namespace Mine

section
variable {prog : Program} {w : World} {A : Around} {s : Shared} {E : Value → Shared → Prop} {a : Addr} {f : Bool} {es : Array (Int × Value)} {ep : Nat} {t : SetTable} {ns : List Int}

abbrev kI (prog : Program) (w : World) : KeyKind prog w Int := intKind prog w
theorem GoodSet.elems (g : GoodSet es t ns) : ElemsOf (kI prog w) es.toList := fun e he => ⟨let ⟨k, h1, h2⟩ := (g.1 e he).1; ⟨k, h1, h2⟩, (g.1 e he).2⟩

/-- one of the ints is sought -/
theorem find_good {k : Int} {u : PySem.Tok} {Q : Option Nat → Shared → Prop} (ho : s.heap.get? a = some (setO f es ep t)) (g : GoodSet es t ns) (h : ∀ r : Option Nat, r.isSome = ns.any (· == k) → Q r s) :
    wpAny (model prog w) A (setFind a (.int k u) (hashInt k)) Q E s := by
  have hel := g.elems (prog := prog) (w := w)
  have hb : es.size < scanBound := by have := g.2.2.1; unfold scanBound; omega
  unfold setFind setFindIn
  refine wpAny_bind (wpAny_setState_of ho rfl g.2.2.2 ?_)
  dsimp only
  rw [byScan_of (knd := kI prog w) rfl hb hel]
  simp only [↓reduceIte]
  refine wpAny_bind (wpAny_rule ?_)
  refine wpAny_bind (wpAny_setScan_of (knd := kI prog w) (k := k) (intKind_is _ _ _ _) ho rfl g.2.2.2 hel ?_)
  have hk := g.2.1 k
  cases hr : List.findIdx? (fun e => (kI prog w).is k e.2) es.toList with
  | none =>
    dsimp only
    refine wpAny_pure (h none ?_)
    rw [Option.isSome_none, eq_comm, ← Bool.not_eq_true, hk]
    rintro ⟨e, he, hpe⟩
    have := List.findIdx?_eq_none_iff.mp hr e he
    rw [show (kI prog w).is k e.2 = true from hpe] at this; cases this
  | some j =>
    dsimp only
    refine wpAny_pure (h (some (0 + j)) ?_)
    rw [Option.isSome_some, eq_comm, hk]
    obtain ⟨hj, hpj, _⟩ := List.findIdx?_eq_some_iff_getElem.mp hr
    exact ⟨es.toList[j], List.getElem_mem hj, hpj⟩

theorem good_upd {es' : Array (Int × Value)} {t' : SetTable} {h : Heap} (ho : h.get? a = some (setO f es ep t)) : (h.update a (Obj.putSet es' t')).get? a = some (setO f es' (ep + 1) t') := by
  have e := putSet_of (o := setO f es ep t) es' t' rfl
  have := Heap.get?_update_self (Obj.putSet es' t') ho (by rw [e]; rfl)
  rw [e] at this; exact this

theorem add_good {k : Int} {u : PySem.Tok} {Q : Bool → Shared → Prop} (ho : s.heap.get? a = some (setO f es ep t)) (g : GoodSet es t ns) (hroom : es.size < 90)
    (h : ∀ h' es' ep' t', Heap.SameBut a s.heap h' → h'.get? a = some (setO f es' ep' t') → GoodSet es' t' (ns ++ [k]) → es'.size ≤ es.size + 1 → ∀ b, Q b { s with heap := h' }) :
    wpAny (model prog w) A (setAddHashed a (.int k u) (hashInt k)) Q E s := by
  have hel := g.elems (prog := prog) (w := w)
  have hb : es.size < scanBound := by unfold scanBound; omega
  have key : (kI prog w).is k (.int k u) = true := intKind_is _ _ _ _
  unfold setAddHashed setAddHashedIn
  refine wpAny_holding (wpAny_bind (wpAny_setState_of ho rfl g.2.2.2 ?_))
  dsimp only
  rw [byScan_of (knd := kI prog w) rfl hb hel]
  simp only [↓reduceIte]
  unfold setAddByScan
  refine wpAny_bind ?_
  refine wpAny_bind (wpAny_rule ?_)
  refine wpAny_bind (wpAny_setScan_of (knd := kI prog w) (k := k) key ho rfl g.2.2.2 hel ?_)
  have grow : ∀ {es' : Array (Int × Value)} {t' : SetTable}, List.Perm es'.toList (es.toList ++ [(hashInt k, .int k u)]) → t'.fits es'.size = true → GoodSet es' t' (ns ++ [k]) ∧ es'.size ≤ es.size + 1 := fun {es' t'} p hf => by
    have hsz : es'.size = es.size + 1 := by rw [← Array.length_toList, p.length_eq, List.length_append, Array.length_toList]; rfl
    refine ⟨⟨fun e he => ?_, fun k' => ?_, by omega, hf⟩, by omega⟩
    · rcases List.mem_append.mp (p.mem_iff.mp he) with q | q
      · exact g.1 e q
      · rw [List.mem_singleton.mp q]; exact ⟨⟨k, intKind_is prog w k u, rfl⟩, rfl⟩
    · rw [List.any_append, Bool.or_eq_true, g.2.1 k']
      constructor
      · rintro (⟨e, he, hp⟩ | q)
        · exact ⟨e, p.mem_iff.mpr (List.mem_append_left _ he), hp⟩
        · have e1 : k = k' := by simpa using q
          subst e1
          exact ⟨_, p.mem_iff.mpr (List.mem_append_right _ (List.mem_singleton.mpr rfl)), intKind_is prog w k u⟩
      · rintro ⟨e, he, hp⟩
        rcases List.mem_append.mp (p.mem_iff.mp he) with q | q
        · exact .inl ⟨e, q, hp⟩
        · rw [List.mem_singleton.mp q] at hp
          obtain ⟨t0, e0⟩ := Value.isInt_shape hp
          cases e0
          exact .inr (by simp)
  cases hr : List.findIdx? (fun e => (kI prog w).is k e.2) es.toList with
  | some j =>
    dsimp only
    obtain ⟨hj, hpj, _⟩ := List.findIdx?_eq_some_iff_getElem.mp hr
    refine wpAny_pure (wpAny_pure ?_)
    refine h s.heap es ep t (Heap.SameBut.refl a s.heap) ho ⟨g.1, fun k' => ?_, g.2.2⟩ (Nat.le_succ _) _
    rw [List.any_append, Bool.or_eq_true, g.2.1 k']
    constructor
    · rintro (q | q)
      · exact q
      · have e1 : k = k' := by simpa using q
        subst e1
        exact ⟨es.toList[j], List.getElem_mem hj, hpj⟩
    · exact .inl
  | none =>
    dsimp only
    have hgw : ∀ (b : Bool) {s₁ : Shared} {Q' : Unit → Shared → Prop}, Q' () s₁ → wpAny (model prog w) A (match b with | true => rule "set.scan.the-table-gave-way" | false => pure ()) Q' E s₁ :=
      fun b s₁ Q' hq => by cases b <;> first | exact wpAny_pure hq | exact wpAny_rule hq
    have hperm := layNew_perm t es (hashInt k) (.int k u)
    have hfits := layNew_fits t es (hashInt k) (.int k u)
    have hsize : ∀ {es' : Array (Int × Value)}, List.Perm es'.toList (es.toList ++ [(hashInt k, .int k u)]) → es'.size ≤ sizeLine := fun p => by
      have hsz := p.length_eq
      rw [Array.length_toList, List.length_append, Array.length_toList] at hsz
      rw [sizeLine_eq, hsz]; simp only [List.length_singleton]; omega
    show wpAny (model prog w) A _ _ E s
    generalize hL : layNew t es (hashInt k) (.int k u) = L at hperm hfits
    have hL2 : layNew t es ((kI prog w).hash k) (.int k u) = L := hL
    obtain ⟨es1, t1, wasDummy, gave⟩ := L
    simp only [hL]
    dsimp only at hperm hfits ⊢
    rw [Array.toList_push] at hperm
    refine wpAny_bind (hgw _ ?_)
    have tail : ∀ {g' : Bool → Sem Unit} {t2 : SetTable} {R : Option Bool → Shared → Prop}, (∀ (b : Bool) (s₁ : Shared) (Q' : Unit → Shared → Prop), Q' () s₁ → wpAny (model prog w) A (g' b) Q' E s₁) → t2.fits es1.size = true → (∀ h' es' ep' t', Heap.SameBut a s.heap h' → h'.get? a = some (setO f es' ep' t') → GoodSet es' t' (ns ++ [k]) → es'.size ≤ es.size + 1 → R (some true) { s with heap := h' }) →
        wpAny (model prog w) A (do
          storeSet a es1 t2
          if (!wasDummy && t2.tooFull) = true then do
              g' (relayAll t2 es1 (SetTable.grown es1.size)).2.2
              storeSet a (relayAll t2 es1 (SetTable.grown es1.size)).1 (relayAll t2 es1 (SetTable.grown es1.size)).2.1
              pure (some true)
            else pure (some true)) R E s := fun {g' t2 R} hg hf2 hR => by
      refine wpAny_bind (wpAny_storeSet_of ho rfl ?_ (hsize hperm))
      have sb1 := Heap.SameBut.update s.heap a (Obj.putSet es1 t2)
      have o1 := good_upd (es' := es1) (t' := t2) ho
      split
      · have hp := relayAll_perm t2 es1 (SetTable.grown es1.size)
        have hfr := relayAll_fits t2 es1 (SetTable.grown es1.size)
        generalize relayAll t2 es1 (SetTable.grown es1.size) = Rl at hp hfr ⊢
        obtain ⟨es2, t3, gave2⟩ := Rl
        dsimp only at hp hfr ⊢
        have p2 := hp.trans hperm
        obtain ⟨g2, z2⟩ := grow p2 hfr
        refine wpAny_bind (hg _ _ _ ?_)
        refine wpAny_bind (wpAny_storeSet_of o1 rfl ?_ (hsize p2))
        exact wpAny_pure (hR _ es2 _ t3 (sb1.trans (Heap.SameBut.update _ a _)) (good_upd o1) g2 z2)
      · obtain ⟨g2, z2⟩ := grow hperm hf2
        exact wpAny_pure (hR _ es1 _ t2 sb1 o1 g2 z2)
    split
    · refine wpAny_bind ?_
      rw [hashByValue_scannable 8 (show (Value.int k u).scannable = true from rfl)]
      refine wpAny_pure ?_
      refine tail ?_ ?_ fun h' es' ep' t' a1 a2 a3 a4 => ?_
      · intro b s₁ Q' hq; cases b <;> first | exact wpAny_pure hq | exact wpAny_rule hq
      · split
        · exact hfits
        · exact SetTable.fits_plain_off hfits
      · dsimp only; exact wpAny_pure (h h' es' ep' t' a1 a2 a3 a4 _)
    · refine wpAny_bind (wpAny_pure ?_)
      simp only [↓reduceIte]
      refine tail ?_ hfits fun h' es' ep' t' a1 a2 a3 a4 => ?_
      · intro b s₁ Q' hq; cases b <;> first | exact wpAny_pure hq | exact wpAny_rule hq
      · dsimp only; exact wpAny_pure (h h' es' ep' t' a1 a2 a3 a4 _)
end
end Mine
end
section
open PySem PySem.W PyProof.Rows PySem.Builtin
set_option Elab.async false
set_option maxRecDepth 100000
namespace Mine
theorem slot_fz : Slot "frozenset" "__contains__" "frozenset.__contains__" :=
  Slot.of (T := "frozenset") (name := "__contains__") (owner := "frozenset") (n := "__contains__") (by rw [typeLookup_type, builtinLookup_eq_fast]; kernel_rfl) (by decide +kernel) (by decide +kernel) (by decide +kernel)
    (.inr (by decide +kernel)) (by rw [isSubtype_type]; kernel_rfl)
theorem entry_fz : entryFor table "frozenset.__contains__" = some Builtin.«frozenset.__contains__» := entryFor_of_tree (by kernel_rfl)
theorem args_fz (a b : Value) : argsOk "frozenset.__contains__" ⟨[a, b], []⟩ := by unfold argsOk; kernel_rfl

section
variable {w : World} {A : Around} {env : Env} {σ : List (Str × D)} {s : Shared} {E : Value → Shared → Prop} {a : Addr} {f : Bool} {es : Array (Int × Value)} {ep : Nat} {t : SetTable} {ns : List Int}

theorem contains_body {k : Int} {u : PySem.Tok} {Q : Bool → Shared → Prop} (ho : s.heap.get? a = some (setO f es ep t)) (g : GoodSet es t ns) (h : Q (ns.any (· == k)) { s with toks := s.toks + 1 }) :
    wpAny (md w) A (Builtin.«frozenset.__contains__» ⟨[.ref a, .int k u], []⟩) (fun fin s' => ∃ v, fin = .done (.ret v) ∧ wpAny (md w) A (truthy v) Q E s') E s := by
  unfold Builtin.«frozenset.__contains__» Builtin.Frozenset.oneOther
  simp only [List.isEmpty_nil, bind_assoc]
  unfold Builtin.Frozenset.addrOf Builtin.Frozenset.withSetAsKey setContains
  refine wpAny_bind (wpAny_pure ?_)
  try dsimp only
  refine wpAny_bind (wpAny_pure ?_)
  try dsimp only
  refine wpAny_bind (wpAny_tryCatch ?_)
  refine wpAny_holding ?_
  refine wpAny_bind ((kI prg w).pyHash (k := k) (intKind_is _ _ _ _) ?_)
  refine wpAny_bind (find_good (s := { s with toks := s.toks + 1 }) ho g fun r hr => ?_)
  refine wpAny_pure ?_
  show wpAny _ _ (ret (Value.bool r.isSome)) _ _ _
  rw [hr]
  exact wpAny_pure ⟨_, rfl, wpAny_truthy_bool h⟩

theorem contains_set {k : Int} {u : PySem.Tok} {Q : Bool → Shared → Prop} (ho : s.heap.get? a = some (setO f es ep t)) (g : GoodSet es t ns) (h : Q (ns.any (· == k)) { s with toks := s.toks + 1 }) :
    wpAny (md w) A (contains (.ref a) (.int k u)) Q E s := by
  cases f with
  | false =>
    have hT : s.TypeIs (.ref a) "set" := ⟨_, ho, rfl⟩
    unfold contains
    try with_reducible refine wpAny_holding ?_
    refine wpAny_bind (wpAny_specialOf hT PySem.F.slot_set_contains.lookup ?_)
    show wpAny _ _ (if (some (Value.builtin "set.__contains__") == some Value.none) = true then _ else _) _ E s
    rw [if_neg (by rw [beq_builtin_none]; exact Bool.false_ne_true)]
    refine wpAny_bind (wpAny_callSpecialUnlessNone?_slot (name := Str.ofString "__contains__") hT PySem.F.slot_set_contains
      (wpAny_call_entry PySem.F.slot_set_contains hT entry_set_contains ?_ (PySem.F.args_set_contains_2 _ _)))
    exact wpAny_mono (contains_body (A := A.in1) ho g (Q := Q) h) (fun fin s' q => by obtain ⟨v, rfl, z⟩ := q; exact ⟨v, rfl, wpAny_of_in1 z⟩) fun _ _ e => e
  | true =>
    have hT : s.TypeIs (.ref a) "frozenset" := ⟨_, ho, rfl⟩
    unfold contains
    try with_reducible refine wpAny_holding ?_
    refine wpAny_bind (wpAny_specialOf hT slot_fz.lookup ?_)
    show wpAny _ _ (if (some (Value.builtin "frozenset.__contains__") == some Value.none) = true then _ else _) _ E s
    rw [if_neg (by rw [beq_builtin_none]; exact Bool.false_ne_true)]
    refine wpAny_bind (wpAny_callSpecialUnlessNone?_slot (name := Str.ofString "__contains__") hT slot_fz
      (wpAny_call_entry slot_fz hT entry_fz ?_ (args_fz _ _)))
    exact wpAny_mono (contains_body (A := A.in1) ho g (Q := Q) h) (fun fin s' q => by obtain ⟨v, rfl, z⟩ := q; exact ⟨v, rfl, wpAny_of_in1 z⟩) fun _ _ e => e

theorem cmp_in_set {k : Int} : Cmp w A .In (.int k) (.set f ns) (ns.any (· == k)) := by
  rintro _ _ s _ ⟨u, rfl⟩ ⟨a, es, ep, t, rfl, ho, g⟩
  exact wpAny_bind (contains_set ho g (wpAny_pure ⟨rfl, Ext.tok⟩))
theorem cmp_notin_set {k : Int} : Cmp w A .NotIn (.int k) (.set f ns) (!ns.any (· == k)) := by
  rintro _ _ s _ ⟨u, rfl⟩ ⟨a, es, ep, t, rfl, ho, g⟩
  exact wpAny_bind (contains_set ho g (wpAny_pure ⟨rfl, Ext.tok⟩))

theorem ints_are {h : Heap} : ∀ {ns : List Int} {vs : List Value}, Vals h (ns.map .int) vs → IntsAre vs ns
  | [], _, e => by rw [show _ = [] from e]; exact .nil
  | n :: ns, _, ⟨v, r, e, ⟨t, ht⟩, hr⟩ => by subst e; subst ht; exact .cons n t (ints_are hr)
theorem getD_ints : ∀ (ns : List Int), (List.range ns.length).map (fun i => ns.getD i 0) = ns := fun ns => by
  apply List.ext_getElem
  · simp
  · intro i h1 h2
    simp at h1
    simp [h1]

theorem make_set {v : Value} {s : Shared} (hh : A.handled = none) (B : Base w s) (hv : Val s.heap (.list (ns.map .int)) v) (hz : ns.length ≤ 50) : wpAny (md w) A (call (.type "set") [v]) (Ok s (.set false ns)) noE s := by
  obtain ⟨b, vs, n, rfl, g, hvs⟩ := hv
  have hl := hvs.length
  rw [List.length_map] at hl
  refine call_set_list hh ⟨_, g, rfl, n, rfl⟩ (by simpa using ints_are hvs) (by unfold scanBound; simp; omega) fun h' tk hS k => ?_
  have e : Ext [] s { s with heap := h', toks := tk } := Ext.grow fun b o g => k b o (Heap.lt_size g) g
  obtain ⟨o, es, ep, t, ho, ⟨c1, c2, c3⟩, hd, hel, hmem, hb, hf, hn⟩ := hS
  obtain ⟨oc, od, dt, sl⟩ := o
  dsimp only at c1 c2 c3 hd
  subst c1 c2 c3 hd
  refine ⟨e, _, es, ep, t, rfl, ho, fun e he => ⟨let ⟨k, a, b⟩ := (hel e he).1; ⟨k, a, b⟩, (hel e he).2⟩, fun k => ?_, ?_, hf⟩
  · refine Iff.trans ?_ (hmem k)
    show _ ↔ ((firstMet (fun i => ns.getD i 0) vs.toArray.size).any fun x => x == k) = true
    rw [firstMet_any]
    rw [show vs.toArray.size = ns.length by simp [hl], getD_ints]
  · have := firstMet_length_le (fun i => ns.getD i 0) vs.toArray.size
    have h2 : vs.toArray.size = ns.length := by simp [hl]
    omega
end
end Mine
end
section
open PySem PySem.W PyProof.Rows PySem.Builtin
set_option Elab.async false
set_option maxRecDepth 100000
namespace Mine

section
variable {w : World} {A : Around} {s : Shared} {E : Value → Shared → Prop} {R : Result → Shared → Prop} {a I ax : Addr} {f : Bool}

theorem upd_loop {prog : Program} {ns : List Int} {vs : List Value} (hh : A.handled = none) (hv : IntsAre vs ns) (hz : ns.length ≤ 50) (hl : vs.length = ns.length) (haI : a ≠ I) (hax : ax ≠ I) (haa : ax ≠ a) : ∀ (k i : Nat) (s : Shared), ns.length - i = k → i ≤ ns.length → s.heap.IsListIter I ax i → SeqAt s.heap ax vs.toArray →
    (∃ es ep t, s.heap.get? a = some (setO f es ep t) ∧ GoodSet es t (ns.take i) ∧ es.size ≤ i) →
    (∀ h' tk es ep t, h'.get? a = some (setO f es ep t) → GoodSet es t ns → (∀ b o, b ≠ a → b ≠ I → s.heap.get? b = some o → h'.get? b = some o) → R (.ok (.ret .none)) { s with heap := h', toks := tk }) →
    codeAny (model prog w) A (.builtin "set.update.loop" ⟨[.ref a, .ref I], []⟩) R s := by
  intro k
  induction k with
  | zero =>
    intro i s hk hi it sq ⟨es, ep, t, ho, g, hsz⟩ hR
    have hin : i = ns.length := by omega
    subst hin
    rw [List.take_length] at g
    refine codeAny_builtin PyProof.Rows.F.entry_set_update_loop ?_
    rw [Around.under_plainId PyProof.Rows.F.plain_set_update_loop _]
    show wpAny _ A.in1 (pyNext (.ref I) >>= _) _ _ s
    refine wpAny_bind (pyNext_end (A := A.in1) hh it sq (by simp [hl]) fun h' hk => ?_)
    show wpAny _ A.in1 (ret Value.none) _ _ _
    exact wpAny_pure (hR h' s.toks es ep t (hk a _ haI ho) g fun b o _ hb e => hk b o hb e)
  | succ k ih =>
    intro i s hk hi it sq ⟨es, ep, t, ho, g, hsz⟩ hR
    have hlt : i < ns.length := by omega
    have hlv : i < vs.length := by omega
    obtain ⟨u, hu⟩ := IntsAre.int_at hv i vs[i] (by simp [hlv])
    refine codeAny_builtin PyProof.Rows.F.entry_set_update_loop ?_
    rw [Around.under_plainId PyProof.Rows.F.plain_set_update_loop _]
    show wpAny _ A.in1 (pyNext (.ref I) >>= _) _ _ s
    refine wpAny_bind (pyNext_item it sq (x := vs[i]) (by simp [hlv]) fun h₁ it₁ sb₁ => ?_)
    rw [hu]
    have ho1 : h₁.get? a = some (setO f es ep t) := (sb₁.2 a haI).trans ho
    show wpAny _ A.in1 (holding [Value.int (ns.getD i 0) u] (setAdd a (.int (ns.getD i 0) u)) >>= _) _ _ _
    refine wpAny_bind (wpAny_holding ?_)
    unfold setAdd
    refine wpAny_holding ?_
    refine wpAny_bind ((kI prog w).pyHash (k := ns.getD i 0) (intKind_is _ _ _ _) ?_)
    refine add_good (s := { s with heap := h₁, toks := s.toks + 1 }) ho1 g (by omega) fun h₂ es' ep' t' sb₂ ho2 g2 z2 b => ?_
    have e : ns.take i ++ [ns.getD i 0] = ns.take (i + 1) := by rw [List.take_add_one]; simp [hlt]
    rw [e] at g2
    have keep : ∀ b o, b ≠ a → b ≠ I → s.heap.get? b = some o → h₂.get? b = some o := fun b o n1 n2 e => (sb₂.2 b n1).trans ((sb₁.2 b n2).trans e)
    refine wpAny_pure ⟨plainId_quiet PyProof.Rows.F.plain_set_update_loop _, ih (i + 1) _ (by omega) hlt (it₁.at fun o e => (sb₂.2 I haI.symm).trans e) (sq.at fun o e => keep ax o haa hax e) ⟨es', ep', t', ho2, g2, by omega⟩ fun h' tk es ep t a1 a2 a3 => ?_⟩
    exact hR h' tk es ep t a1 a2 fun b o n1 n2 e => a3 b o n1 n2 (keep b o n1 n2 e)

theorem mro_fz : mroOf (.type "frozenset") = pure [.type "frozenset", .type "object"] := by rw [mroOf_type]; kernel_rfl
theorem lookup_fz_new : typeLookup (.type "frozenset") "__new__" = pure (some (.builtin "frozenset.__new__")) := by rw [typeLookup_type, builtinLookup_eq_fast]; kernel_rfl
theorem lookup_fz_init : typeLookup (.type "frozenset") "__init__" = pure (some (.builtin "object.__init__")) := by rw [typeLookup_type, builtinLookup_eq_fast]; kernel_rfl
theorem sub_fz : isSubtype (.type "frozenset") (.type "frozenset") = pure true := by rw [isSubtype_type]; kernel_rfl
theorem slot_fz_init : Slot "frozenset" "__init__" "object.__init__" :=
  .of (owner := "object") (n := "__init__") (by rw [typeLookup_type, builtinLookup_eq_fast]; kernel_rfl) (by decide +kernel) (by decide +kernel) (by decide +kernel)
    (by first | exact .inl (by decide +kernel) | exact .inr (by decide +kernel)) (by rw [isSubtype_type]; kernel_rfl)
theorem called_fz : TypeCalled "frozenset" "frozenset.__new__" "object.__init__" :=
  ⟨by decide +kernel, by decide +kernel, ⟨_, _, mro_fz⟩, madeBy_type mro_fz lookup_fz_new (by decide +kernel), by decide +kernel, sub_fz, slot_fz_init⟩
theorem typeCall_fz (a : Value) : checkTypeCall "frozenset" ⟨[a], []⟩ = pure () := by kernel_rfl
theorem newCall_fz (a : Value) : checkBuiltinCall "frozenset.__new__" ⟨[.type "frozenset", a], []⟩ = pure () := by kernel_rfl
theorem entry_fz_new : entryFor table "frozenset.__new__" = some Builtin.«frozenset.__new__» := entryFor_of_tree (by kernel_rfl)
theorem args_oi2 (a b : Value) : argsOk "object.__init__" ⟨[a, b], []⟩ := PySem.F.args_object_init_2 a b

theorem meets_fz (b : Addr) (ns : List Int) (vs : List Value) (n : Nat) (hv : IntsAre vs ns) (hz : ns.length ≤ 50) (hl : vs.length = ns.length) :
    Meets (Builtin.«frozenset.__new__» ⟨[.type "frozenset", .ref b], []⟩) (fun A R s => A.handled = none ∧ s.heap.get? b = some (listO vs n) ∧
      (∀ h' tk es ep t, h'.get? s.heap.objs.size = some (setO true es ep t) → GoodSet es t ns → (∀ c o, s.heap.get? c = some o → h'.get? c = some o) → R (.ok (.ret (.ref s.heap.objs.size))) { s with heap := h', toks := tk })) :=
  .of_wp fun prog w A R s h => by
    obtain ⟨hp, g, d, tk, os⟩ := s
    obtain ⟨hh, gl, hR⟩ := h
    have f1 := sub_fz
    have f2 := lookup_fz_init
    have f3 := PySem.F.sub_list_set
    have f4 := PySem.F.sub_list_frozenset
    dsimp only at gl
    unfold Builtin.«frozenset.__new__» Builtin.Frozenset.newClass Builtin.Frozenset.newFrom Builtin.Frozenset.updateFrom
    generalize hPI : pyIter = PI
    wp_walk using AutoSeq1.wpAny_loadPart' gl
    refine wpAny_askSetting (wpAny_pure ?_)
    dsimp only
    simp only [newObj]
    refine wpAny_bind (wpAny_alloc (wpAny_pure ?_))
    have gb : (hp.push (setO true #[] 0 (.fresh 0 0 !w.params.followText "set-order"))).get? b = some (listO vs n) := Heap.get?_push_of_some _ gl
    wp_walk using AutoSeq1.wpAny_loadPart' gb
    subst hPI
    refine wpAny_pyIter_list ⟨_, gb, rfl, n, rfl⟩ (wpAny_bind (wpAny_runValue ?_))
    have hsz : (hp.push (setO true #[] 0 (.fresh 0 0 !w.params.followText "set-order"))).objs.size = hp.objs.size + 1 := Heap.size_push ..
    have hb : b < hp.objs.size := Heap.lt_size gl
    have g0 : GoodSet #[] (.fresh 0 0 !w.params.followText "set-order") [] := ⟨fun e he => by simp at he, fun k => by simp, by decide, by cases (w.params.followText "set-order") <;> rfl⟩
    refine upd_loop (f := true) (A := A.in1) (ns := ns) (vs := vs) (a := hp.objs.size) (ax := b) (by exact hh) hv hz hl ?_ ?_ (Nat.ne_of_lt hb) ns.length 0 _ (by omega) (Nat.zero_le _) ⟨_, Heap.get?_push_size _ rfl, rfl, rfl⟩ ⟨_, n, Heap.get?_push_of_some _ gb, rfl⟩
      ⟨#[], 0, _, Heap.get?_push_of_some _ (Heap.get?_push_size _ rfl), g0, Nat.le_refl _⟩ fun h' tk es ep t a1 a2 a3 => ?_
    · show hp.objs.size ≠ (hp.push (setO true #[] 0 (.fresh 0 0 !w.params.followText "set-order"))).objs.size
      rw [hsz]; exact Nat.ne_of_lt (Nat.lt_succ_self _)
    · show b ≠ (hp.push (setO true #[] 0 (.fresh 0 0 !w.params.followText "set-order"))).objs.size
      rw [hsz]; exact Nat.ne_of_lt (Nat.lt_succ_of_lt hb)
    · show wpAny _ _ _ _ _ _
      refine wpAny_pure (wpAny_pure ?_)
      show wpAny _ _ (ret _) _ _ _
      refine wpAny_pure ⟨_, rfl, hR h' tk es ep t a1 a2 fun c o e => ?_⟩
      have hc : c < hp.objs.size := Heap.lt_size e
      refine a3 c o (Nat.ne_of_lt hc) ?_ (Heap.get?_push_of_some _ (Heap.get?_push_of_some _ e))
      show c ≠ (hp.push (setO true #[] 0 (.fresh 0 0 !w.params.followText "set-order"))).objs.size
      rw [hsz]; exact Nat.ne_of_lt (Nat.lt_succ_of_lt hc)

theorem make_fz {ns : List Int} {v : Value} {s : Shared} (hh : A.handled = none) (B : Base w s) (hv : Val s.heap (.list (ns.map .int)) v) (hz : ns.length ≤ 50) : wpAny (md w) A (call (.type "frozenset") [v]) (Ok s (.set true ns)) noE s := by
  obtain ⟨b, vs, n, rfl, g, hvs⟩ := hv
  have hl := hvs.length
  rw [List.length_map] at hl
  refine callType_new called_fz (by decide) (typeCall_fz _) (newCall_fz _) (fun obj => args_oi2 obj _) entry_fz_new (meets_fz b ns vs n (ints_are hvs) hz hl) ⟨hh, g, fun h' tk es ep t a1 a2 a3 => ?_⟩
  exact ⟨⟨_, a1, rfl⟩, Ext.grow a3, _, es, ep, t, rfl, a1, a2⟩

variable {env : Env} {σ : List (Str × D)}
theorem k_g_set (P : Params) : nsIn (KB P) mainGlobals "set" = some none ∧ nsIn (KB P) builtinsNs "set" = some (some (.type "set")) := ⟨by kernel_rfl, by kernel_rfl⟩
theorem k_g_fz (P : Params) : nsIn (KB P) mainGlobals "frozenset" = some none ∧ nsIn (KB P) builtinsNs "frozenset" = some (some (.type "frozenset")) := ⟨by kernel_rfl, by kernel_rfl⟩
theorem ev_set {px pos : Pos} {e : Expr} {ns : List Int} (hh : A.handled = none) (hx : env.kindOf "set" = some .globalImplicit) (h1 : Ev w A env σ e (.list (ns.map .int))) (hz : ns.length ≤ 50) (hst : noStar [e] = true := by rfl) :
    Ev w A env σ (.Call (.Name "set" px) [e] [] pos) (.set false ns) := fun s H =>
  callName (gl_builtin hx (k_g_set _).1 (k_g_set _).2) callee_t (ds := [.list (ns.map .int)]) ⟨_, _, rfl, h1, rfl⟩ H (fun vs s' e H' hv => by
    obtain ⟨v1, r1, rfl, a1, hr⟩ := hv
    rw [show r1 = [] from hr]
    exact wpAny_noE (make_set hh H'.base a1 hz) fun v s'' z => ⟨e.trans z.1, z.2⟩) hst
theorem ev_fz {px pos : Pos} {e : Expr} {ns : List Int} (hh : A.handled = none) (hx : env.kindOf "frozenset" = some .globalImplicit) (h1 : Ev w A env σ e (.list (ns.map .int))) (hz : ns.length ≤ 50) (hst : noStar [e] = true := by rfl) :
    Ev w A env σ (.Call (.Name "frozenset" px) [e] [] pos) (.set true ns) := fun s H =>
  callName (gl_builtin hx (k_g_fz _).1 (k_g_fz _).2) callee_t (ds := [.list (ns.map .int)]) ⟨_, _, rfl, h1, rfl⟩ H (fun vs s' e H' hv => by
    obtain ⟨v1, r1, rfl, a1, hr⟩ := hv
    rw [show r1 = [] from hr]
    exact wpAny_noE (make_fz hh H'.base a1 hz) fun v s'' z => ⟨e.trans z.1, z.2⟩) hst
end
end Mine
end
section
open PySem PySem.W PyProof.Rows PySem.Builtin
set_option Elab.async false
set_option maxRecDepth 100000
namespace Mine

section
variable {w : World} {A : Around} {env : Env} {σ : List (Str × D)} {s : Shared} {E : Value → Shared → Prop} {x C : Addr} {ox : Obj} {od : Option Obj} {pl : Sem Bool} {name : Str} {Q : Value × List Value → Shared → Prop}

theorem meth_get {f t : Value} {ga : String} (B : Base w s) (I : InstAt s.heap x ox C od) (hga : findIn (KB w.params) (.ref C) "__getattribute__" = some (some (.builtin ga))) (hcan : (Manifest.canonical ga != "object.__getattribute__") = false) (hk : findIn (KB w.params) (.ref C) "__getattr__" = some none)
    (hf : findIn (KB w.params) (.ref C) name = some (some f)) (ht : typeIn (KB w.params) f = some t) (hok : (t != .type "function" && t != .type "method_descriptor" && t != .type "wrapper_descriptor") = false) (hs : shadowIn od name = some false) (h : Q (f, [.ref x]) s) :
    wpAny (md w) A (getMethod (.ref x) name pl) Q E s := by
  have X := B.KB
  unfold getMethod specialOf
  refine wpAny_bind (wpAny_bind (I.type.here ((looks_findIn X hga).here ?_)))
  dsimp only
  rw [hcan, if_neg (by decide)]
  refine wpAny_bind (wpAny_bind (I.type.here ((looks_findIn X hk).here ?_)))
  refine wpAny_bind (wpAny_bind (I.type.here ((looks_findIn X hf).here (wpAny_bind ((looks_typeIn X ht).here ?_)))))
  rw [hok, if_neg (by decide)]
  refine wpAny_bind (wpAny_loadPart I.at_ ?_)
  have hd := I.dict
  cases e : ox.dict with
  | none => exact wpAny_bind (wpAny_rule (wpAny_pure h))
  | some dx =>
    cases od with
    | none => rw [e] at hd; exact hd.elim
    | some o =>
      rw [e] at hd
      obtain ⟨r, a, b⟩ := Option.map_eq_some_iff.mp hs
      refine wpAny_bind (wpAny_bind (wpAny_loadPart hd ?_))
      rw [nsLook_of a]
      refine wpAny_pure ?_
      rw [b]
      exact wpAny_bind (wpAny_rule (wpAny_pure h))
theorem can_list : (Manifest.canonical "list.__getattribute__" != "object.__getattribute__") = false := by decide +kernel
theorem can_obj : (Manifest.canonical "object.__getattribute__" != "object.__getattribute__") = false := by decide +kernel

/-- a row of tags has this method -/
structure TMeth (w : World) (name : Str) (f t : Value) : Prop where
  find : findIn (KB w.params) (.ref cTags) name = some (some f)
  type : typeIn (KB w.params) f = some t
  ok : (t != .type "function" && t != .type "method_descriptor" && t != .type "wrapper_descriptor") = false
theorem tmeth {f t v : Value} {ts : List D} (m : TMeth w name f t) (B : Base w s) (hv : Val s.heap (.tags ts) v) (h : Q (f, [v]) s) : wpAny (md w) A (getMethod v name pl) Q E s := by
  obtain ⟨a, vs, n, dx, k, rfl, g, gd, _⟩ := hv
  exact meth_get B (inst_tags g gd) (k_tags_ga _) can_list (k_tags_g _) m.find m.type m.ok rfl h

theorem eval_meth {o : Expr} {apos pos : Pos} {es : List Expr} {Q : Value → Shared → Prop}
    (h : wpAny (md w) A (eval o env) (fun ov s₁ => wpAny (md w) A (getMethod ov name pl) (fun fx s₂ => wpAny (md w) A (callWith pos fx.1 fx.2 (backTo pos (starEach es env)) []) Q E s₂) E s₁) E s)
    (he : eval (.Call (.Attribute o name apos) es [] pos) env = (do
      let ov ← eval o env
      standAt apos.atName
      let (f, first) ← holding [ov] (getMethod ov name pl)
      callWith pos f first (backTo pos (starEach es env)) (backToKw pos (keywordEach [] env))) := by rfl) :
    wpAny (md w) A (eval (.Call (.Attribute o name apos) es [] pos) env) Q E s := methodCall_KW h he

/-- a row's own method, that reads alone -/
theorem ev_meth {k : Nat} {o : Expr} {apos pos : Pos} {es : List Expr} {ts ds : List D} {d : D} {f : Addr} {t : Value} (ho : Ev w A env σ o (.tags ts)) (m : TMeth w name (.ref f) t) (hk : keepIn (KB w.params) (.ref f) = true) (hes : Evs w A env σ es ds) (hf : Fn w k f (.tags ts :: ds) d) (r : Room k A)
    (hst : noStar es = true := by rfl)
    (he : eval (.Call (.Attribute o name apos) es [] pos) env = (do
      let ov ← eval o env
      standAt apos.atName
      let (f, first) ← holding [ov] (getMethod ov name pl)
      callWith pos f first (backTo pos (starEach es env)) (backToKw pos (keywordEach [] env))) := by rfl) : Ev w A env σ (.Call (.Attribute o name apos) es [] pos) d := fun s H => by
  refine eval_meth (wpAny_noE (ho s H) fun v s₁ q1 => tmeth m (H.base.ext q1.1) q1.2 ?_) he
  refine callW (callee_K hk) hes (H.ext q1.1) hst fun vs s₂ e H' hv => ?_
  exact wpAny_noE (wpAny_fn hf r H'.base ⟨v, vs, rfl, e.val0 (H.base.ext q1.1) q1.2, hv⟩) fun u s₃ z => ⟨(q1.1.trans e).trans z.1, z.2⟩
end
end Mine
end
section
open PySem PySem.W PyProof.Rows PySem.Builtin
set_option Elab.async false
set_option maxRecDepth 100000
namespace Mine

section
variable {w : World} {A : Around} {env : Env} {σ : List (Str × D)}

theorem body_assign {x : Str} {px pos : Pos} {e : Expr} {d d' : D} {rest : List Stmt} (h : Ev w A env σ e d) (hr : Body w A env ((x, d) :: σ) rest d')
    (hk : env.kindOf x = some .local ∨ (env.kindOf x = some .cell ∧ (env.cells.lookup x).isSome = true) := by first | exact .inl rfl | exact .inr ⟨rfl, rfl⟩) (hf : env.func.isSome = true := by rfl)
    (hs : swapsWith e (some (.Name x px)) pos.line env = pure false := by rfl) : Body w A env σ (.Assign [.Name x px] e pos :: rest) d' := fun s H => by
  refine wpAny_execs_cons (wpAny_Assign_Name (wpAny_noE (h s H) fun v s₁ q => (H.ext q.1).store q.2 hk (.inl hf) fun s₂ H₂ e _ _ _ => wpAny_noE (hr s₂ H₂) fun fl s₃ z => ?_) hs)
  obtain ⟨u, rfl, z1, z2⟩ := z
  exact ⟨u, rfl, ((q.1.wk0 H.big).trans (e.wk (fun i hi => place_own i hi) H.big)).trans z1, z2⟩

theorem ev_orb {x y : Expr} {pos : Pos} {a b : Bool} (hx : Ev w A env σ x (.bool a)) (hy : Ev w A env σ y (.bool b)) : Ev w A env σ (.BoolOp .Or [x, y] pos) (.bool (a || b)) :=
  ev_or2 hx rfl (fun h => by rw [show a = true from h]; rfl) (fun h => by rw [show a = false from h]; exact hy)
theorem ev_or3b {x y z : Expr} {pos : Pos} {a b c : Bool} (hx : Ev w A env σ x (.bool a)) (hy : Ev w A env σ y (.bool b)) (hz : Ev w A env σ z (.bool c)) : Ev w A env σ (.BoolOp .Or [x, y, z] pos) (.bool (a || b || c)) := fun s H => by
  show wpAny (md w) A (do
    let v ← eval x env
    standAt pos
    let t ← holding [v] (truthy v)
    match BoolOp.Or, t with
    | .And, false | .Or, true => pure v
    | _, _ => boolOp pos .Or [eval y env, eval z env]) _ _ s
  refine wpAny_bind (wpAny_noE (hx s H) fun v s₁ q => wpAny_bind (wpAny_standAt (wpAny_bind (wpAny_holding (wpAny_noE (truthy_D rfl q.2) fun t s₂ q2 => ?_)))))
  obtain ⟨rfl, e2⟩ := q2
  cases t with
  | true => exact wpAny_pure ⟨q.1.trans e2, q.2⟩
  | false =>
    show wpAny (md w) A (eval (.BoolOp .Or [y, z] pos) env) _ _ s₂
    exact wpAny_noE (ev_orb hy hz s₂ ((H.ext q.1).ext e2)) fun u s₃ r => ⟨(q.1.trans e2).trans r.1, r.2⟩

def isSoft (c : Int) : Bool := (decide (329 < c) && decide (c < 340)) || c == 1005
def isHard (c : Int) : Bool := (decide (339 < c) && decide (c < 350)) || (decide (389 < c) && decide (c < 400)) || (decide (479 < c) && decide (c < 482))
def isSO (c : Int) : Bool := decide (349 < c) && decide (c < 360)
def isHO (c : Int) : Bool := decide (359 < c) && decide (c < 370)
theorem fn_soft {k : Nat} {c : Int} {x : Str} : Fn w (k + 3) 149 [.tag c x] (.bool (isSoft c)) := by
  refine fn_pure (fun P => by k_is) (by kernel_rfl) (by exact one_arg fun v => rfl) (by rfl) (by
    exact fun A L r => body_ret (ev_orb (ev_chain ev_int (ev_code r (ev_name rfl)) ev_int cmp_lt_int cmp_lt_int) (ev_cmp (ev_code r (ev_name rfl)) ev_int cmp_eq_int)))
theorem fn_so {k : Nat} {c : Int} {x : Str} : Fn w (k + 3) 163 [.tag c x] (.bool (isSO c)) := by
  refine fn_pure (fun P => by k_is) (by kernel_rfl) (by exact one_arg fun v => rfl) (by rfl) (by
    exact fun A L r => body_ret (ev_chain ev_int (ev_code r (ev_name rfl)) ev_int cmp_lt_int cmp_lt_int))
theorem fn_ho {k : Nat} {c : Int} {x : Str} : Fn w (k + 3) 170 [.tag c x] (.bool (isHO c)) := by
  refine fn_pure (fun P => by k_is) (by kernel_rfl) (by exact one_arg fun v => rfl) (by rfl) (by
    exact fun A L r => body_ret (ev_chain ev_int (ev_code r (ev_name rfl)) ev_int cmp_lt_int cmp_lt_int))
theorem fn_hard {k : Nat} {c : Int} {x : Str} : Fn w (k + 3) 156 [.tag c x] (.bool (isHard c)) := by
  refine fn_pure (fun P => by k_is) (by kernel_rfl) (by exact one_arg fun v => rfl) (by rfl) (by
    exact fun A L r => body_assign (ev_code r (ev_name rfl)) (body_ret (ev_or3b (ev_chain ev_int (ev_name rfl) ev_int cmp_lt_int cmp_lt_int) (ev_chain ev_int (ev_name rfl) ev_int cmp_lt_int cmp_lt_int) (ev_chain ev_int (ev_name rfl) ev_int cmp_lt_int cmp_lt_int))))

def isTr (c : Int) : Bool := isSoft c || isHard c || isSO c || isHO c
/-- the ints of a written set object -/
def setInts (o : Obj) : List Int := match o.data with
  | .set es _ _ => es.toList.map fun e => match e.2 with | .int k _ => k | _ => 0
  | _ => []
def setFine (o : Obj) : Bool := match o with
  | ⟨.type "set", none, .set es _ t, sl⟩ => sl.isEmpty && (es.toList.all fun e => match e.2 with | .int k _ => e.1 == hashInt k | _ => false) && Nat.blt es.size 100 && t.fits es.size
  | _ => false
theorem isInt_self (k : Int) (u : PySem.Tok) : Value.isInt k (.int k u) = true := by simp [Value.isInt]
theorem set_of_fine {o : Obj} (h : setFine o = true) : ∃ es ep t, o = setO false es ep t ∧ GoodSet es t (setInts o) := by
  unfold setFine at h
  split at h
  · rename_i es ep t sl
    simp only [Bool.and_eq_true] at h
    obtain ⟨⟨⟨h1, h2⟩, h3⟩, h4⟩ := h
    have e0 : sl = #[] := by simpa using h1
    subst e0
    have key : ∀ e ∈ es.toList, ∃ k u, e.2 = .int k u ∧ e.1 = hashInt k := fun e he => by
      have := List.all_eq_true.mp h2 e he
      split at this
      · rename_i k u q; exact ⟨k, u, q, by simpa using this⟩
      · cases this
    refine ⟨es, ep, t, rfl, fun e he => ?_, fun k => ?_, Nat.le_of_ble_eq_true h3, h4⟩
    · obtain ⟨k, u, e1, e2⟩ := key e he
      exact ⟨⟨k, by rw [e1]; exact isInt_self k u, e2⟩, by rw [e1]; rfl⟩
    · unfold setInts
      dsimp only
      rw [List.any_map, List.any_eq_true]
      constructor
      · rintro ⟨e, he, q⟩
        obtain ⟨k', u, e1, e2⟩ := key e he
        refine ⟨e, he, ?_⟩
        simp only [Function.comp, e1, beq_iff_eq] at q
        rw [e1, ← q]; exact isInt_self k' u
      · rintro ⟨e, he, q⟩
        obtain ⟨t0, e0⟩ := Value.isInt_shape q
        exact ⟨e, he, by simp [e0]⟩
  · cases h
theorem k_47 (P : Params) : ((hd.heap_39 P).lookup 47).any setFine = true := by kernel_rfl
theorem k_47b (P : Params) : (((hd.heap_39 P).lookup 47).map setInts).any (fun l => (l.all fun k => decide (330 ≤ k) && decide (k ≤ 1005)) && (List.range 1006).all fun n => l.any (· == (n : Int)) == isTr n) = true := by kernel_rfl

theorem ev_gl {e : Expr} {v : Value} {d : D} (hg : Gl w A env σ e v) (h : ∀ s, Base w s → Val s.heap d v) : Ev w A env σ e d := fun s H => wpAny_noE (hg s H) fun u s' q => by
  obtain ⟨rfl, rfl⟩ := q
  exact ⟨Ext.refl _, h _ H.base⟩
theorem tr_ints (P : Params) : ∃ o, (hd.heap_39 P).lookup 47 = some o ∧ setFine o = true ∧ ∀ c : Int, (setInts o).any (· == c) = isTr c := by
  have h1 := k_47 P
  have h2 := k_47b P
  cases q : (hd.heap_39 P).lookup 47 with
  | none => rw [q] at h1; cases h1
  | some o =>
    rw [q] at h1 h2
    refine ⟨o, rfl, h1, fun c => ?_⟩
    simp only [Option.map_some, Option.any_some, Bool.and_eq_true, List.all_eq_true, decide_eq_true_eq, beq_iff_eq, List.mem_range] at h2
    obtain ⟨a, b⟩ := h2
    by_cases hc : 0 ≤ c ∧ c < 1006
    · obtain ⟨j, rfl⟩ := Int.eq_ofNat_of_zero_le hc.1
      exact b j (by omega)
    · have f1 : (setInts o).any (· == c) = false := by
        rw [List.any_eq_false]
        intro k hk
        have := a k hk
        simp only [beq_iff_eq]
        omega
      have f2 : isTr c = false := by
        unfold isTr isSoft isHard isSO isHO
        simp only [Bool.or_eq_false_iff, Bool.and_eq_false_iff, decide_eq_false_iff_not, beq_eq_false_iff_ne, ne_eq]
        omega
      rw [f1, f2]
theorem k_g_tr (P : Params) : nsIn (KB P) mainGlobals "TRANSLATABLE_POINTER_CODES" = some (some (.ref 47)) := by kernel_rfl
theorem fn_tr {k : Nat} {c : Int} {x : Str} : Fn w (k + 3) 177 [.tag c x] (.bool (isTr c)) := by
  obtain ⟨o, h1, h2, h3⟩ := tr_ints w.params
  obtain ⟨es, ep, t, rfl, good⟩ := set_of_fine h2
  have val : ∀ s, Base w s → Val s.heap (.set false (setInts (setO false es ep t))) (.ref 47) := fun s B => ⟨47, es, ep, t, rfl, B.top _ _ h1 (by decide) (by decide), good⟩
  rw [← h3 c]
  refine fn_pure (fun P => by k_is) (by kernel_rfl) (by exact one_arg fun v => rfl) (by rfl) (by
    exact fun A L r => body_ret (ev_cmp (ev_code r (ev_name rfl)) (ev_gl (gl_main rfl (k_g_tr _)) val) cmp_in_set))
end
end Mine
end
section
open PySem PySem.W PyProof.Rows PySem.Builtin
set_option Elab.async false
set_option maxRecDepth 100000
namespace Mine

abbrev Row := Int × Str
abbrev tagD (r : Row) : D := .tag r.1 r.2
abbrev tagsD (rs : List Row) : D := .tags (rs.map tagD)
abbrev tgsD (rs : List Row) : D := .list (rs.map tagD)
theorem flat_tags (rs : List Row) : ∀ d ∈ rs.map tagD, flat d = true := fun d hd => by
  obtain ⟨r, _, rfl⟩ := List.mem_map.mp hd
  rfl
theorem nodict {σ : List (Str × D)} (h : (σ.all fun p => !bears (.type "dict") p.2) = true) : ∀ y d, σ.lookup y = some d → bears (.type "dict") d = false := fun y d q => by
  have := List.all_eq_true.mp h (y, d) (mem_of_lookup q)
  simpa using this
theorem two_arg {fd : FuncData} {n m : Str} (h : ∀ v u, bindArgs fd ⟨[v, u], []⟩ = pure [(n, v), (m, u)]) : ∀ vs : List Value, vs.length = 2 → bindArgs fd ⟨vs, []⟩ = pure ([n, m].zip vs) := fun vs hl => by
  obtain ⟨v, r, rfl⟩ := List.exists_cons_of_length_eq_add_one hl
  obtain ⟨u, rfl⟩ := List.length_eq_one_iff.mp (by simpa using hl)
  exact h v u

section
variable {w : World} {A : Around} {env : Env} {σ : List (Str × D)}

/-- the tags that pass a test, and what is made of each -/
theorem comp_tags {iter elt : Expr} {ifs : List Expr} {scope : Scope} {pos px : Pos} {x : Str} {rs : List Row} (p : Row → Bool) (g : Row → D)
    (it : Iter w A env σ (.Name x px) iter (rs.map tagD)) (hz : rs.length ≤ 100)
    (test : ∀ C r, r ∈ rs → Tsts w A (envK scope C env) ((x, tagD r) :: freeOf scope σ) ifs (p r))
    (elts : ∀ C r, r ∈ rs → p r = true → Ev w A (envK scope C env) ((x, tagD r) :: freeOf scope σ) elt (g r)) (fl : ∀ r, flat (g r) = true)
    (hx : scope.names.lookup x = some .local := by rfl) (ok : compOk scope env = true := by rfl) (kind : scope.kind = .function := by rfl) (free : ((freeOf scope σ).all fun p => !bears (.type "dict") p.2) = true := by rfl)
    (hs : ∀ x, foldedSetIterable iter env x = pure x := by intro _; rfl) :
    EvF w A env σ (.ListComp elt [⟨.Name x px, iter, ifs, 0⟩] scope pos) (.list ((rs.filter p).map g)) := fun s H => by
  have out : ∃ out : D → Option D, (∀ r, out (tagD r) = if p r then some (g r) else none) := ⟨fun d => match d with | .tag c y => if p (c, y) then some (g (c, y)) else none | _ => none, fun r => rfl⟩
  obtain ⟨out, ho⟩ := out
  have hfm : (rs.map tagD).filterMap out = (rs.filter p).map g := by
    clear it test elts hz
    induction rs with
    | nil => rfl
    | cons r rs ih =>
      rw [List.map_cons, List.filter_cons]
      cases hp : p r with
      | true => rw [List.filterMap_cons_some (by rw [ho, hp]; rfl), ih]; rfl
      | false => rw [List.filterMap_cons_none (by rw [ho, hp]; rfl), ih]; rfl
  rw [← hfm]
  refine ev_comp it (comp_name ok kind (nodict free) hx (by simpa using Nat.le_trans hz (by decide)) (fun C d hd => ?_) (fun C d e hd he => ?_) (fun d hd e he => ?_)) hs s H
  · obtain ⟨r, hr, rfl⟩ := List.mem_map.mp hd
    have e : (out (tagD r)).isSome = p r := by rw [ho]; cases p r <;> rfl
    rw [e]; exact test C r hr
  · obtain ⟨r, hr, rfl⟩ := List.mem_map.mp hd
    rw [ho] at he
    cases hp : p r with
    | true => rw [hp] at he; cases he; exact elts C r hr hp
    | false => rw [hp] at he; cases he
  · obtain ⟨r, hr, rfl⟩ := List.mem_map.mp hd
    rw [ho] at he
    cases hp : p r with
    | true => rw [hp] at he; cases he; exact fl r
    | false => rw [hp] at he; cases he

theorem evs1 {e : Expr} {d : D} (h : Ev w A env σ e d) : Evs w A env σ [e] [d] := ⟨_, _, rfl, h, rfl⟩
theorem evs2 {e f : Expr} {d c : D} (h : Ev w A env σ e d) (h2 : Ev w A env σ f c) : Evs w A env σ [e, f] [d, c] := ⟨_, _, rfl, h, evs1 h2⟩
theorem evs3 {e f g : Expr} {d c b : D} (h : Ev w A env σ e d) (h2 : Ev w A env σ f c) (h3 : Ev w A env σ g b) : Evs w A env σ [e, f, g] [d, c, b] := ⟨_, _, rfl, h, evs2 h2 h3⟩
theorem filt_len {rs : List Row} {p : Row → Bool} (hz : rs.length ≤ 100) : ((rs.filter p).map tagD).length ≤ 1000 := by
  have := List.length_filter_le p rs; simp only [List.length_map]; omega
theorem nb_ints (cs : List Int) : bears (.type "dict") (.list (cs.map .int)) = false := by
  have : bearsL (.type "dict") (cs.map .int) = false := by
    induction cs with
    | nil => rfl
    | cons c cs ih => rw [List.map_cons, bearsL, ih]; rfl
  simp only [bears, this]; rfl
theorem free_one {n : Str} {d : D} (h : bears (.type "dict") d = false) : ([(n, d)].all fun p => !bears (.type "dict") p.2) = true := by
  rw [List.all_cons, h]; rfl
theorem fn_find {k : Nat} {rs : List Row} {c : Int} (hz : rs.length ≤ 100) : Fn w (k + 3) 265 [tagsD rs, .int c] (tagsD (rs.filter fun r => r.1 == c)) := by
  refine fn_pure (fun P => by k_is) (by kernel_rfl) (by exact two_arg fun v u => rfl) (by rfl) (by
    intro A L r
    refine body_ret (EvF.ev (evF_tags rfl (EvF.ev (comp_tags (fun r => r.1 == c) tagD (iter_tags r.handled (ev_name rfl)) hz ?_ ?_ (fun q => rfl))) (filt_len hz) (flat_tags _)))
    · exact fun C q hq => tst_cmp (ev_code r (ev_name rfl)) (ev_name rfl) cmp_eq_int
    · exact fun C q hq _ => ev_name rfl)
theorem fn_filter {k : Nat} {rs : List Row} {cs : List Int} (hz : rs.length ≤ 100) (hc : cs.length ≤ 50) : Fn w (k + 3) 309 [tagsD rs, .list (cs.map .int)] (tgsD (rs.filter fun r => !cs.any (· == r.1))) := by
  refine fn_pure (fun P => by k_is) (by kernel_rfl) (by exact two_arg fun v u => rfl) (by rfl) (by
    intro A L r
    refine body_ret (EvF.ev (comp_tags (fun r => !cs.any (· == r.1)) tagD (iter_tags r.handled (ev_name rfl)) hz ?_ ?_ (fun q => rfl) (free := free_one (nb_ints cs))))
    · exact fun C q hq => tst_cmp (ev_code r (ev_name rfl)) (ev_set r.handled rfl (ev_name rfl) hc) cmp_notin_set
    · exact fun C q hq _ => ev_name rfl)

theorem three_arg {fd : FuncData} {n m l : Str} (h : ∀ v u x, bindArgs fd ⟨[v, u, x], []⟩ = pure [(n, v), (m, u), (l, x)]) : ∀ vs : List Value, vs.length = 3 → bindArgs fd ⟨vs, []⟩ = pure ([n, m, l].zip vs) := fun vs hl => by
  obtain ⟨v, r, rfl⟩ := List.exists_cons_of_length_eq_add_one hl
  obtain ⟨u, r, rfl⟩ := List.exists_cons_of_length_eq_add_one (show r.length = 2 by simpa using hl)
  obtain ⟨x, rfl⟩ := List.length_eq_one_iff.mp (show r.length = 1 by simpa using hl)
  exact h v u x
theorem fn_strip {k : Nat} {rs : List Row} {cs : List Int} (hz : rs.length ≤ 100) (hc : cs.length ≤ 50) : Fn w (k + 3) 329 [.raw (.ref cTags), tagsD rs, .list (cs.map .int)] (tagsD (rs.filter fun r => !cs.any (· == r.1))) := by
  refine fn_pure (fun P => by k_is) (by kernel_rfl) (by exact three_arg fun v u x => rfl) (by rfl) (by
    intro A L r
    refine body_ret (EvF.ev (evF_tags rfl (EvF.ev (comp_tags (fun r => !cs.any (· == r.1)) tagD (iter_tags r.handled (ev_name rfl)) hz ?_ ?_ (fun q => rfl) (free := free_one (nb_ints cs)))) (filt_len hz) (flat_tags _)))
    · exact fun C q hq => tst_cmp (ev_code r (ev_name rfl)) (ev_fz r.handled rfl (ev_name rfl) hc) cmp_notin_set
    · exact fun C q hq _ => ev_name rfl)

theorem k_g_is (P : Params) : nsIn (KB P) mainGlobals "is_soft_pointer" = some (some (.ref 149)) ∧ nsIn (KB P) mainGlobals "is_hard_pointer" = some (some (.ref 156)) ∧ nsIn (KB P) mainGlobals "is_soft_owner" = some (some (.ref 163)) ∧ nsIn (KB P) mainGlobals "is_hard_owner" = some (some (.ref 170)) ∧ nsIn (KB P) mainGlobals "is_translatable_pointer" = some (some (.ref 177)) :=
  ⟨by kernel_rfl, by kernel_rfl, by kernel_rfl, by kernel_rfl, by kernel_rfl⟩
theorem k_keep_is (P : Params) : keepIn (KB P) (.ref 149) = true ∧ keepIn (KB P) (.ref 156) = true ∧ keepIn (KB P) (.ref 163) = true ∧ keepIn (KB P) (.ref 170) = true ∧ keepIn (KB P) (.ref 177) = true :=
  ⟨by kernel_rfl, by kernel_rfl, by kernel_rfl, by kernel_rfl, by kernel_rfl⟩
theorem fn_gsoft {k : Nat} {rs : List Row} (hz : rs.length ≤ 100) : Fn w (k + 4) 337 [tagsD rs] (tagsD (rs.filter fun r => isSoft r.1)) := by
  refine fn_pure (fun P => by k_is) (by kernel_rfl) (by exact one_arg fun v => rfl) (by rfl) (by
    intro A L r
    refine body_ret (EvF.ev (evF_tags rfl (EvF.ev (comp_tags (fun r => isSoft r.1) tagD (iter_tags r.handled (ev_name rfl)) hz ?_ ?_ (fun q => rfl))) (filt_len hz) (flat_tags _)))
    · exact fun C q hq => tst_ev (ev_fn (fn_soft (k := k)) (gl_main rfl (k_g_is _).1) (k_keep_is _).1 (evs1 (ev_name rfl)) r) rfl
    · exact fun C q hq _ => ev_name rfl)
theorem fn_ghard {k : Nat} {rs : List Row} (hz : rs.length ≤ 100) : Fn w (k + 4) 342 [tagsD rs] (tagsD (rs.filter fun r => isHard r.1)) := by
  refine fn_pure (fun P => by k_is) (by kernel_rfl) (by exact one_arg fun v => rfl) (by rfl) (by
    intro A L r
    refine body_ret (EvF.ev (evF_tags rfl (EvF.ev (comp_tags (fun r => isHard r.1) tagD (iter_tags r.handled (ev_name rfl)) hz ?_ ?_ (fun q => rfl))) (filt_len hz) (flat_tags _)))
    · exact fun C q hq => tst_ev (ev_fn (fn_hard (k := k)) (gl_main rfl (k_g_is _).2.1) (k_keep_is _).2.1 (evs1 (ev_name rfl)) r) rfl
    · exact fun C q hq _ => ev_name rfl)
theorem fn_gso {k : Nat} {rs : List Row} (hz : rs.length ≤ 100) : Fn w (k + 4) 347 [tagsD rs] (tagsD (rs.filter fun r => isSO r.1)) := by
  refine fn_pure (fun P => by k_is) (by kernel_rfl) (by exact one_arg fun v => rfl) (by rfl) (by
    intro A L r
    refine body_ret (EvF.ev (evF_tags rfl (EvF.ev (comp_tags (fun r => isSO r.1) tagD (iter_tags r.handled (ev_name rfl)) hz ?_ ?_ (fun q => rfl))) (filt_len hz) (flat_tags _)))
    · exact fun C q hq => tst_ev (ev_fn (fn_so (k := k)) (gl_main rfl (k_g_is _).2.2.1) (k_keep_is _).2.2.1 (evs1 (ev_name rfl)) r) rfl
    · exact fun C q hq _ => ev_name rfl)
theorem fn_gho {k : Nat} {rs : List Row} (hz : rs.length ≤ 100) : Fn w (k + 4) 352 [tagsD rs] (tagsD (rs.filter fun r => isHO r.1)) := by
  refine fn_pure (fun P => by k_is) (by kernel_rfl) (by exact one_arg fun v => rfl) (by rfl) (by
    intro A L r
    refine body_ret (EvF.ev (evF_tags rfl (EvF.ev (comp_tags (fun r => isHO r.1) tagD (iter_tags r.handled (ev_name rfl)) hz ?_ ?_ (fun q => rfl))) (filt_len hz) (flat_tags _)))
    · exact fun C q hq => tst_ev (ev_fn (fn_ho (k := k)) (gl_main rfl (k_g_is _).2.2.2.1) (k_keep_is _).2.2.2.1 (evs1 (ev_name rfl)) r) rfl
    · exact fun C q hq _ => ev_name rfl)
theorem fn_gtr {k : Nat} {rs : List Row} (hz : rs.length ≤ 100) : Fn w (k + 4) 362 [tagsD rs] (tagsD (rs.filter fun r => isTr r.1)) := by
  refine fn_pure (fun P => by k_is) (by kernel_rfl) (by exact one_arg fun v => rfl) (by rfl) (by
    intro A L r
    refine body_ret (EvF.ev (evF_tags rfl (EvF.ev (comp_tags (fun r => isTr r.1) tagD (iter_tags r.handled (ev_name rfl)) hz ?_ ?_ (fun q => rfl))) (filt_len hz) (flat_tags _)))
    · exact fun C q hq => tst_ev (ev_fn (fn_tr (k := k)) (gl_main rfl (k_g_is _).2.2.2.2) (k_keep_is _).2.2.2.2 (evs1 (ev_name rfl)) r) rfl
    · exact fun C q hq _ => ev_name rfl)

/-- any(e) over a list of bools -/
theorem any_bools {bs : List Bool} {v : Value} {s : Shared} (hh : A.handled = none) (B : Base w s) (hv : Val s.heap (.list (bs.map .bool)) v) : wpAny (md w) A (call (.builtin "any") [v]) (Ok s (.bool (bs.any id))) noE s := by
  obtain ⟨a, vs, n, rfl, g, hvs⟩ := hv
  have hvs' : vs = bs.map Value.bool := by
    clear g
    induction bs generalizing vs with
    | nil => exact hvs
    | cons b bs ih =>
      obtain ⟨v, r, rfl, e, hr⟩ := hvs
      rw [show v = _ from e, ih r hr]; rfl
  refine call_any_walk (wpAny_pyIter_list ⟨_, g, rfl, n, rfl⟩ ?_)
  have hne : a ≠ s.heap.objs.size := Nat.ne_of_lt (Heap.lt_size g)
  refine ⟨_, _, _, _, _, _, fun i => (bs[i]?).getD false, rfl, Walks.list (A := A.in1) hh s.heap.objs.size a hne vs.toArray, ⟨⟨_, Heap.get?_push_size _ rfl, rfl, rfl⟩, ⟨_, Heap.get?_push_of_some _ g, rfl, n, rfl⟩⟩, ?_, fun h' tk hk => ?_⟩
  · intro i v s Q E hP hQ
    rw [hvs'] at hP
    have hP' : (bs.map Value.bool)[i]? = some v := by simpa using hP
    rw [List.getElem?_map] at hP'
    cases q : bs[i]? with
    | none => rw [q] at hP'; cases hP'
    | some b =>
      rw [q] at hP'
      have : Value.bool b = v := by simpa using hP'
      subst this
      simp only [q, Option.getD_some] at hQ
      exact wpAny_truthy_bool hQ
  · have e : Ext [] s { s with heap := h', toks := tk } := Ext.grow fun b o e => hk b o (by
      intro m
      rw [List.mem_singleton.mp m] at e
      exact absurd (Heap.lt_size e) (Nat.lt_irrefl _)) (Heap.get?_push_of_some _ e)
    refine ⟨e, ?_⟩
    show Value.bool _ = Value.bool _
    congr 1
    have hs : vs.toArray.size = bs.length := by rw [hvs']; simp
    rw [hs]
    clear hvs hvs' hs
    rw [Bool.eq_iff_iff, List.any_eq_true, List.any_eq_true]
    constructor
    · rintro ⟨i, hi, q⟩
      have hi' : i < bs.length := by simpa using hi
      exact ⟨bs[i], List.getElem_mem hi', by simpa [hi'] using q⟩
    · rintro ⟨b, hb, q⟩
      obtain ⟨i, hi, rfl⟩ := List.getElem_of_mem hb
      exact ⟨i, by simpa using hi, by simpa [hi] using q⟩
theorem k_g_any (P : Params) : nsIn (KB P) mainGlobals "any" = some none ∧ nsIn (KB P) builtinsNs "any" = some (some (.builtin "any")) := ⟨by kernel_rfl, by kernel_rfl⟩
theorem fn_hastr {k : Nat} {rs : List Row} (hz : rs.length ≤ 100) : Fn w (k + 4) 357 [tagsD rs] (.bool (rs.any fun r => isTr r.1)) := by
  have hb : (rs.any fun r => isTr r.1) = ((rs.filter fun _ => true).map fun r => isTr r.1).any id := by
    rw [List.filter_eq_self.mpr (fun _ _ => rfl), List.any_map]; rfl
  rw [hb]
  refine fn_pure (fun P => by k_is) (by kernel_rfl) (by exact one_arg fun v => rfl) (by rfl) (by
    intro A L r
    refine body_ret (fun s H => callName (gl_builtin rfl (k_g_any _).1 (k_g_any _).2) callee_b (ds := [.list (((rs.filter fun _ => true).map fun r => isTr r.1).map .bool)]) (evs1 ?_) H (fun vs s' e H' hv => ?_))
    · rw [List.map_map]
      refine EvF.ev (comp_tags (fun _ => true) (fun r => .bool (isTr r.1)) (iter_tags r.handled (ev_name rfl)) hz ?_ ?_ (fun q => rfl))
      · exact fun C q hq => rfl
      · exact fun C q hq _ => ev_fn (fn_tr (k := k)) (gl_main rfl (k_g_is _).2.2.2.2) (k_keep_is _).2.2.2.2 (evs1 (ev_name rfl)) r
    · obtain ⟨v1, r1, rfl, a1, hr⟩ := hv
      rw [show r1 = [] from hr]
      exact wpAny_noE (any_bools r.handled H'.base a1) fun v s'' z => ⟨e.trans z.1, z.2⟩)
end
end Mine
end
section
open PySem PySem.W PyProof.Rows PySem.Builtin
set_option Elab.async false
set_option maxRecDepth 100000
namespace Mine

section
variable {w : World} {A : Around} {env : Env} {σ : List (Str × D)}

/-- what a block of statements that touches its own locals alone comes to: a value, or the next statement -/
def Out (w : World) (env : Env) (σ : List (Str × D)) (s : Shared) (o : Option D) (f : Flow) (s' : Shared) : Prop :=
  Ext [env.locals] s s' ∧ match o with
    | some d => ∃ v, f = .ret v ∧ Val s'.heap d v
    | none => f = .next ∧ Holds w env σ s'

theorem for_row {target iter : Expr} {body : List Stmt} {pos : Pos} {ds : List D} {bind : D → List (Str × D)} {P : D → Option D} {x0 : Str} {d0 : D} (it : Iter w A env σ target iter ds) (hx0 : env.kindOf x0 = some .local) (hσ : σ.lookup x0 = some d0)
    (asg : ∀ s v d, d ∈ ds → Val s.heap d v → Holds w env σ s → wpAny (md w) A (assign target env v) (fun _ s' => Holds w env (bind d ++ σ) s' ∧ Ext [env.locals] s s') noE s)
    (bdy : ∀ s d, d ∈ ds → Holds w env (bind d ++ σ) s → wpAny (md w) A (execs body env) (Out w env σ s (P d)) noE s)
    (hs : ∀ x, foldedSetIterable iter env x = pure x := by intro _; rfl) (s : Shared) (H : Holds w env σ s) :
    wpAny (md w) A (exec (.For target iter body [] pos) env) (Out w env σ s (ds.findSome? P)) noE s := by
  refine wpAny_For (wpAny_noE (it s H) fun x s₁ h₁ => wpAny_noE h₁ fun i z h => ?_) hs
  obtain ⟨I, S, St, Fin, rfl, src, ez, hS, st0⟩ := h
  have Hz := H.ext ez
  have hL : nTop ≤ env.locals := H.big _ (List.mem_cons_self ..)
  have hT : ∀ t ∈ [env.locals], nTop ≤ t := fun t ht => by rw [List.mem_singleton.mp ht]; exact hL
  have inf : ∀ {s' : Shared}, Holds w env σ s' → ∀ o, s'.heap.get? env.locals = some o → infra o = true := fun {s'} H' o g => by
    obtain ⟨v, b, _⟩ := H'.vals x0 d0 hσ
    rcases b with ⟨_, m, ⟨o', es, ep, g', dd, _, r⟩, hm⟩ | ⟨k | k, _⟩
    · rw [g] at g'; cases g'
      exact own_infra dd (x := x0) (v := v) (by rw [r]; exact hm)
    · rw [hx0] at k; cases k
    · rw [hx0] at k; cases k
  have tok : TokZ z [env.locals] := fun t ht => ⟨hT t ht, fun o g => by rw [List.mem_singleton.mp ht] at g; exact inf Hz o g⟩
  have sto : ∀ t ∈ [env.locals], ∀ o, z.heap.get? t = some o → Store o := fun t ht o g => by
    obtain ⟨m, o', es, ep, g', dd, _⟩ := Hz.ns
    rw [List.mem_singleton.mp ht, g'] at g; cases g
    exact .inl ⟨es, ep, dd⟩
  have dull : Dull z S := fun a ha o g => ((hS a ha).2.2 o g).2
  have hSn : ∀ a ∈ S, nTop ≤ a := fun a ha => (hS a ha).2.1
  have fin : ∀ {s' : Shared}, ExtG (S ++ [env.locals]) [] z s' → Ext [env.locals] s s' := fun e => by
    refine ((ez.wk0 e.own).trans e).drop (fun i hi => ?_) hT
    rcases List.mem_append.mp hi with q | q
    · exact .inr (hS i q).1
    · exact .inl q
  -- the names at a later state
  have back : ∀ {s' s'' : Shared}, Holds w env σ s' → ExtG (S ++ [env.locals]) [] z s'' → Step false z S [] [env.locals] s' s'' → Holds w env σ s'' := fun {s' s''} H' e q => by
    obtain ⟨W, y, hW⟩ := q
    have hLW : env.locals ∉ W := fun m => (hW _ m).1 (List.mem_singleton.mpr rfl)
    refine ⟨H'.base.ext y, H.big, H.fn, H.gl, H.bi, let ⟨m, q⟩ := H'.ns; ⟨m, y.ns hL hLW q⟩, fun n c hc => ?_, fun o g => ?_, H.inj, fun x d hx => ?_⟩
    · obtain ⟨v, hv⟩ := H'.cells n c hc
      refine ⟨v, y.cell (H.big _ (List.mem_cons_of_mem _ (List.mem_map.mpr ⟨_, mem_of_lookup hc, rfl⟩))) (fun m => ?_) hv⟩
      obtain ⟨u, o, g, dd⟩ := Hz.cells n c hc
      rcases (hW c m).2.1 with r | r
      · exact (dull c r o g).1 _ dd
      · rw [r] at g; cases g
    · obtain ⟨m, o', es, ep, g', r⟩ := H'.ns
      have := y.keep _ _ g' hLW (nTop_PH hL) (nTop_PL hL)
      rw [g] at this; cases this
      exact H'.lone o g'
    · obtain ⟨v, b, hv⟩ := H'.vals x d hx
      refine ⟨v, ?_, ?_⟩
      · rcases b with ⟨k, m, h1, q⟩ | ⟨k, c, h1, n, q⟩
        · exact .inl ⟨k, m, y.ns hL hLW h1, q⟩
        · refine .inr ⟨k, c, h1, n, y.cell n (fun m => ?_) q⟩
          obtain ⟨u, o, g, dd⟩ := Hz.cells x c h1
          rcases (hW c m).2.1 with r | r
          · exact (dull c r o g).1 _ dd
          · rw [r] at g; cases g
      · exact y.val H'.base (fun a ha o g => ((hW a ha).2.2 o g).elim .inl fun q => by cases q.1) hv
  refine codeAny_forLoop_any (fun k s' => ∃ i, k = ds.length - i ∧ i ≤ ds.length ∧ (∀ d ∈ ds.take i, P d = none) ∧ St [env.locals] i s' ∧ Holds w env σ s' ∧ ExtG (S ++ [env.locals]) [] z s') ?_ ds.length
    ⟨0, rfl, Nat.zero_le _, fun d hd => by simp at hd, st0 _ z sto (Ext.refl z), Hz, (Ext.refl z).wk0 fun i hi => (List.mem_append.mp hi).elim (hSn i) (hT i)⟩
  rintro k s' ⟨i, rfl, hi, hnone, st, H', e⟩
  have ex : ∀ t ∈ [env.locals], ∃ o, s'.heap.get? t = some o := fun t ht => by
    obtain ⟨m, o, es, ep, g, _⟩ := H'.ns
    rw [List.mem_singleton.mp ht]; exact ⟨o, g⟩
  cases hdi : ds[i]? with
  | none =>
    have hil : i = ds.length := Nat.le_antisymm hi (by simpa using hdi)
    subst hil
    refine wpAny_noE (src.done _ s' tok ex st H'.base e) fun r s₁ q => ?_
    obtain ⟨rfl, q, _⟩ := q
    refine wpAny_execs_nil ⟨fin (q.ext e), ?_⟩
    have : ds.findSome? P = none := by
      rw [List.findSome?_eq_none_iff]
      rw [List.take_length] at hnone
      exact hnone
    rw [this]
    exact ⟨rfl, back H' (q.ext e) q⟩
  | some d =>
    have hdm : d ∈ ds := List.mem_of_getElem? hdi
    have hilt : i < ds.length := (List.getElem?_eq_some_iff.mp hdi).1
    refine wpAny_noE (src.item _ i s' d tok ex st H'.base e hdi) fun r s₁ q => ?_
    obtain ⟨v, rfl, q⟩ := q
    refine wpAny_noE q fun _ s₂ q => ?_
    obtain ⟨hv, st2, q⟩ := q
    have e2 := q.ext e
    have H2 := back H' e2 q
    refine wpAny_noE (asg s₂ v d hdm (Src.now hT hv) H2) fun _ s₃ q3 => ?_
    obtain ⟨H3, x3⟩ := q3
    have e3 := ext_T e2 x3 fun t ht => .inl ht
    have st3 := src.frame _ _ _ _ st2 H2.base x3
    refine wpAny_noE (bdy s₃ d hdm H3) fun f s₄ q4 => ?_
    obtain ⟨x4, q4⟩ := q4
    have e4 := ext_T e3 x4 fun t ht => .inl ht
    have st4 := src.frame _ _ _ _ st3 H3.base x4
    have split : ds.findSome? P = ((ds.take i).findSome? P).or ((P d).or ((ds.drop (i + 1)).findSome? P)) := by
      conv => lhs; rw [← List.take_append_drop i ds]
      rw [List.findSome?_append, List.drop_eq_getElem_cons hilt, List.findSome?_cons]
      have : ds[i] = d := by rw [List.getElem?_eq_getElem hilt] at hdi; exact Option.some.inj hdi
      rw [this]
      cases P d <;> rfl
    have hn0 : (ds.take i).findSome? P = none := List.findSome?_eq_none_iff.mpr hnone
    cases hp : P d with
    | some r =>
      rw [hp] at q4
      obtain ⟨u, rfl, hu⟩ := q4
      refine ⟨fin e4, ?_⟩
      rw [split, hn0, hp]
      exact ⟨u, rfl, hu⟩
    | none =>
      rw [hp] at q4
      obtain ⟨rfl, H4⟩ := q4
      refine ⟨ds.length - (i + 1), by omega, i + 1, rfl, hilt, fun d' hd' => ?_, st4, H4, e4⟩
      rw [List.take_add_one, hdi] at hd'
      rcases List.mem_append.mp hd' with q | q
      · exact hnone d' q
      · have : d' = d := by simpa using q
        rw [this]; exact hp
end
end Mine
end
section
open PySem PySem.W PyProof.Rows PySem.Builtin
set_option Elab.async false
set_option maxRecDepth 100000
namespace Mine

section
variable {w : World} {A : Around} {env : Env} {σ : List (Str × D)}

/-- a def with defaults -/
theorem fn_pureB {k : Nat} {f : Addr} {name qual : Str} {params : Arguments} {body : List Stmt} {scope : Scope} {dV kV doc pm cdv ct oc : Value} {an od : Option Addr} {osl : Array (Option Value)} {ds ds' : List D} {d : D}
    (ho : ∀ P, (hd.heap_39 P).lookup f = some ⟨oc, od, .func (fnX name qual params body scope [] dV kV doc pm an cdv ct), osl⟩)
    (hcd : codeIn (KB w.params) cdv qual = true)
    (hbind : ∀ s vs, Base w s → Vals s.heap ds vs → ∃ vs', BindsTo s (fnX name qual params body scope [] dV kV doc pm an cdv ct) ⟨vs, []⟩ ((params.args.map (·.arg)).zip vs') ∧ Vals s.heap ds' vs')
    (hlen : (params.args.map (·.arg)).length = ds'.length)
    (h : ∀ A L, Room k A → Body w A (envF qual scope L f cdv) ((params.args.map (·.arg)).zip ds') body d)
    (hf : (f == PH || f == PL) = false := by decide)
    (hkind : ((params.args.map (·.arg)).all fun y => scope.names.lookup y == some .local || scope.names.lookup y == some .cell) = true := by rfl)
    (hnd : (params.args.map (·.arg)).Nodup := by decide) (hloc : ((params.args.map (·.arg)).any fun y => scope.names.lookup y == some .local) = true := by rfl)
    (hco : scope.isCoroutine = false := by rfl) (hgen : scope.isGenerator = false := by rfl) (hk : scope.kind = .function := by rfl) : Fn w (k + 1) f ds d := by
  intro A s vs r B hv
  obtain ⟨vs', hb, hv'⟩ := hbind s vs B hv
  have hz := vals_names hv' hlen
  refine fn_enter B r (ho _) hcd hb (ds := ds') (by rw [hz.1]; exact hv') (fun L s₀ e hL H r' => ?_) hf ?_ (by rw [hz.2]; exact hnd) ?_ hco hgen hk
  · rw [hz.2] at H
    refine wpAny_noE (h _ L r' s₀ H) fun fl s' q => ?_
    obtain ⟨v, rfl, x, y⟩ := q
    exact ⟨v, rfl, ((e.wk0 x.own).trans x).drop (fun i hi => .inr (hL i hi)) (by simp), y⟩
  · refine List.all_eq_true.mpr fun y hy => List.all_eq_true.mp hkind y.1 ?_
    rw [← hz.2]; exact List.mem_map_of_mem hy
  · obtain ⟨y, hy, q⟩ := List.any_eq_true.mp hloc
    rw [← hz.2] at hy
    obtain ⟨p, hp, rfl⟩ := List.mem_map.mp hy
    exact List.any_eq_true.mpr ⟨p, hp, q⟩
/-- all arguments given, though there are defaults -/
theorem binds3 {fd : FuncData} {n m l : Str} {T : Addr} {o : Obj} {items : Array Value} {j : Nat} {ds : List D} {k : Value → Value → Value → Option (Array Value) → Sem (List (Str × Value))} (hdf : fd.defaults = .ref T) (ho : ∀ P, (hd.heap_39 P).lookup T = some o) (hs : o.data = .seq items j) (hT : (T == PH || T == PL) = false)
    (h₁ : ∀ v u x, bindArgs fd ⟨[v, u, x], []⟩ = seqItems? fd.defaults >>= k v u x) (h₂ : ∀ v u x, k v u x (some items) = pure [(n, v), (m, u), (l, x)]) (hl : ds.length = 3) :
    ∀ s vs, Base w s → Vals s.heap ds vs → ∃ vs', BindsTo s fd ⟨vs, []⟩ ([n, m, l].zip vs') ∧ Vals s.heap ds vs' := fun s vs B hv => by
  rw [Bool.or_eq_false_iff, beq_eq_false_iff_ne, beq_eq_false_iff_ne] at hT
  have hlen := hv.length
  rw [hl] at hlen
  refine ⟨vs, ?_, hv⟩
  obtain ⟨v, r, rfl⟩ := List.exists_cons_of_length_eq_add_one hlen
  obtain ⟨u, r, rfl⟩ := List.exists_cons_of_length_eq_add_one (show r.length = 2 by simpa using hlen)
  obtain ⟨x, rfl⟩ := List.length_eq_one_iff.mp (show r.length = 1 by simpa using hlen)
  exact BindsTo.of_defaults hdf (B.top _ _ (ho _) hT.1 hT.2) hs (h₁ v u x) (h₂ v u x)
theorem asg_name {x : Str} {px : Pos} {d : D} {v : Value} {s : Shared} (kl : env.kindOf x = some .local) (hf : env.func.isSome = true) (hv : Val s.heap d v) (H : Holds w env σ s) :
    wpAny (md w) A (assign (.Name x px) env v) (fun _ s' => Holds w env ((x, d) :: σ) s' ∧ Ext [env.locals] s s') noE s :=
  wpAny_assign_Name (H.store hv (.inl kl) (.inl hf) fun s' H' e _ _ _ => ⟨H', by unfold place at e; rw [kl] at e; exact e⟩)

theorem less1 {x : Str} {e : D} {σ : List (Str × D)} (hx : σ.lookup x = none) : ∀ y d, σ.lookup y = some d → ((x, e) :: σ).lookup y = some d := fun y d h => by
  rw [List.lookup_cons]
  have : (y == x) = false := by
    rw [beq_eq_false_iff_ne]; intro q; rw [q, hx] at h; cases h
  rw [this]; exact h
/-- if t: return e -/
theorem out_ifret {t e : Expr} {p1 p2 : Pos} {b : Bool} {d : D} {s : Shared} {σ0 : List (Str × D)} (ht : Tst w A env σ t b) (he : b = true → Ev w A env σ e d) (hless : ∀ y d, σ0.lookup y = some d → σ.lookup y = some d) (H : Holds w env σ s) :
    wpAny (md w) A (execs [.If t [.Return (some e) p1] [] p2] env) (Out w env σ0 s (if b then some d else none)) noE s := by
  have hL : ∀ i ∈ [env.locals], nTop ≤ i := fun i hi => by rw [List.mem_singleton.mp hi]; exact H.big _ (List.mem_cons_self ..)
  refine wpAny_execs_cons (wpAny_If (wpAny_noE (ht s H) fun c s₁ q => ?_))
  obtain ⟨rfl, x⟩ := q
  have H1 := H.ext x
  cases c with
  | true =>
    refine wpAny_execs_cons (wpAny_Return_some (wpAny_noE (he rfl s₁ H1) fun v s₂ q => ?_))
    exact ⟨(x.trans q.1).wk0 hL, v, rfl, q.2⟩
  | false => exact wpAny_execs_nil (wpAny_execs_nil ⟨x.wk0 hL, rfl, H1.less hless⟩)

theorem body_for {target iter : Expr} {body rest : List Stmt} {pos : Pos} {ds : List D} {bind : D → List (Str × D)} {P : D → Option D} {x0 : Str} {d0 d : D} (it : Iter w A env σ target iter ds) (hx0 : env.kindOf x0 = some .local) (hσ : σ.lookup x0 = some d0)
    (asg : ∀ s v d, d ∈ ds → Val s.heap d v → Holds w env σ s → wpAny (md w) A (assign target env v) (fun _ s' => Holds w env (bind d ++ σ) s' ∧ Ext [env.locals] s s') noE s)
    (bdy : ∀ s d, d ∈ ds → Holds w env (bind d ++ σ) s → wpAny (md w) A (execs body env) (Out w env σ s (P d)) noE s)
    (h1 : ∀ r, ds.findSome? P = some r → r = d) (h2 : ds.findSome? P = none → Body w A env σ rest d)
    (hs : ∀ x, foldedSetIterable iter env x = pure x := by intro _; rfl) : Body w A env σ (.For target iter body [] pos :: rest) d := fun s H => by
  have hL : ∀ i ∈ [env.locals], i ∈ own env := fun i hi => by rw [List.mem_singleton.mp hi]; exact List.mem_cons_self ..
  refine wpAny_execs_cons (wpAny_noE (for_row it hx0 hσ asg bdy hs s H) fun f s₁ q => ?_)
  obtain ⟨x, q⟩ := q
  cases e : ds.findSome? P with
  | some r =>
    rw [e] at q
    obtain ⟨v, rfl, hv⟩ := q
    rw [← h1 r e]
    exact ⟨v, rfl, x.wk hL H.big, hv⟩
  | none =>
    rw [e] at q
    obtain ⟨rfl, H1⟩ := q
    exact wpAny_noE (h2 e s₁ H1) fun f s₂ z => by
      obtain ⟨v, rfl, z1, z2⟩ := z
      exact ⟨v, rfl, (x.wk hL H.big).trans z1, z2⟩

/-- the first tag of a code -/
def firstOf (rs : List Row) (c : Int) : Option Row := rs.find? fun r => r.1 == c
theorem find_tags {rs : List Row} {c : Int} {g : Row → D} : (rs.map tagD).findSome? (fun d => match d with | .tag c' x => if c' == c then some (g (c', x)) else none | _ => none) = (firstOf rs c).map g := by
  unfold firstOf
  induction rs with
  | nil => rfl
  | cons r rs ih =>
    rw [List.map_cons, List.findSome?_cons, List.find?_cons]
    cases e : r.1 == c with
    | true => simp [e]
    | false => simp only [e, Bool.false_eq_true, if_false]; exact ih

theorem body_ifelse {t : Expr} {a b rest : List Stmt} {pos : Pos} {c : Bool} {d : D} (ht : Tst w A env σ t c) (h1 : c = true → Body w A env σ a d) (h2 : c = false → Body w A env σ b d) : Body w A env σ (.If t a b pos :: rest) d := fun s H => by
  refine wpAny_execs_cons (wpAny_If (wpAny_noE (ht s H) fun c' s₁ q => ?_))
  obtain ⟨rfl, x⟩ := q
  cases c' with
  | true => exact wpAny_noE (h1 rfl s₁ (H.ext x)) fun f s₂ z => by obtain ⟨v, rfl, z1, z2⟩ := z; exact ⟨v, rfl, (x.wk0 H.big).trans z1, z2⟩
  | false => exact wpAny_noE (h2 rfl s₁ (H.ext x)) fun f s₂ z => by obtain ⟨v, rfl, z1, z2⟩ := z; exact ⟨v, rfl, (x.wk0 H.big).trans z1, z2⟩

theorem cmp_is_str {x : Str} {a : Addr} : Cmp w A .Is (.str x) (.raw (.ref a)) false := by
  rintro _ _ s _ ⟨t, rfl⟩ rfl
  exact wpAny_bind (wpAny_pure (wpAny_pure ⟨rfl, Ext.refl s⟩))
theorem k_g_err (P : Params) : nsIn (KB P) mainGlobals "DXFValueError" = some (some (.ref cErr)) := by kernel_rfl
theorem ev_err {pos : Pos} (hx : env.kindOf "DXFValueError" = some .globalImplicit) : Ev w A env σ (.Name "DXFValueError" pos) (.raw (.ref cErr)) := ev_gl (gl_main hx (k_g_err _)) fun _ _ => rfl

theorem fn_first_val {k : Nat} {rs : List Row} {c : Int} {y : Str} (hz : rs.length ≤ 100) : Fn w (k + 3) 252 [tagsD rs, .int c, .str y] (.str (((firstOf rs c).map (·.2)).getD y)) := by
  refine fn_pureB (ds' := [tagsD rs, .int c, .str y]) (fun P => by k_is) (by kernel_rfl) (by exact binds3 rfl (fun P => by k_is) rfl (by decide) (fun v u x => rfl) (fun v u x => rfl) rfl) (by rfl) (by
    intro A L r
    refine body_for (bind := fun d => [("tag", d)]) (P := fun d => match d with | .tag c' x => if c' == c then some (.str x) else none | _ => none) (x0 := "self") (iter_tags r.handled (ev_name rfl)) rfl rfl (fun s v d _ hv H => asg_name rfl rfl hv H) (fun s d hd H => ?_) (fun q hq => ?_) (fun hq => ?_)
    · obtain ⟨r', hr', rfl⟩ := List.mem_map.mp hd
      exact out_ifret (tst_cmp (ev_code r (ev_name rfl)) (ev_name rfl) cmp_eq_int) (fun _ => ev_value r (ev_name rfl)) (less1 rfl) H
    · rw [find_tags (g := fun r => .str r.2)] at hq
      cases e : firstOf rs c with
      | none => rw [e] at hq; cases hq
      | some r => rw [e] at hq; cases hq; rfl
    · rw [find_tags (g := fun r => .str r.2)] at hq
      have e : firstOf rs c = none := by cases e : firstOf rs c with | none => rfl | some r => rw [e] at hq; cases hq
      rw [e]
      exact body_ifelse (tst_cmp (ev_name rfl) (ev_err rfl) cmp_is_str) (fun h => by cases h) (fun _ => body_ret (ev_name rfl)))
theorem fn_first_tag {k : Nat} {rs : List Row} {c : Int} {y : Str} (hz : rs.length ≤ 100) : Fn w (k + 3) 260 [tagsD rs, .int c, .str y] (((firstOf rs c).map tagD).getD (.str y)) := by
  refine fn_pureB (ds' := [tagsD rs, .int c, .str y]) (fun P => by k_is) (by kernel_rfl) (by exact binds3 rfl (fun P => by k_is) rfl (by decide) (fun v u x => rfl) (fun v u x => rfl) rfl) (by rfl) (by
    intro A L r
    refine body_for (bind := fun d => [("tag", d)]) (P := fun d => match d with | .tag c' x => if c' == c then some (.tag c' x) else none | _ => none) (x0 := "self") (iter_tags r.handled (ev_name rfl)) rfl rfl (fun s v d _ hv H => asg_name rfl rfl hv H) (fun s d hd H => ?_) (fun q hq => ?_) (fun hq => ?_)
    · obtain ⟨r', hr', rfl⟩ := List.mem_map.mp hd
      exact out_ifret (tst_cmp (ev_code r (ev_name rfl)) (ev_name rfl) cmp_eq_int) (fun _ => ev_name rfl) (less1 rfl) H
    · rw [find_tags (g := fun r => .tag r.1 r.2)] at hq
      cases e : firstOf rs c with
      | none => rw [e] at hq; cases hq
      | some r => rw [e] at hq; cases hq; rfl
    · rw [find_tags (g := fun r => .tag r.1 r.2)] at hq
      have e : firstOf rs c = none := by cases e : firstOf rs c with | none => rfl | some r => rw [e] at hq; cases hq
      rw [e]
      exact body_ifelse (tst_cmp (ev_name rfl) (ev_err rfl) cmp_is_str) (fun h => by cases h) (fun _ => body_ret (ev_name rfl)))
end
end Mine
end
section
open PySem PySem.W PyProof.Rows PySem.Builtin
set_option Elab.async false
set_option maxRecDepth 100000
namespace Mine

section
variable {w : World} {A : Around} {env : Env} {σ : List (Str × D)}

theorem k_m_clone0 (P : Params) : findIn (KB P) (.ref cTag) "clone" = some (some (.ref 134)) ∧ typeIn (KB P) (.ref 134) = some (.type "function") ∧ keepIn (KB P) (.ref 134) = true := ⟨by kernel_rfl, by kernel_rfl, by kernel_rfl⟩
theorem fn_clone0 {k : Nat} {c : Int} {x : Str} : Fn w (k + 1) 134 [.tag c x] (.tag c x) := by
  refine fn_pure (fun P => by k_is) (by kernel_rfl) (by exact one_arg fun v => rfl) (by rfl) (by exact fun A L r => body_ret (ev_name rfl))
theorem ev_clone0 {k : Nat} {o : Expr} {apos pos : Pos} {c : Int} {x : Str} {pl : Sem Bool} (ho : Ev w A env σ o (.tag c x)) (r : Room (k + 1) A)
    (he : eval (.Call (.Attribute o "clone" apos) [] [] pos) env = (do
      let ov ← eval o env
      standAt apos.atName
      let (f, first) ← holding [ov] (getMethod ov "clone" pl)
      callWith pos f first (backTo pos (starEach [] env)) (backToKw pos (keywordEach [] env))) := by rfl) : Ev w A env σ (.Call (.Attribute o "clone" apos) [] [] pos) (.tag c x) := fun s H => by
  refine eval_meth (wpAny_noE (ho s H) fun v s₁ q1 => ?_) he
  have hv := q1.2
  obtain ⟨a, t, u, dx, m, rfl, g, gd⟩ := hv
  have B1 := H.base.ext q1.1
  refine meth_get B1 (inst_tag g gd) (k_tag_ga _) can_obj (k_tag_g _) (k_m_clone0 _).1 (k_m_clone0 _).2.1 (by decide) rfl ?_
  refine callW (callee_K (k_m_clone0 _).2.2) (ds := []) rfl (H.ext q1.1) rfl fun vs s₂ e H' hv => ?_
  rw [show vs = [] from hv]
  exact wpAny_noE (wpAny_fn (fn_clone0 (k := k) (c := c) (x := x)) r H'.base ⟨_, _, rfl, e.val0 B1 q1.2, rfl⟩) fun u s₃ z => ⟨(q1.1.trans e).trans z.1, z.2⟩

/-- a def whose answer is new -/
def FnF (w : World) (k : Nat) (f : Addr) (ds : List D) (d : D) : Prop :=
  ∀ (A : Around) (s : Shared) (vs : List Value), Room k A → Base w s → Vals s.heap ds vs → codeAny (md w) A (.call (.ref f) ⟨vs, []⟩) (fun r s' => ∃ v, r = .ok (.ret v) ∧ Ok s d v s' ∧ ∃ a, v = .ref a ∧ New s a) s
def BodyF (w : World) (A : Around) (env : Env) (σ : List (Str × D)) (body : List Stmt) (d : D) : Prop :=
  ∀ s, Holds w env σ s → wpAny (md w) A (execs body env) (fun f s' => ∃ v, f = .ret v ∧ Ext (own env) s s' ∧ Val s'.heap d v ∧ ∃ a, v = .ref a ∧ New s a) noE s
theorem bodyF_ret {e : Expr} {pos : Pos} {rest : List Stmt} {d : D} (h : EvF w A env σ e d) : BodyF w A env σ (.Return (some e) pos :: rest) d := fun s H =>
  wpAny_execs_cons (wpAny_Return_some (wpAny_mono (h s H) (fun v s' q => ⟨v, rfl, q.1.1.wk0 H.big, q.1.2, q.2⟩) fun _ _ f => f))
theorem fn_new {k : Nat} {f : Addr} {name qual : Str} {params : Arguments} {body : List Stmt} {scope : Scope} {dV kV doc pm cdv ct oc : Value} {an od : Option Addr} {osl : Array (Option Value)} {ds : List D} {d : D}
    (ho : ∀ P, (hd.heap_39 P).lookup f = some ⟨oc, od, .func (fnX name qual params body scope [] dV kV doc pm an cdv ct), osl⟩)
    (hcd : codeIn (KB w.params) cdv qual = true)
    (hbind : ∀ vs : List Value, vs.length = ds.length → bindArgs (fnX name qual params body scope [] dV kV doc pm an cdv ct) ⟨vs, []⟩ = pure ((params.args.map (·.arg)).zip vs))
    (hlen : (params.args.map (·.arg)).length = ds.length)
    (h : ∀ A L, Room k A → BodyF w A (envF qual scope L f cdv) ((params.args.map (·.arg)).zip ds) body d)
    (hf : (f == PH || f == PL) = false := by decide)
    (hkind : ((params.args.map (·.arg)).all fun y => scope.names.lookup y == some .local || scope.names.lookup y == some .cell) = true := by rfl)
    (hnd : (params.args.map (·.arg)).Nodup := by decide) (hloc : ((params.args.map (·.arg)).any fun y => scope.names.lookup y == some .local) = true := by rfl)
    (hco : scope.isCoroutine = false := by rfl) (hgen : scope.isGenerator = false := by rfl) (hk : scope.kind = .function := by rfl) : FnF w (k + 1) f ds d := by
  intro A s vs r B hv
  have hz := vals_names hv hlen
  refine fn_enter B r (ho _) hcd (BindsTo.of_eq (hbind vs hv.length)) (ds := ds) (by rw [hz.1]; exact hv) (fun L s₀ e hL H r' => ?_) hf ?_ (by rw [hz.2]; exact hnd) ?_ hco hgen hk
  · rw [hz.2] at H
    refine wpAny_noE (h _ L r' s₀ H) fun fl s' q => ?_
    obtain ⟨v, rfl, x, y, a, q1, q2⟩ := q
    exact ⟨v, rfl, ⟨((e.wk0 x.own).trans x).drop (fun i hi => .inr (hL i hi)) (by simp), y⟩, a, q1, B.newer e q2⟩
  · refine List.all_eq_true.mpr fun y hy => List.all_eq_true.mp hkind y.1 ?_
    rw [← hz.2]; exact List.mem_map_of_mem hy
  · obtain ⟨y, hy, q⟩ := List.any_eq_true.mp hloc
    rw [← hz.2] at hy
    obtain ⟨p, hp, rfl⟩ := List.mem_map.mp hy
    exact List.any_eq_true.mpr ⟨p, hp, q⟩
theorem evF_meth {k : Nat} {o : Expr} {name : Str} {apos pos : Pos} {es : List Expr} {ts ds : List D} {d : D} {f : Addr} {t : Value} {pl : Sem Bool} (ho : Ev w A env σ o (.tags ts)) (m : TMeth w name (.ref f) t) (hk : keepIn (KB w.params) (.ref f) = true) (hes : Evs w A env σ es ds) (hf : FnF w k f (.tags ts :: ds) d) (r : Room k A)
    (hst : noStar es = true := by rfl)
    (he : eval (.Call (.Attribute o name apos) es [] pos) env = (do
      let ov ← eval o env
      standAt apos.atName
      let (f, first) ← holding [ov] (getMethod ov name pl)
      callWith pos f first (backTo pos (starEach es env)) (backToKw pos (keywordEach [] env))) := by rfl) : EvF w A env σ (.Call (.Attribute o name apos) es [] pos) d := fun s H => by
  refine eval_meth (wpAny_noE (ho s H) fun v s₁ q1 => tmeth m (H.base.ext q1.1) q1.2 ?_) he
  refine callW (callee_K hk) hes (H.ext q1.1) hst fun vs s₂ e H' hv => ?_
  refine wpAny_call (codeAny_mono (hf A s₂ (v :: vs) r H'.base ⟨v, vs, rfl, e.val0 (H.base.ext q1.1) q1.2, hv⟩) fun rr s₃ z => ?_)
  obtain ⟨u, rfl, z, a, z1, z2⟩ := z
  exact ⟨⟨(q1.1.trans e).trans z.1, z.2⟩, a, z1, H.base.newer (q1.1.trans e) z2⟩

theorem fn_copy {k : Nat} {rs : List Row} (hz : rs.length ≤ 100) : FnF w (k + 3) 209 [tagsD rs] (tagsD rs) := by
  have hb : tagsD rs = .tags ((rs.filter fun _ => true).map tagD) := by rw [List.filter_eq_self.mpr fun _ _ => rfl]
  conv => arg 5; rw [hb]
  refine fn_new (fun P => by k_is) (by kernel_rfl) (by exact one_arg fun v => rfl) (by rfl) (by
    intro A L r
    refine bodyF_ret (evF_tags rfl (EvF.ev (comp_tags (fun _ => true) tagD (iter_tags r.handled (ev_name rfl)) hz ?_ ?_ (fun q => rfl))) (filt_len hz) (flat_tags _))
    · exact fun C q hq => rfl
    · exact fun C q hq _ => ev_clone0 (ev_name rfl) r)
theorem m_copy (w : World) : TMeth w "__copy__" (.ref 209) (.type "function") := ⟨by kernel_rfl, by kernel_rfl, rfl⟩
theorem k_keep_copy (P : Params) : keepIn (KB P) (.ref 209) = true ∧ keepIn (KB P) (.ref 216) = true := ⟨by kernel_rfl, by kernel_rfl⟩
theorem fn_clone {k : Nat} {rs : List Row} (hz : rs.length ≤ 100) : FnF w (k + 4) 216 [tagsD rs] (tagsD rs) := by
  refine fn_new (fun P => by k_is) (by kernel_rfl) (by exact one_arg fun v => rfl) (by rfl) (by
    intro A L r
    exact bodyF_ret (evF_meth (ev_name rfl) (m_copy _) (k_keep_copy _).1 (ds := []) rfl (fn_copy hz) r))
end
end Mine
end
section
open PySem PySem.W PyProof.Rows PySem.Builtin PySem.MeetsSeq PySem.MeetsSeq2 PySem.MeetsSeq3
set_option Elab.async false
set_option maxRecDepth 100000
namespace Mine

/-- the two are equal, as the program's own == says -/
def EqV (w : World) (A : Around) (a b : D) : Prop :=
  ∀ u v s, Base w s → Val s.heap a u → Val s.heap b v → wpAny (md w) A (eqBool u v) (fun r s' => r = true ∧ Ext [] s s') noE s
def EqVs (w : World) (A : Around) : List D → List D → Prop
  | [], [] => True
  | a :: as, b :: bs => EqV w A a b ∧ EqVs w A as bs
  | _, _ => False
theorem EqVs.length {w : World} {A : Around} : ∀ {as bs : List D}, EqVs w A as bs → as.length = bs.length
  | [], [], _ => rfl
  | _ :: _, _ :: _, h => by rw [List.length_cons, List.length_cons, h.2.length]
  | [], _ :: _, h => h.elim
  | _ :: _, [], h => h.elim
theorem EqVs.get {w : World} {A : Around} : ∀ {as bs : List D} {i : Nat} {a b : D}, EqVs w A as bs → as[i]? = some a → bs[i]? = some b → EqV w A a b
  | _ :: _, _ :: _, 0, _, _, h, e1, e2 => by simp at e1 e2; subst e1 e2; exact h.1
  | _ :: _, _ :: _, i + 1, _, _, h, e1, e2 => EqVs.get (i := i) h.2 (by simpa using e1) (by simpa using e2)
  | [], _, _, _, _, _, e, _ => by simp at e
  | _ :: _, [], _, _, _, h, _, _ => h.elim

section
variable {w : World} {A : Around} {s : Shared}

theorem eq_loop {q : Nat} (hq : q = 2 ∨ q = 3) {l b : Addr} {us vs : List Value} {as bs : List D} {c1 c2 : Value} {d1 d2 : Option Addr} {n1 n2 : Nat} {s1 s2 : Array (Option Value)} (h1 : c1 ≠ .none) (h2 : c2 ≠ .none) (he : EqVs w A.in1 as bs) :
    ∀ (k i : Nat) (s : Shared), as.length - i = k → i ≤ as.length → Base w s → s.heap.get? l = some ⟨c1, d1, .seq us.toArray n1, s1⟩ → s.heap.get? b = some ⟨c2, d2, .seq vs.toArray n2, s2⟩ → Vals s.heap as us → Vals s.heap bs vs →
      codeAny (md w) A (.builtin "list.__eq__.loop" ⟨[.ref l, .ref b, rawInt i, rawInt q], []⟩) (fun r s' => r = .ok (.ret (.bool (q == 2))) ∧ Ext [] s s') s := by
  intro k
  induction k with
  | zero =>
    intro i s hk hi B hl hb hu hv
    have hin : i = as.length := by omega
    have e1 := hu.length
    have e2 := hv.length
    have e3 := he.length
    refine codeAny_builtin entry_eq_loop ?_
    rw [Around.under_plainId plain_eq_loop _]
    obtain ⟨hp, g, d, tk, os⟩ := s
    dsimp only at hl hb
    have hi1 : us.toArray[((i : Nat) : Int).toNat]? = none := by simp; omega
    have hi2 : vs.toArray[((i : Nat) : Int).toNat]? = none := by simp; omega
    have hsz : us.toArray.size = vs.toArray.size := by simp; omega
    rcases hq with rfl | rfl
    · wp_walk using AutoSeq1.wpAny_loadPart' hl, AutoSeq1.wpAny_loadPart' hb
      rw [hi1, hi2]
      wp_walk using AutoSeq1.wpAny_loadPart' hl, AutoSeq1.wpAny_loadPart' hb
      refine ⟨?_, Ext.refl _⟩
      show Except.ok (Flow.ret (.bool (us.toArray.size == vs.toArray.size))) = _
      rw [hsz]; simp
    · wp_walk using AutoSeq1.wpAny_loadPart' hl, AutoSeq1.wpAny_loadPart' hb
      rw [hi1, hi2]
      wp_walk using AutoSeq1.wpAny_loadPart' hl, AutoSeq1.wpAny_loadPart' hb
      refine ⟨?_, Ext.refl _⟩
      show Except.ok (Flow.ret (.bool (us.toArray.size != vs.toArray.size))) = _
      rw [hsz]; simp
  | succ k ih =>
    intro i s hk hi B hl hb hu hv
    have hlt : i < as.length := by omega
    have e3 := he.length
    have ha := List.getElem?_eq_getElem hlt
    have hb' := List.getElem?_eq_getElem (show i < bs.length by omega)
    obtain ⟨u, hui, huv⟩ := hu.get ha
    obtain ⟨v, hvi, hvv⟩ := hv.get hb'
    have ev := he.get ha hb' u v s B huv hvv
    refine codeAny_builtin entry_eq_loop ?_
    rw [Around.under_plainId plain_eq_loop _]
    have hi1 : us.toArray[((i : Nat) : Int).toNat]? = some u := by simpa using hui
    have hi2 : vs.toArray[((i : Nat) : Int).toNat]? = some v := by simpa using hvi
    have hc : ((i : Int) + 1) = ((i + 1 : Nat) : Int) := by push_cast; rfl
    have next : ∀ s', Ext [] s s' → codeAny (md w) A (.builtin "list.__eq__.loop" ⟨[.ref l, .ref b, rawInt ((i + 1 : Nat) : Int), rawInt q], []⟩) (fun r s'' => r = .ok (.ret (.bool (q == 2))) ∧ Ext [] s s'') s' := fun s' x => by
      refine codeAny_mono (ih (i + 1) s' (by omega) hlt (B.ext x) (x.at0 B hl h1) (x.at0 B hb h2) (x.vals0 B hu) (x.vals0 B hv)) fun r s'' z => ⟨z.1, x.trans z.2⟩
    obtain ⟨hp, g, d, tk, os⟩ := s
    dsimp only at hl hb
    rcases hq with rfl | rfl
    · wp_walk using AutoSeq1.wpAny_loadPart' hl, AutoSeq1.wpAny_loadPart' hb
      rw [hi1, hi2]
      refine wpAny_bind (wpAny_noE ev fun r s' z => ?_)
      obtain ⟨rfl, x⟩ := z
      wp_walk
      rw [hc]
      exact ⟨plainId_quiet plain_eq_loop _, next s' x⟩
    · wp_walk using AutoSeq1.wpAny_loadPart' hl, AutoSeq1.wpAny_loadPart' hb
      rw [hi1, hi2]
      refine wpAny_bind (wpAny_noE ev fun r s' z => ?_)
      obtain ⟨rfl, x⟩ := z
      wp_walk
      rw [hc]
      exact ⟨plainId_quiet plain_eq_loop _, next s' x⟩
end
end Mine
end
section
open PySem PySem.W PyProof.Rows PySem.Builtin PySem.MeetsSeq PySem.MeetsSeq2 PySem.MeetsSeq3 PySem.SeqAt
set_option Elab.async false
set_option maxRecDepth 100000
namespace Mine

abbrev rowD (r : Row) : D := .tup [.int r.1, .str r.2]
abbrev rowsD (rs : List Row) : D := .list (rs.map rowD)

section
variable {w : World} {A : Around} {s : Shared} {a b l : Addr} {E : Value → Shared → Prop}

theorem lst_inst {vs : List Value} {n : Nat} (g : s.heap.get? l = some (listO vs n)) : Looks (md w) s.heap (isInstance (.ref l) (.type "list")) true :=
  ((Looks.ld (part := none) g).andThen .now).andThen (Looks.of_pure (by exact AutoSeq1.sub_list_list))

theorem eq_run {us vs : List Value} {as bs : List D} {c1 : Value} {d1 : Option Addr} {n1 n2 : Nat} {s1 : Array (Option Value)} (h1 : c1 ≠ .none) (he : EqVs w A.in1 as bs) (B : Base w s)
    (hl : s.heap.get? l = some ⟨c1, d1, .seq us.toArray n1, s1⟩) (hli : Looks (md w) s.heap (isInstance (.ref l) (.type "list")) true) (hb : s.heap.get? b = some (listO vs n2)) (hu : Vals s.heap as us) (hv : Vals s.heap bs vs) :
    wpAny (md w) A (call (.builtin "list.__eq__") [.ref l, .ref b]) (fun r s' => r = .bool true ∧ Ext [] s s') noE s := by
  have loop := eq_loop (A := A) (.inl rfl) (c2 := .type "list") h1 (by simp) he as.length 0 s (by simp) (Nat.zero_le _) B hl hb hu hv
  refine wpAny_call (codeAny_call_builtin F.slot_list_eq.plain F.entry_list_eq (check_slot (owner := "list") (n := "__eq__") (by decide +kernel) (by decide +kernel) hli (F.args_list_eq_2 _ _) ?_))
  have hsz : us.toArray.size = vs.toArray.size := by have := hu.length; have := hv.length; have := he.length; simp; omega
  obtain ⟨hp, g, d, tk, os⟩ := s
  dsimp only at hl hb
  have f3 := AutoSeq1.sub_list_list
  have hne : ¬ (us.toArray.size != vs.toArray.size) = true := by simp only [hsz, bne_self_eq_false]; exact Bool.false_ne_true
  wp_walk using AutoSeq1.wpAny_loadPart' hl, AutoSeq1.wpAny_loadPart' hb
  refine ⟨plainId_quiet plain_eq_loop _, codeAny_mono loop fun r s' z => ?_⟩
  rw [z.1]; exact ⟨rfl, z.2⟩
theorem ne_run {us vs : List Value} {as bs : List D} {c1 : Value} {d1 : Option Addr} {n1 n2 : Nat} {s1 : Array (Option Value)} (h1 : c1 ≠ .none) (he : EqVs w A.in1 as bs) (B : Base w s)
    (hl : s.heap.get? l = some ⟨c1, d1, .seq us.toArray n1, s1⟩) (hli : Looks (md w) s.heap (isInstance (.ref l) (.type "list")) true) (hb : s.heap.get? b = some (listO vs n2)) (hu : Vals s.heap as us) (hv : Vals s.heap bs vs) :
    wpAny (md w) A (call (.builtin "list.__ne__") [.ref l, .ref b]) (fun r s' => r = .bool false ∧ Ext [] s s') noE s := by
  have loop := eq_loop (A := A) (.inr rfl) (c2 := .type "list") h1 (by simp) he as.length 0 s (by simp) (Nat.zero_le _) B hl hb hu hv
  refine wpAny_call (codeAny_call_builtin F.slot_list_ne.plain F.entry_list_ne (check_slot (owner := "list") (n := "__ne__") (by decide +kernel) (by decide +kernel) hli (F.args_list_ne_2 _ _) ?_))
  have hsz : us.toArray.size = vs.toArray.size := by have := hu.length; have := hv.length; have := he.length; simp; omega
  obtain ⟨hp, g, d, tk, os⟩ := s
  dsimp only at hl hb
  have f3 := AutoSeq1.sub_list_list
  have hne : ¬ (us.toArray.size != vs.toArray.size) = true := by simp only [hsz, bne_self_eq_false]; exact Bool.false_ne_true
  wp_walk using AutoSeq1.wpAny_loadPart' hl, AutoSeq1.wpAny_loadPart' hb
  refine ⟨plainId_quiet plain_eq_loop _, codeAny_mono loop fun r s' z => ?_⟩
  rw [z.1]; exact ⟨rfl, z.2⟩

/-- a row compared by its class's own way -/
theorem cmp_own {op : CmpOp} {x C : Addr} {tb : Value} {ox : Obj} {od : Option Obj} {bv : Value} {Q : Value → Shared → Prop} (B : Base w s) (hu : A.units < cLine) (I : InstAt s.heap x ox C od) (hb : Looks (md w) s.heap (typeOf bv) tb)
    (hn : subIn (KB w.params) tb (.ref C) = some false)
    (hs : wpAny (md w) A (callSpecialIfBound? (.ref x) (cmpInfo op).2.1 [bv]) (fun r s' => ∃ k, r = some (.bool k) ∧ Q (.bool k) s') E s) : wpAny (md w) A (richCompare op (.ref x) bv) Q E s := by
  have one : wpAny (md w) A (tryCompare (.ref x) (cmpInfo op).2.1 bv) (fun r s' => ∃ k, r = some (.bool k) ∧ Q (.bool k) s') E s := by
    unfold tryCompare
    refine wpAny_bind (wpAny_mono hs (fun v s' hv => ?_) fun _ _ e => e)
    obtain ⟨k, rfl, q⟩ := hv
    exact wpAny_pure ⟨k, rfl, q⟩
  unfold richCompare
  simp only [oneThing_ref]
  refine wpAny_holding (wpAny_bind (wpAny_cRoomFor hu ?_))
  refine wpAny_bind (I.type.here (wpAny_bind (hb.here ?_)))
  split
  · refine wpAny_bind ((looks_subIn B.KB hn).here ?_)
    simp only [Bool.false_eq_true, if_false]
    refine wpAny_bind (wpAny_mono one (fun r s' z => ?_) fun _ _ e => e)
    obtain ⟨v, rfl, hq⟩ := z
    exact wpAny_pure hq
  · refine wpAny_bind (wpAny_pure ?_)
    simp only [Bool.false_eq_true, if_false]
    refine wpAny_bind (wpAny_mono one (fun r s' z => ?_) fun _ _ e => e)
    obtain ⟨v, rfl, hq⟩ := z
    exact wpAny_pure hq
theorem ifBound_bi {x C : Addr} {name : Str} {T id : String} {ox : Obj} {od : Option Obj} {args : List Value} {Q : Option Value → Shared → Prop} (B : Base w s) (I : InstAt s.heap x ox C od) (hs : findIn (KB w.params) (.ref C) name = some (some (.builtin id))) (sl : Slot T name id)
    (h : wpAny (md w) A (call (.builtin id) (.ref x :: args)) (fun v => Q (some v)) E s) : wpAny (md w) A (callSpecialIfBound? (.ref x) name args) Q E s := by
  simp only [callSpecialIfBound?, bindSpecialIfBound?]
  refine wpAny_holding (wpAny_bind (wpAny_bind (wpAny_bind (I.type.here ((looks_findIn B.KB hs).here ?_)))))
  simp only [sl.bind]
  refine wpAny_bind (wpAny_askSetting (wpAny_ite ?_))
  have fin : wpAny (md w) A (call (.builtin id) ([.ref x] ++ args) >>= fun v => pure (some v)) Q E s := wpAny_bind (wpAny_mono h (fun v s' h' => wpAny_pure h') fun _ _ h' => h')
  split
  · exact wpAny_bind (wpAny_pure (wpAny_pure fin))
  · exact wpAny_tryCatch (wpAny_bind (wpAny_pure (wpAny_pure fin)))
theorem k_s_eq (P : Params) : findIn (KB P) (.ref cTags) "__eq__" = some (some (.builtin "list.__eq__")) := by kernel_rfl
theorem k_s_ne (P : Params) : findIn (KB P) (.ref cTags) "__ne__" = some (some (.builtin "list.__ne__")) := by kernel_rfl
theorem k_sub_lt (P : Params) : subIn (KB P) (.type "list") (.ref cTags) = some false := by kernel_rfl
theorem k_sub_tt (P : Params) : subIn (KB P) (.type "tuple") (.ref cTag) = some false := by kernel_rfl
theorem ty_ref {o : Obj} {x : Addr} (g : s.heap.get? x = some o) : Looks (md w) s.heap (typeOf (.ref x)) o.cls := (Looks.ld (part := none) g).andThen .now

theorem cmp_eq_lists {as bs : List D} (he : EqVs w A.in1 as bs) (hu : A.units < cLine) : Cmp w A .Eq (.list as) (.list bs) true := by
  rintro _ _ s B ⟨a, us, n, rfl, g, hvu⟩ ⟨b, vs, m, rfl, g', hv⟩
  exact wpAny_richCompare_same_room (op := .Eq) ⟨_, g, rfl⟩ ⟨_, g', rfl⟩ F.slot_list_eq (wpAny_noE (eq_run (by simp) he B g (lst_inst g) g' hvu hv) fun r s' z => ⟨by rw [z.1]; nofun, z⟩) hu
theorem cmp_ne_lists {as bs : List D} (he : EqVs w A.in1 as bs) (hu : A.units < cLine) : Cmp w A .NotEq (.list as) (.list bs) false := by
  rintro _ _ s B ⟨a, us, n, rfl, g, hvu⟩ ⟨b, vs, m, rfl, g', hv⟩
  exact wpAny_richCompare_same_room (op := .NotEq) ⟨_, g, rfl⟩ ⟨_, g', rfl⟩ F.slot_list_ne (wpAny_noE (ne_run (by simp) he B g (lst_inst g) g' hvu hv) fun r s' z => ⟨by rw [z.1]; nofun, z⟩) hu
theorem cmp_eq_tags {as bs : List D} (he : EqVs w A.in1 as bs) (hu : A.units < cLine) : Cmp w A .Eq (.tags as) (.list bs) true := by
  rintro _ _ s B ⟨a, us, n, dx, k, rfl, g, gd, hvu⟩ ⟨b, vs, m, rfl, g', hv⟩
  exact cmp_own (op := .Eq) B hu (inst_tags g gd) (ty_ref g') (k_sub_lt _) (ifBound_bi B (inst_tags g gd) (k_s_eq _) F.slot_list_eq (wpAny_noE (eq_run (by simp) he B g (tags_inst B g) g' hvu hv) fun r s' z => ⟨true, by rw [z.1], rfl, z.2⟩))
theorem cmp_ne_tags {as bs : List D} (he : EqVs w A.in1 as bs) (hu : A.units < cLine) : Cmp w A .NotEq (.tags as) (.list bs) false := by
  rintro _ _ s B ⟨a, us, n, dx, k, rfl, g, gd, hvu⟩ ⟨b, vs, m, rfl, g', hv⟩
  exact cmp_own (op := .NotEq) B hu (inst_tags g gd) (ty_ref g') (k_sub_lt _) (ifBound_bi B (inst_tags g gd) (k_s_ne _) F.slot_list_ne (wpAny_noE (ne_run (by simp) he B g (tags_inst B g) g' hvu hv) fun r s' z => ⟨false, by rw [z.1], rfl, z.2⟩))

def isRefD : D → Bool
  | .tup _ => true
  | .list _ => true
  | .tags _ => true
  | .tag .. => true
  | _ => false
theorem isRefD_ref {h : Heap} {d : D} {v : Value} (r : isRefD d = true) (hv : Val h d v) : ∃ a, v = .ref a := by
  cases d with
  | tup _ => obtain ⟨a, _, _, e, _⟩ := hv; exact ⟨a, e⟩
  | list _ => obtain ⟨a, _, _, e, _⟩ := hv; exact ⟨a, e⟩
  | tags _ => obtain ⟨a, _, _, _, _, e, _⟩ := hv; exact ⟨a, e⟩
  | tag _ _ => obtain ⟨a, _, _, _, _, e, _⟩ := hv; exact ⟨a, e⟩
  | _ => cases r
theorem eqV_of {a b : D} (h : Cmp w A .Eq a b true) (h1 : isRefD a = true) (h2 : isRefD b = true) : EqV w A a b := by
  intro u v s B hu hv
  have k := h u v s B hu hv
  obtain ⟨x, rfl⟩ := isRefD_ref h1 hu
  obtain ⟨y, rfl⟩ := isRefD_ref h2 hv
  unfold eqBool
  refine wpAny_holding ?_
  refine wpAny_ite_split (fun _ => wpAny_bind (wpAny_rule (wpAny_pure ⟨rfl, Ext.refl s⟩))) (fun _ => ?_)
  refine wpAny_bind (wpAny_noE k fun r s' z => ?_)
  rw [z.1]
  exact wpAny_truthy_bool ⟨rfl, z.2⟩
theorem eqV_int {i : Int} : EqV w A (.int i) (.int i) := by
  rintro _ _ s B ⟨t, rfl⟩ ⟨u, rfl⟩; exact wpAny_eqBool_int ⟨by simp, Ext.refl s⟩
theorem eqV_str {x : Str} : EqV w A (.str x) (.str x) := by
  rintro _ _ s B ⟨t, rfl⟩ ⟨u, rfl⟩; exact wpAny_eqBool_str ⟨by simp, Ext.refl s⟩

/-! rows -/
theorem eqAt_row {r q : Row} {u v : Value} (hu : A.units + 1 < cLine) (h1 : Val s.heap (rowD r) u) (h2 : Val s.heap (rowD q) v) : EqAt A s u v (r == q) := by
  obtain ⟨a, us, n, rfl, g, hus⟩ := h1
  obtain ⟨b, vs, m, rfl, g', hvs⟩ := h2
  obtain ⟨_, _, rfl, ⟨t1, rfl⟩, _, _, rfl, ⟨t2, rfl⟩, hr⟩ := hus
  obtain ⟨_, _, rfl, ⟨t3, rfl⟩, _, _, rfl, ⟨t4, rfl⟩, hr'⟩ := hvs
  rw [show _ = [] from hr] at g
  rw [show _ = [] from hr'] at g'
  by_cases hab : a = b
  · subst hab
    rw [g] at g'
    simp only [Option.some.injEq, Obj.mk.injEq, true_and, and_true, Data.seq.injEq] at g'
    have e := congrArg Array.toList g'.1
    simp only [List.cons.injEq, Value.int.injEq, Value.str.injEq] at e
    have : r = q := Prod.ext e.1.1 e.2.1.1
    rw [this, beq_self_eq_true]
    exact EqAt.same _
  · have e : (r == q) = ((List.range (min 2 2)).all (fun j => if j = 0 then r.1 == q.1 else r.2 == q.2) && 2 == 2) := by
      rw [show (r == q) = (r.1 == q.1 && r.2 == q.2) from rfl]
      simp [List.range, List.range.loop]
    rw [e]
    refine EqAt.of_refs hab (RcAt.tuples (items := #[.int r.1 t1, .str r.2 t2]) (items2 := #[.int q.1 t3, .str q.2 t4]) ⟨_, g, rfl, n, rfl⟩ ⟨_, g', rfl, m, rfl⟩ (by omega) fun j hj _ => ?_)
    match j, hj with
    | 0, _ => exact (EqGives.int _ _ _ _).at _ _
    | 1, _ => exact (PyProof.Rows.eqGives_str _ _ _ _).at _ _
theorem eqV_row {r : Row} (hu : A.units + 1 < cLine) : EqV w A (rowD r) (rowD r) := fun u v s B h1 h2 => by
  refine eqAt_row hu h1 h2 _ _ _ _ ⟨by simp, Ext.refl s⟩
theorem cmp_eq_row {r : Row} (hu : A.units + 1 < cLine) : Cmp w A .Eq (rowD r) (rowD r) true := by
  rintro _ _ s B ⟨a, us, n, rfl, g, hus⟩ ⟨b, vs, m, rfl, g', hvs⟩
  obtain ⟨_, _, rfl, ⟨t1, rfl⟩, _, _, rfl, ⟨t2, rfl⟩, hr⟩ := hus
  obtain ⟨_, _, rfl, ⟨t3, rfl⟩, _, _, rfl, ⟨t4, rfl⟩, hr'⟩ := hvs
  rw [show _ = [] from hr] at g
  rw [show _ = [] from hr'] at g'
  refine eq_tupleAt (items := #[.int r.1 t1, .str r.2 t2]) (items2 := #[.int r.1 t3, .str r.2 t4]) (e := fun _ => true) ⟨_, g, rfl, n, rfl⟩ ⟨_, g', rfl, m, rfl⟩ (by omega) (fun j hj _ => ?_) ⟨by simp, Ext.refl s⟩
  match j, hj with
  | 0, _ => have := (EqGives.int r.1 r.1 t1 t3).at A.in1 s; rwa [beq_self_eq_true] at this
  | 1, _ => have := (PyProof.Rows.eqGives_str r.2 r.2 t2 t4).at A.in1 s; rwa [beq_self_eq_true] at this

/-! a tag and a row -/
theorem fn_eq {k : Nat} {r : Row} : Fn w (k + 4) 113 [tagD r, rowD r] (.bool true) := by
  refine fn_pure (fun P => by k_is) (by kernel_rfl) (by exact two_arg fun v u => rfl) (by rfl) (by
    intro A L rr
    exact body_ret (ev_cmp (ev_tuple (evs2 (ev__code (ev_name rfl)) (ev_value (rr.mono (by omega : k + 2 ≤ k + 3)) (ev_name rfl)))) (ev_name rfl) (cmp_eq_row (by have := rr.units; show _ < 9900; omega))))
theorem k_t_eq (P : Params) : findIn (KB P) (.ref cTag) "__eq__" = some (some (.ref 113)) := by kernel_rfl
theorem k_t_eqf (P : Params) : isFn (KB P) (.ref 113) = true := by kernel_rfl
theorem k_t_ne (P : Params) : findIn (KB P) (.ref cTag) "__ne__" = some (some (.builtin "object.__ne__")) := by kernel_rfl
theorem k_t_obj (P : Params) : subIn (KB P) (.ref cTag) (.type "object") = some true := by kernel_rfl
theorem cmp_eq_tag {k : Nat} {r : Row} (rm : Room (k + 4) A) : Cmp w A .Eq (tagD r) (rowD r) true := by
  intro u v s B hu hv
  have hu' := hu
  obtain ⟨a, t, x, dx, m, rfl, g, gd⟩ := hu'
  obtain ⟨b, vs, n, rfl, g', hvs⟩ := id hv
  refine cmp_own (op := .Eq) B rm.cline (inst_tag g gd) (ty_ref g') (k_sub_tt _) (ifBound_K B.KB (inst_tag g gd) (k_t_eq _) (k_t_eqf _) (wpAny_noE (wpAny_fn (fn_eq (k := k) (r := r)) rm B ⟨_, _, rfl, hu, _, _, rfl, hv, rfl⟩) fun r s' z => ?_))
  exact ⟨true, by rw [show r = _ from z.2], rfl, z.1⟩
theorem eqV_tag {k : Nat} {r : Row} (rm : Room (k + 4) A) : EqV w A (tagD r) (rowD r) := eqV_of (cmp_eq_tag rm) rfl rfl
theorem eqVs_tags {k : Nat} (rm : Room (k + 4) A) : ∀ {rs : List Row}, EqVs w A (rs.map tagD) (rs.map rowD)
  | [] => trivial
  | _ :: _ => ⟨eqV_tag rm, eqVs_tags rm⟩
theorem eqVs_rows (hu : A.units + 1 < cLine) : ∀ {rs : List Row}, EqVs w A (rs.map rowD) (rs.map rowD)
  | [] => trivial
  | _ :: _ => ⟨eqV_row hu, eqVs_rows hu⟩
theorem eqVs_ints : ∀ {ns : List Int}, EqVs w A (ns.map .int) (ns.map .int)
  | [] => trivial
  | _ :: _ => ⟨eqV_int, eqVs_ints⟩

theorem obj_ne {k : Nat} {r : Row} (rm : Room (k + 6) A) {u v : Value} (B : Base w s) (hu : Val s.heap (tagD r) u) (hv : Val s.heap (rowD r) v) : wpAny (md w) A (call (.builtin "object.__ne__") [u, v]) (fun x s' => x = .bool false ∧ Ext [] s s') noE s := by
  have hu' := hu
  obtain ⟨a, t, x, dx, m, rfl, g, gd⟩ := hu'
  obtain ⟨b, vs, n, rfl, g', hvs⟩ := id hv
  have rm1 : Room (k + 5) A.in1 := rm.in1
  refine wpAny_call (codeAny_call_builtin (by decide +kernel) F.cmpEntry_ne (check_slot (owner := "object") (n := "__ne__") F.cmpKind_ne F.cmpSplit_ne (((Looks.ld (part := none) g).andThen .now).andThen (looks_subIn B.KB (k_t_obj _))) (F.cmpArgs_ne _ _) ?_))
  have hcall := ifBound_K (E := noE) (Q := fun r s' => r = some (.bool true) ∧ Ext [] s s') B.KB (inst_tag g gd) (k_t_eq _) (k_t_eqf _) (args := [.ref b]) (wpAny_noE (wpAny_fn (fn_eq (k := k) (r := r)) (rm1.mono (by omega)) B ⟨_, _, rfl, hu, _, _, rfl, hv, rfl⟩) fun r s' z => ⟨by rw [show r = _ from z.2], z.1⟩)
  unfold Builtin.«object.__ne__»
  have hc := rm1.cline
  refine wpAny_bind (wpAny_of_eq (a := (Value.ref a, [Value.ref b])) rfl ?_)
  refine wpAny_bind (wpAny_cRoomFor hc ?_)
  refine wpAny_bind (wpAny_noE hcall fun r s' hr => ?_)
  obtain ⟨rfl, hq⟩ := hr
  exact wpAny_bind (wpAny_truthy_bool (wpAny_pure ⟨rfl, hq⟩))
theorem cmp_ne_tag {k : Nat} {r : Row} (rm : Room (k + 6) A) : Cmp w A .NotEq (tagD r) (rowD r) false := by
  intro u v s B hu hv
  have hu' := hu
  obtain ⟨a, t, x, dx, m, rfl, g, gd⟩ := hu'
  obtain ⟨b, vs, n, rfl, g', hvs⟩ := id hv
  refine cmp_own (op := .NotEq) B rm.cline (inst_tag g gd) (ty_ref g') (k_sub_tt _) (ifBound_bi B (inst_tag g gd) (k_t_ne _) F.slot_object_ne (wpAny_noE (obj_ne rm B hu hv) fun r s' z => ⟨false, by rw [z.1], rfl, z.2⟩))
theorem cmp_ne_str {x : Str} : Cmp w A .NotEq (.str x) (.str x) false := by
  rintro _ _ s B ⟨t, rfl⟩ ⟨u, rfl⟩
  exact RcNeAt.str_str x t x u _ _ _ _ ⟨by simp, Ext.refl s⟩
theorem cmp_ne_none : Cmp w A .NotEq .none .none false := by
  rintro _ _ s B rfl rfl
  exact RcNeAt.none_none _ _ _ _ ⟨rfl, Ext.refl s⟩
theorem cmp_ne_bool {x y : Bool} : Cmp w A .NotEq (.bool x) (.bool y) (x != y) := by
  rintro _ _ s B rfl rfl
  exact RcNeAt.bool_bool x y _ _ _ _ ⟨rfl, Ext.refl s⟩
/-- a row against the empty one -/
theorem cmp_eq_empty {ds : List D} (hu : A.units < cLine) : Cmp w A .Eq (.list ds) (.list []) ds.isEmpty := by
  cases ds with
  | nil => exact cmp_eq_lists (as := []) (bs := []) trivial hu
  | cons d ds =>
    rintro _ _ s B ⟨a, us, n, rfl, g, hvu⟩ ⟨b, vs, m, rfl, g', hv⟩
    have := hvu.length; have := hv.length
    exact eq_list_lengthsAt ⟨_, g, rfl, n, rfl⟩ ⟨_, g', rfl, m, rfl⟩ (by simp only [List.length_cons, List.length_nil] at *; simp; omega) hu ⟨rfl, Ext.refl s⟩
theorem cmp_ne_empty {ds : List D} (hu : A.units < cLine) : Cmp w A .NotEq (.list ds) (.list []) (!ds.isEmpty) := by
  cases ds with
  | nil => exact cmp_ne_lists (as := []) (bs := []) trivial hu
  | cons d ds =>
    rintro _ _ s B ⟨a, us, n, rfl, g, hvu⟩ ⟨b, vs, m, rfl, g', hv⟩
    have := hvu.length; have := hv.length
    exact RcNeAt.lists_lengths ⟨_, g, rfl, n, rfl⟩ ⟨_, g', rfl, m, rfl⟩ (by simp only [List.length_cons, List.length_nil] at *; simp; omega) hu _ _ _ _ ⟨rfl, Ext.refl s⟩

/-! in -/
def intOf : Value → Option Int
  | .int i _ => some i
  | _ => none
def rowOf (h : Heap) : Value → Option Row
  | .ref a => match h.get? a with
    | some o => match o.data with
      | .seq xs _ => match xs.toList with
        | [.int i _, .str x _] => some (i, x)
        | _ => none
      | _ => none
    | none => none
  | _ => none
theorem rowOf_val {h : Heap} {r : Row} {v : Value} (hv : Val h (rowD r) v) : rowOf h v = some r := by
  obtain ⟨a, us, n, rfl, g, hus⟩ := hv
  obtain ⟨_, _, rfl, ⟨t1, rfl⟩, _, _, rfl, ⟨t2, rfl⟩, hr⟩ := hus
  rw [show _ = [] from hr] at g
  show (match h.get? a with
    | some o => match o.data with
      | .seq xs _ => match xs.toList with
        | [.int i _, .str x _] => some (i, x)
        | _ => none
      | _ => none
    | none => none) = some r
  rw [g]
theorem any_ints {h : Heap} {c : Int} : ∀ {ns : List Int} {vs : List Value}, Vals h (ns.map .int) vs → (vs.any fun y => intOf y == some c) = ns.any (· == c) ∧ ∀ y ∈ vs, ∃ i t, y = .int i t
  | [], _, e => by rw [show _ = [] from e]; exact ⟨rfl, by simp⟩
  | n :: ns, _, ⟨v, r, e, ⟨t, hv⟩, hr⟩ => by
    subst e hv
    obtain ⟨h1, h2⟩ := any_ints (c := c) hr
    refine ⟨?_, fun y hy => ?_⟩
    · rw [List.any_cons, List.any_cons, h1]; simp [intOf]
    · rcases List.mem_cons.mp hy with q | q
      · exact ⟨_, _, q⟩
      · exact h2 y q
theorem any_rows {h : Heap} {c : Row} : ∀ {rs : List Row} {vs : List Value}, Vals h (rs.map rowD) vs → (vs.any fun y => rowOf h y == some c) = rs.any (· == c) ∧ ∀ y ∈ vs, ∃ r, Val h (rowD r) y
  | [], _, e => by rw [show _ = [] from e]; exact ⟨rfl, by simp⟩
  | n :: ns, _, ⟨v, r, e, hv, hr⟩ => by
    subst e
    obtain ⟨h1, h2⟩ := any_rows (c := c) hr
    refine ⟨?_, fun y hy => ?_⟩
    · rw [List.any_cons, List.any_cons, h1, rowOf_val hv]; simp
    · rcases List.mem_cons.mp hy with q | q
      · rw [q]; exact ⟨n, hv⟩
      · exact h2 y q
theorem int_eqAt {c : Int} {t : PySem.Tok} {y : Value} (h : ∃ i t, y = .int i t) : EqAt A s y (.int c t) (intOf y == some c) := by
  obtain ⟨i, u, rfl⟩ := h
  have := (EqGives.int i c u t).at A s
  rw [show (intOf (.int i u) == some c) = (i == c) by simp [intOf]]; exact this
theorem cmp_in_ints {c : Int} {ns : List Int} : Cmp w A .In (.int c) (.list (ns.map .int)) (ns.any (· == c)) := by
  rintro _ _ s B ⟨t, rfl⟩ ⟨b, vs, n, rfl, g, hv⟩
  obtain ⟨h1, h2⟩ := any_ints (c := c) hv
  exact in_listAt (fun y => intOf y == some c) ⟨_, g, rfl, n, rfl⟩ (fun y hy => int_eqAt (h2 y (by simpa using hy))) ⟨by rw [← h1]; simp, Ext.refl s⟩
theorem cmp_notin_ints {c : Int} {ns : List Int} : Cmp w A .NotIn (.int c) (.list (ns.map .int)) (!ns.any (· == c)) := by
  rintro _ _ s B ⟨t, rfl⟩ ⟨b, vs, n, rfl, g, hv⟩
  obtain ⟨h1, h2⟩ := any_ints (c := c) hv
  exact notIn_listAt (fun y => intOf y == some c) ⟨_, g, rfl, n, rfl⟩ (fun y hy => int_eqAt (h2 y (by simpa using hy))) ⟨by rw [← h1]; simp, Ext.refl s⟩
theorem cmp_in_tup {c : Int} {ns : List Int} : Cmp w A .In (.int c) (.tup (ns.map .int)) (ns.any (· == c)) := by
  rintro _ _ s B ⟨t, rfl⟩ ⟨b, vs, n, rfl, g, hv⟩
  obtain ⟨h1, h2⟩ := any_ints (c := c) hv
  exact in_tupleAt (fun y => intOf y == some c) ⟨_, g, rfl, n, rfl⟩ (fun y hy => int_eqAt (h2 y (by simpa using hy))) ⟨by rw [← h1]; simp, Ext.refl s⟩
theorem cmp_in_rows {c : Row} {rs : List Row} (hu : A.units + 2 < cLine) : Cmp w A .In (rowD c) (rowsD rs) (rs.any (· == c)) := by
  rintro u _ s B hc ⟨b, vs, n, rfl, g, hv⟩
  obtain ⟨h1, h2⟩ := any_rows (c := c) hv
  refine in_listAt (fun y => rowOf s.heap y == some c) ⟨_, g, rfl, n, rfl⟩ (fun y hy => ?_) ⟨by rw [← h1]; simp, Ext.refl s⟩
  obtain ⟨r, hr⟩ := h2 y (by simpa using hy)
  have := eqAt_row (A := A.in1) (by rw [Around.in1_units]; omega) hr hc
  rw [rowOf_val hr]
  rw [show ((some r : Option Row) == some c) = (r == c) by simp]; exact this
end
end Mine
end
section
open PySem PySem.W PyProof.Rows PySem.Builtin
set_option Elab.async false
set_option maxRecDepth 100000
namespace Mine

/-- a datum that a change of the object of class C at a does not touch -/
def safe (C : Value) (a : Addr) : D → Bool
  | .at b (.tags ds) => (!(b == a) && !(C == .type "dict") && !bearsL C ds) || !bears C (.tags ds)
  | .at b (.list ds) => (!(b == a) && !bearsL C ds) || !bears C (.list ds)
  | d => !bears C d

theorem safe_val {w : World} {s s' : Shared} {a : Addr} {C : Value} {d : D} {v : Value} (B : Base w s) (e : Ext [a] s s') (hc : ∀ o, s.heap.get? a = some o → o.cls = C) (hs : safe C a d = true) (hv : Val s.heap d v) : Val s'.heap d v := by
  have plain : ∀ {d : D} {v : Value}, bears C d = false → Val s.heap d v → Val s'.heap d v := fun h hv => e.val B (fun x hx o g => by
    rw [List.mem_singleton.mp hx] at g
    exact .inr (by rw [hc o g]; exact h)) hv
  have plainL : ∀ {ds : List D} {vs : List Value}, bearsL C ds = false → Vals s.heap ds vs → Vals s'.heap ds vs := fun h hv => e.vals B (fun x hx o g => by
    rw [List.mem_singleton.mp hx] at g
    exact .inr (by rw [hc o g]; exact h)) hv
  unfold safe at hs
  split at hs
  · rename_i b ds
    rcases Bool.or_eq_true_iff.mp hs with q | q
    · simp only [Bool.and_eq_true, Bool.not_eq_true', beq_eq_false_iff_ne] at q
      obtain ⟨rfl, x, vs, n, dx, m, e1, g, gd, hvs⟩ := hv
      cases e1
      refine ⟨rfl, b, vs, n, dx, m, rfl, e.at B g (by simpa using q.1.1) (by simp), e.at B gd (fun hm => ?_) (by simp), plainL q.2 hvs⟩
      rw [List.mem_singleton.mp hm] at gd
      exact q.1.2 (hc _ gd).symm
    · exact plain (by simpa [bears] using q) hv
  · rename_i b ds
    rcases Bool.or_eq_true_iff.mp hs with q | q
    · simp only [Bool.and_eq_true, Bool.not_eq_true', beq_eq_false_iff_ne] at q
      obtain ⟨rfl, x, vs, n, e1, g, hvs⟩ := hv
      cases e1
      exact ⟨rfl, b, vs, n, rfl, e.at B g (by simpa using q.1) (by simp), plainL q.2 hvs⟩
    · exact plain (by simpa [bears] using q) hv
  · exact plain (by simpa using hs) hv

/-- an object that is no place of a name -/
def isObj (o : Obj) : Prop := o.cls = .type "list" ∨ o.cls = .ref cTags
theorem Holds.mut {w : World} {env : Env} {σ σ' : List (Str × D)} {s s' : Shared} {a : Addr} {C : Value} (hf : env.func.isSome = true) (H : Holds w env σ s) (e : Ext [a] s s') (hc : ∀ o, s.heap.get? a = some o → o.cls = C ∧ (∀ v, o.data ≠ .cell v) ∧ ∀ es ep, o.data ≠ .dict es ep)
    (h : ∀ y d', σ'.lookup y = some d' → ∃ d, σ.lookup y = some d ∧ ((d = d' ∧ safe C a d = true) ∨ ∃ x x', d = .at a x ∧ d' = .at a x' ∧ Val s'.heap x' (.ref a))) : Holds w env σ' s' := by
  have dull : Dull s [a] := fun b hb o g => by rw [List.mem_singleton.mp hb] at g; exact (hc o g).2
  have H0 : Holds w env [] s' := (H.less (σ' := []) (fun y d q => by cases q)).extV e dull fun y d v q _ _ => by cases q
  refine ⟨H0.base, H0.big, H0.fn, H0.gl, H0.bi, H0.ns, H0.cells, fun o g => ?_, H0.inj, fun y d' hy => ?_⟩
  · obtain ⟨m, o', es, ep, g', dd, _⟩ := H.ns
    have := e.keep _ _ g' (fun hm => (dull _ hm o' g').2 _ _ dd) (nTop_PH (H.big _ (List.mem_cons_self ..))) (nTop_PL (H.big _ (List.mem_cons_self ..)))
    rw [g] at this; cases this
    rcases H.lone o g' with q | q | ⟨q1, q2, q3⟩
    · exact .inl q
    · exact .inr (.inl q)
    · rw [q2] at hf; cases hf
  · obtain ⟨d, hd, r⟩ := h y d' hy
    obtain ⟨v, b, hv⟩ := H.vals y d hd
    refine ⟨v, b.extS H.big e dull, ?_⟩
    rcases r with ⟨rfl, hs⟩ | ⟨x, x', rfl, rfl, hx⟩
    · exact safe_val H.base e (fun o g => (hc o g).1) hs hv
    · exact ⟨hv.1, by rw [hv.1]; exact hx⟩
section
variable {w : World} {A : Around} {env : Env} {σ : List (Str × D)}

/-- what a while loop comes to: a value, or the next statement with other names -/
def OutS (w : World) (S : List Addr) (env : Env) (σ : List (Str × D)) (s : Shared) (o : Option D) (f : Flow) (s' : Shared) : Prop :=
  Ext S s s' ∧ match o with
    | some d => ∃ v, f = .ret v ∧ Val s'.heap d v
    | none => f = .next ∧ Holds w env σ s'
def OutB (w : World) (S : List Addr) (env : Env) (σ : List (Str × D)) (s : Shared) (o : Option D) (f : Flow) (s' : Shared) : Prop :=
  Ext S s s' ∧ match o with
    | some d => ∃ v, f = .ret v ∧ Val s'.heap d v
    | none => f = .brk ∧ Holds w env σ s'
theorem while_run {S : List Addr} {test : Expr} {body : List Stmt} {pos : Pos} {σ : Nat → List (Str × D)} {res : Option D} (N : Nat) (hS : ∀ a ∈ S, nTop ≤ a)
    (step : ∀ i, i < N → Tst w A env (σ i) test true ∧ ∀ s, Holds w env (σ i) s → wpAny (md w) A (execs body env) (OutS w S env (σ (i + 1)) s none) noE s)
    (fin : (Tst w A env (σ N) test false ∧ res = none) ∨ (Tst w A env (σ N) test true ∧ ∀ s, Holds w env (σ N) s → wpAny (md w) A (execs body env) (OutB w S env (σ N) s res) noE s)) (s : Shared) (H : Holds w env (σ 0) s) :
    wpAny (md w) A (exec (.While test body [] pos) env) (OutS w S env (σ N) s res) noE s := by
  refine wpAny_While (codeAny_whileLoop (fun k s' => ∃ i, k = N - i ∧ i ≤ N ∧ Holds w env (σ i) s' ∧ Ext S s s') ?_ N ⟨0, rfl, Nat.zero_le _, H, (Ext.refl s).wk0 hS⟩)
  rintro k s' ⟨i, rfl, hi, H', e⟩
  by_cases hl : i < N
  · obtain ⟨ht, hb⟩ := step i hl
    refine wpAny_noE (ht s' H') fun b s₁ q => ?_
    obtain ⟨rfl, x⟩ := q
    refine wpAny_noE (hb s₁ (H'.ext x)) fun f s₂ z => ?_
    obtain ⟨y, rfl, H2⟩ := z
    exact ⟨N - (i + 1), by omega, i + 1, rfl, hl, H2, e.trans ((x.wk0 hS).trans y)⟩
  · have hN : i = N := by omega
    subst hN
    rcases fin with ⟨ht, rfl⟩ | ⟨ht, hb⟩
    · refine wpAny_noE (ht s' H') fun b s₁ q => ?_
      obtain ⟨rfl, x⟩ := q
      exact wpAny_execs_nil ⟨e.trans (x.wk0 hS), rfl, H'.ext x⟩
    · refine wpAny_noE (ht s' H') fun b s₁ q => ?_
      obtain ⟨rfl, x⟩ := q
      refine wpAny_noE (hb s₁ (H'.ext x)) fun f s₂ z => ?_
      obtain ⟨y, z⟩ := z
      have e2 := e.trans ((x.wk0 hS).trans y)
      cases res with
      | none => obtain ⟨rfl, H2⟩ := z; exact ⟨e2, rfl, H2⟩
      | some d => obtain ⟨v, rfl, hv⟩ := z; exact ⟨e2, v, rfl, hv⟩

/-- x += e -/
theorem aug_int {x : Str} {px pos : Pos} {e : Expr} {i j : Int} {s : Shared} (hx : σ.lookup x = some (.int i)) (he : Ev w A env σ e (.int j)) (H : Holds w env σ s) (kl : env.kindOf x = some .local) (hf : env.func.isSome = true)
    (hd : (x == ("__debug__" : Str)) = false := by decide) (hn : (x == ("__classdict__" : Str)) = false := by decide) :
    wpAny (md w) A (exec (.AugAssign (.Name x px) .Add e pos) env) (fun f s' => f = .next ∧ Holds w env ((x, .int (i + j)) :: σ) s' ∧ Ext [env.locals] s s') noE s := by
  refine wpAny_AugAssign_Name ?_
  obtain ⟨v, b, t, rfl⟩ := H.vals x _ hx
  refine b.load H.fn ?_ hn
  refine wpAny_noE (he s H) fun v s₁ q => ?_
  obtain ⟨e1, u, rfl⟩ := q
  refine PySem.AutoIntOps.iadd_0 ?_
  show wpAny (md w) A (storeName env x (.int (i + j) s₁.toks)) _ noE { s₁ with toks := s₁.toks + 1 }
  have e2 : Ext [] s₁ { s₁ with toks := s₁.toks + 1 } := Ext.tok
  refine ((H.ext e1).ext e2).store (d := .int (i + j)) ⟨_, rfl⟩ (.inl kl) (.inl hf) fun s' H' e _ _ _ => ⟨rfl, H', ?_⟩
  unfold place at e; rw [kl] at e
  exact ((e1.trans e2).wk0 e.own).trans e
end
end Mine
end
section
open PySem PySem.W PyProof.Rows PySem.Builtin
set_option Elab.async false
set_option maxRecDepth 100000
namespace Mine

section
variable {w : World} {A : Around} {env : Env} {σ : List (Str × D)} {E : Value → Shared → Prop} {s : Shared}

theorem tail_any {value slice : Expr} {o i : Value} {vs : List Value} {Q : Value → Shared → Prop} (hp : wpAny (md w) A (getitemInPython o) (fun b s' => b = false ∧ s' = s) E s) (h : wpAny (md w) A (getItem o i) Q E s)
    (hs : subscripted slice false o i = operate vs (getItem o i)) : wpAny (md w) A (subscriptTail value slice o i) Q E s := by
  unfold subscriptTail
  refine wpAny_bind (wpAny_mono hp (fun b s' q => ?_) fun _ _ e => e)
  obtain ⟨rfl, rfl⟩ := q
  rw [hs]
  exact wpAny_bind (wpAny_operating (wpAny_mono h (fun r s₃ h₃ => wpAny_bind (wpAny_letTemporaryGo (wpAny_pure h₃))) fun _ _ x => x))
theorem inPy_T {o : Value} {T id : String} (hT : s.TypeIs o T) (hl : typeLookup (.type T) "__getitem__" = pure (some (.builtin id))) : wpAny (md w) A (getitemInPython o) (fun b s' => b = false ∧ s' = s) E s := by
  rw [getitemInPython_of_ne hT.not_modules]
  exact wpAny_bind (wpAny_specialOf hT hl (wpAny_pure ⟨rfl, rfl⟩))
theorem inPy_tags {a dx : Addr} {vs : List Value} {n m : Nat} (B : Base w s) (g : s.heap.get? a = some (tagsO vs n dx)) (gd : s.heap.get? dx = some (dictO m)) : wpAny (md w) A (getitemInPython (.ref a)) (fun b s' => b = false ∧ s' = s) E s := by
  rw [getitemInPython_of_ne (by simp)]
  unfold specialOf
  exact wpAny_bind (wpAny_bind ((inst_tags g gd).type.here ((looks_findIn B.KB (k_s_getitem _)).here (wpAny_pure ⟨rfl, rfl⟩))))

/-- x[i] -/
theorem ev_sub {value slice : Expr} {pos : Pos} {a i d : D} (hv : Ev w A env σ value a) (hi : Ev w A env σ slice i)
    (h : ∀ u v s, Base w s → Val s.heap a u → Val s.heap i v → wpAny (md w) A (getitemInPython u) (fun b s' => b = false ∧ s' = s) noE s ∧ wpAny (md w) A (getItem u v) (Ok s d) noE s)
    (hs : ∀ o i, subscripted slice false o i = operate [o, i] (getItem o i) := by intro _ _; rfl) : Ev w A env σ (.Subscript value slice pos) d := fun s H => by
  refine Subscript_ (wpAny_noE (hv s H) fun u s₁ q1 => wpAny_noE (hi s₁ (H.ext q1.1)) fun v s₂ q2 => ?_)
  have H2 := (H.ext q1.1).ext q2.1
  obtain ⟨k1, k2⟩ := h u v s₂ H2.base (q2.1.val0 (H.ext q1.1).base q1.2) q2.2
  exact tail_any k1 (wpAny_noE k2 fun r s₃ z => ⟨(q1.1.trans q2.1).trans z.1, z.2⟩) (hs _ _)
theorem ev_item_list {value slice : Expr} {pos : Pos} {ds : List D} {i : Int} {d : D} (hv : Ev w A env σ value (.list ds)) (hi : Ev w A env σ slice (.int i)) (h0 : 0 ≤ i) (hd : ds[i.toNat]? = some d) (hz : ds.length ≤ 1000)
    (hs : ∀ o i, subscripted slice false o i = operate [o, i] (getItem o i) := by intro _ _; rfl) : Ev w A env σ (.Subscript value slice pos) d := ev_sub hv hi (by
  rintro _ _ s B ⟨a, vs, n, rfl, g, hvs⟩ ⟨t, rfl⟩
  obtain ⟨x, hx, hxv⟩ := hvs.get hd
  have hlt : i.toNat < ds.length := (List.getElem?_eq_some_iff.mp hd).1
  exact ⟨inPy_T ⟨_, g, rfl⟩ slot_list_getitem.lookup, wpAny_getItem_list ⟨_, g, rfl, n, rfl⟩ h0 (by omega) (by simpa using hx) ⟨Ext.refl s, hxv⟩⟩) hs
theorem ev_item_tup {value slice : Expr} {pos : Pos} {ds : List D} {i : Int} {d : D} (hv : Ev w A env σ value (.tup ds)) (hi : Ev w A env σ slice (.int i)) (h0 : 0 ≤ i) (hd : ds[i.toNat]? = some d) (hz : ds.length ≤ 1000)
    (hs : ∀ o i, subscripted slice false o i = operate [o, i] (getItem o i) := by intro _ _; rfl) : Ev w A env σ (.Subscript value slice pos) d := ev_sub hv hi (by
  rintro _ _ s B ⟨a, vs, n, rfl, g, hvs⟩ ⟨t, rfl⟩
  obtain ⟨x, hx, hxv⟩ := hvs.get hd
  have hlt : i.toNat < ds.length := (List.getElem?_eq_some_iff.mp hd).1
  have hl := hvs.length
  have h63 : (2 : Int) ^ 63 = 9223372036854775808 := by decide
  exact ⟨inPy_T ⟨_, g, rfl⟩ slot_tuple_getitem.lookup, getItem_tuple (j := i.toNat) ⟨_, g, rfl, n, rfl⟩ (by omega) (by omega) (PySem.seqIndex_of h0 (by simp; omega)) (by simpa using hx) ⟨Ext.refl s, hxv⟩⟩) hs
theorem ev_item_tags {value slice : Expr} {pos : Pos} {ds : List D} {i : Int} {d : D} (hv : Ev w A env σ value (.tags ds)) (hi : Ev w A env σ slice (.int i)) (h0 : 0 ≤ i) (hd : ds[i.toNat]? = some d) (hz : ds.length ≤ 1000)
    (hs : ∀ o i, subscripted slice false o i = operate [o, i] (getItem o i) := by intro _ _; rfl) : Ev w A env σ (.Subscript value slice pos) d := ev_sub hv hi (by
  rintro _ _ s B ⟨a, vs, n, dx, m, rfl, g, gd, hvs⟩ ⟨t, rfl⟩
  obtain ⟨x, hx, hxv⟩ := hvs.get hd
  have hl := hvs.length
  exact ⟨inPy_tags B g gd, getItem_tags B g gd (tags_get B g h0 hx (by omega) ⟨Ext.refl s, hxv⟩)⟩) hs

/-! slices -/
def oi : Option Nat → Option Int
  | none => none
  | some n => some (n : Int)
def EvP (w : World) (A : Around) (env : Env) (σ : List (Str × D)) : Option Expr → Option Nat → Prop
  | none, k => k = none
  | some e, k => ∃ n : Nat, k = some n ∧ Ev w A env σ e (.int n)
theorem evP_run {e : Option Expr} {k : Option Nat} (h : EvP w A env σ e k) {s : Shared} (H : Holds w env σ s) : wpAny (md w) A (evalPart e env) (fun v s' => Ext [] s s' ∧ IsPart v (oi k)) noE s := by
  cases e with
  | none => rw [show k = none from h]; exact wpAny_pure ⟨Ext.refl s, .none⟩
  | some e =>
    obtain ⟨n, rfl, he⟩ := h
    refine wpAny_noE (he s H) fun v s' q => ?_
    obtain ⟨x, t, rfl⟩ := q
    exact ⟨x, .int _ _⟩
def sl {α : Type} (lo hi : Option Nat) (xs : List α) : List α := ((match hi with | some b => xs.take b | none => xs)).drop (lo.getD 0)
theorem pick_sl (vs : List Value) (lo hi : Option Nat) : slicePick vs.toArray (oi lo) (oi hi) none = (sl lo hi vs).toArray := by
  have e : sliceBounds (oi lo) (oi hi) none vs.toArray.size = (((min (lo.getD 0) vs.length : Nat) : Int), ((min (hi.getD vs.length) vs.length : Nat) : Int), 1) := by
    simp only [sliceBounds, Option.getD_none, show (1 : Int) > 0 by decide, if_true, List.size_toArray]
    congr 1
    · cases lo with
      | none => simp [oi]
      | some a => simp only [oi, Option.getD_some]; rw [if_neg (by omega)]; omega
    · congr 1
      cases hi with
      | none => simp [oi]
      | some a => simp only [oi, Option.getD_some]; rw [if_neg (by omega)]; omega
  unfold slicePick
  rw [e]
  simp only [sliceRange_one, pick_run]
  congr 1
  unfold sl
  have key : ∀ (a b : Nat), (vs.drop (min a vs.length)).take (min b vs.length - min a vs.length) = (vs.take b).drop a := fun a b => by
    apply List.ext_getElem?
    intro i
    simp only [List.getElem?_take, List.getElem?_drop]
    by_cases h1 : i + a < b <;> by_cases h2 : i + a < vs.length
    · rw [if_pos (by omega), if_pos (by omega), show min a vs.length + i = a + i by omega]
    · rw [if_pos (by omega : a + i < b), List.getElem?_eq_none (by omega : vs.length ≤ a + i)]
      split
      · exact List.getElem?_eq_none (by omega)
      · rfl
    · rw [if_neg (by omega), if_neg (by omega)]
    · rw [if_neg (by omega : ¬ a + i < b)]
      split
      · exact List.getElem?_eq_none (by omega)
      · rfl
  cases hi with
  | some b => exact key _ b
  | none =>
    have := key (lo.getD 0) vs.length
    rw [List.take_length] at this
    simpa using this
theorem Vals.take {h : Heap} : ∀ {ds : List D} {vs : List Value} (i : Nat), Vals h ds vs → Vals h (ds.take i) (vs.take i)
  | _, _, 0, _ => by simp only [List.take_zero]; exact rfl
  | [], _, _ + 1, e => by rw [show _ = [] from e]; exact rfl
  | _ :: _, _, i + 1, ⟨v, r, e, x, y⟩ => by subst e; exact ⟨v, _, rfl, x, Vals.take i y⟩
theorem Vals.sl {h : Heap} {ds : List D} {vs : List Value} (lo hi : Option Nat) (x : Vals h ds vs) : Vals h (sl lo hi ds) (sl lo hi vs) := by
  unfold Mine.sl
  cases hi with
  | none => exact Vals.drop _ x
  | some b => exact Vals.drop _ (Vals.take b x)
theorem evF_slice {value : Expr} {lower upper : Option Expr} {p pos : Pos} {ds : List D} {lo hi : Option Nat} (hv : Ev w A env σ value (.list ds)) (hlo : EvP w A env σ lower lo) (hhi : EvP w A env σ upper hi) (hz : ds.length ≤ 1000) :
    EvF w A env σ (.Subscript value (.Slice lower upper none p) pos) (.list (sl lo hi ds)) := fun s H => by
  refine Subscript_ (wpAny_noE (hv s H) fun u s₁ q1 => ?_)
  have H1 := H.ext q1.1
  refine wpAny_Slice (wpAny_noE (evP_run hlo H1) fun vl s₂ q2 => wpAny_noE (evP_run hhi (H1.ext q2.1)) fun vu s₃ q3 => ?_)
  rw [evalPart_none]
  have H3 := (H1.ext q2.1).ext q3.1
  have hu := (q2.1.trans q3.1).val0 H1.base q1.2
  obtain ⟨l, vs, n, rfl, g, hvs⟩ := hu
  have hlst : s₃.heap.IsList l vs.toArray := ⟨_, g, rfl, n, rfl⟩
  have hl := hvs.length
  refine wpAny_pure (tail_any (inPy_T (hlst.push _).typeIs slot_list_getitem.lookup) (wpAny_getItem_list_slice (hlst.push _) (Heap.IsSliceOf.new ..) q2.2 q3.2 .none (by simp) ?_ (by show _ ≤ 16777216; simp; omega)) rfl)
  rw [pick_sl]
  have e4 : Ext [] s₃ { s₃ with heap := (s₃.heap.push { cls := .type "slice", data := .fields #[vl, vu, .none] }).push { cls := .type "list", data := .seq (sl lo hi vs).toArray } } := Ext.grow (t := s₃.toks) fun b o e => Heap.get?_push_of_some _ (Heap.get?_push_of_some _ e)
  have e03 := (q1.1.trans q2.1).trans q3.1
  exact ⟨⟨e03.trans e4, _, sl lo hi vs, 0, rfl, Heap.get?_push_size _ rfl, (e4.vals0 H3.base hvs).sl lo hi⟩, _, rfl, H.base.fresh e03 (gone (by rw [Heap.size_push]; exact Nat.le_succ _)), by rw [Heap.size_push]; exact Nat.le_succ_of_le H3.base.big⟩

/-! len -/
theorem k_g_len (P : Params) : nsIn (KB P) mainGlobals "len" = some none ∧ nsIn (KB P) builtinsNs "len" = some (some (.builtin "len")) := ⟨by kernel_rfl, by kernel_rfl⟩
theorem call_len_tags {a dx : Addr} {vs : List Value} {n m : Nat} {Q : Value → Shared → Prop} (B : Base w s) (g : s.heap.get? a = some (tagsO vs n dx)) (gd : s.heap.get? dx = some (dictO m)) (hz : vs.length ≤ 1000)
    (h : Q (.int vs.length (s.toks + 1)) { s with toks := s.toks + 1 + 1 }) : wpAny (md w) A (call (.builtin "len") [.ref a]) Q E s := by
  refine Calls.call_function_entry kind_len plain_len entry_len (args_len1 _) ?_
  unfold Builtin.«len»
  refine wpAny_bind (m := oneArg "len" _) (wpAny_pure ?_)
  refine wpAny_bind (special_b B (inst_tags g gd) (k_s_len _) slot_list_len (tags_len B g ?_))
  show wpAny _ _ _ _ _ { s with toks := s.toks + 1 }
  refine wpAny_bind (wpAny_holding (wpAny_pure ?_))
  refine wpAny_bind (wpAny_letGo ?_)
  show wpAny _ _ (if (vs.length : Int) < 0 then _ else _) _ _ _
  rw [if_neg (by omega)]
  show wpAny _ _ (if (vs.length : Int) ≥ 2 ^ 63 then _ else _) _ _ _
  rw [if_neg (by omega)]
  exact wpAny_bind (wpAny_mkInt (wpAny_pure ⟨_, rfl, h⟩))
theorem ev_len_tags {px pos : Pos} {e : Expr} {ds : List D} (hx : env.kindOf "len" = some .globalImplicit) (h : Ev w A env σ e (.tags ds)) (hz : ds.length ≤ 1000) (hst : noStar [e] = true := by rfl) : Ev w A env σ (.Call (.Name "len" px) [e] [] pos) (.int ds.length) := fun s H =>
  callName (gl_builtin hx (k_g_len _).1 (k_g_len _).2) callee_b (ds := [.tags ds]) ⟨_, _, rfl, h, rfl⟩ H (fun vs s' e H' hv => by
    obtain ⟨v1, r1, rfl, ⟨a, us, n, dx, m, rfl, g, gd, hus⟩, hr⟩ := hv
    rw [show r1 = [] from hr]
    have hl := hus.length
    exact call_len_tags H'.base g gd (by omega) ⟨e.trans (Ext.tok (t := s'.toks + 1 + 1)), _, by rw [hl]⟩) hst
theorem ev_len_list {px pos : Pos} {e : Expr} {ds : List D} (hx : env.kindOf "len" = some .globalImplicit) (h : Ev w A env σ e (.list ds)) (hz : ds.length ≤ 1000) (hst : noStar [e] = true := by rfl) : Ev w A env σ (.Call (.Name "len" px) [e] [] pos) (.int ds.length) := fun s H =>
  callName (gl_builtin hx (k_g_len _).1 (k_g_len _).2) callee_b (ds := [.list ds]) ⟨_, _, rfl, h, rfl⟩ H (fun vs s' e H' hv => by
    obtain ⟨v1, r1, rfl, ⟨a, us, n, rfl, g, hus⟩, hr⟩ := hv
    rw [show r1 = [] from hr]
    have hl := hus.length
    exact len_list (items := us.toArray) ⟨_, g, rfl, n, rfl⟩ (by simp; omega) ⟨e.trans (Ext.tok (t := s'.toks + 1 + 1)), s'.toks + 1, by simp [hl]⟩) hst

theorem cmp_is_none {d : D} : (∀ h v, Val h d v → v ≠ .none) → Cmp w A .Is d .none false := by
  rintro hn u _ s B hu rfl
  exact PySem.is_none ⟨by have := hn _ _ hu; cases u <;> first | rfl | exact absurd rfl this, Ext.refl s⟩
theorem cmp_none_none : Cmp w A .Is .none .none true := by
  rintro _ _ s B rfl rfl
  exact PySem.is_none ⟨rfl, Ext.refl s⟩
end
end Mine
end
section
open PySem PySem.W PyProof.Rows PySem.Builtin
set_option Elab.async false
set_option maxRecDepth 100000
namespace Mine

abbrev frs (l : List Env) : List Addr := l.filterMap (·.frame)
/-- the blocks that run, and the places of their names -/
structure Stk (A : Around) (l : List Env) (s : Shared) : Prop where
  eq : A.frames = some l
  all : ∀ env ∈ l, env.scope.kind ≠ .module ∧ ∃ L o, env.frame = some L ∧ nTop ≤ L ∧ s.heap.get? L = some o ∧ (∃ es ep, o.data = .dict es ep) ∧ (infra o = true ∨ o.cls = .type "frame")
theorem Stk.mem {A : Around} {l : List Env} {s : Shared} (k : Stk A l s) {a : Addr} (h : a ∈ frs l) : nTop ≤ a ∧ ∃ o, s.heap.get? a = some o ∧ (∃ es ep, o.data = .dict es ep) ∧ (infra o = true ∨ o.cls = .type "frame") := by
  obtain ⟨env, he, hf⟩ := List.mem_filterMap.mp h
  obtain ⟨_, L, o, h1, h2, h3, h4, h5⟩ := k.all env he
  rw [hf] at h1; cases h1
  exact ⟨h2, o, h3, h4, h5⟩
theorem Stk.ext {A : Around} {l : List Env} {s s' : Shared} {S : List Addr} {G : List Nat} (k : Stk A l s) (e : ExtG S G s s') (h : ∀ a ∈ frs l, a ∉ S) : Stk A l s' := ⟨k.eq, fun env he => by
  obtain ⟨hk, L, o, h1, h2, h3, h4, h5⟩ := k.all env he
  exact ⟨hk, L, o, h1, h2, e.keep _ _ h3 (h L (List.mem_filterMap.mpr ⟨env, he, h1⟩)) (nTop_PH h2) (nTop_PL h2), h4, h5⟩⟩
theorem Stk.in1 {A : Around} {l : List Env} {s : Shared} (k : Stk A l s) : Stk A.in1 l s := ⟨k.eq, k.all⟩
theorem Stk.push {w : World} {A : Around} {l : List Env} {s : Shared} {env : Env} {σ : List (Str × D)} (k : Stk A l s) (H : Holds w env σ s) (hf : env.frame = some env.locals) (hfn : env.func.isSome = true) : Stk (A.deeper env) (env :: l) s := by
  refine ⟨Around.frames_deeper k.eq, fun e he => ?_⟩
  rcases List.mem_cons.mp he with rfl | he
  · obtain ⟨m, o, es, ep, g, hd, _⟩ := H.ns
    refine ⟨by rw [H.fn]; decide, _, o, hf, H.big _ (List.mem_cons_self ..), g, ⟨es, ep, hd⟩, ?_⟩
    rcases H.lone o g with q | q | ⟨_, q, _⟩
    · exact .inl q
    · exact .inr q
    · rw [q] at hfn; cases hfn
  · exact k.all e he
theorem Stk.funFrames {A : Around} {l : List Env} {s : Shared} (k : Stk A l s) {as : List Addr} (h : ∀ a ∈ frs l, a ∈ as) : s.heap.FunFrames (hideAll s.heap as) l := by
  have : ∀ (l' : List Env), (∀ e ∈ l', e ∈ l) → s.heap.FunFrames (hideAll s.heap as) l' := by
    intro l'
    induction l' with
    | nil => intro _; trivial
    | cons e r ih =>
      intro hm
      obtain ⟨hk, L, o, h1, _, h3, ⟨es, ep, h4⟩, _⟩ := k.all e (hm e (List.mem_cons_self ..))
      exact ⟨hk, ⟨L, o, h1, hideAll_none _ (h L (List.mem_filterMap.mpr ⟨e, hm e (List.mem_cons_self ..), h1⟩)), h3, fun vs q => by rw [h4] at q; cases q⟩, ih fun e' he' => hm e' (List.mem_cons_of_mem _ he')⟩
  exact this l fun _ h => h

/-- what stands below a flying exception -/
structure Under (F : List Addr) (s : Shared) (Bs : Heap) : Prop where
  keep : ∀ b o, s.heap.get? b = some o → b ∉ F → b ≠ PH → b ≠ PL → Bs.get? b = some o
  tH : ∀ ps, TabI s.heap 243 PH qH ps → ∃ more, TabI Bs 243 PH qH (ps ++ more)
  tL : ∀ ps, TabI s.heap 387 PL qL ps → ∃ more, TabI Bs 387 PL qL (ps ++ more)
structure Raised (l : List Env) (s s' : Shared) (e : Value) : Prop where
  fly : ∃ ea a0 Bs, e = .ref ea ∧ Heap.FlyingW Bs l ea (.ref cErr) a0 s'.heap ∧ Under (frs l) s Bs
  slots : ∀ b ∈ frs l, ∀ o, s.heap.get? b = some o → ∃ sl, s'.heap.get? b = some { o with slots := sl }
  big : ∀ b ∈ frs l, nTop ≤ b
  gens : ∀ (i : Nat) (x : GenState), s.gens[i]? = some x → s'.gens[i]? = some x
  bare : AllBare s.gens → AllBare s'.gens
  os : s'.os = s.os
theorem Raised.ext {l : List Env} {s s' : Shared} {e : Value} (r : Raised l s s' e) : Ext (frs l) s s' := by
  obtain ⟨ea, a0, Bs, _, fl, un⟩ := r.fly
  have st := fl.1
  exact ⟨r.big, fun b o g n1 n2 n3 => st _ _ (un.keep b o g n1 n2 n3), fun ps t => let ⟨m, t'⟩ := un.tH ps t; ⟨m, t'.grow st⟩, fun ps t => let ⟨m, t'⟩ := un.tL ps t; ⟨m, t'.grow st⟩, fun i x e _ => r.gens i x e, r.bare, r.os⟩

/-- a run that ends in DXFValueError -/
def FnX (w : World) (k : Nat) (f : Addr) (ds : List D) : Prop :=
  ∀ (A : Around) (s : Shared) (vs : List Value) (l : List Env), Room k A → Base w s → Stk A l s → Vals s.heap ds vs → codeAny (md w) A (.call (.ref f) ⟨vs, []⟩) (fun r s' => ∃ e, r = .error e ∧ Raised l s s' e) s
/-- how a block's run ends so -/
def Errs (w : World) (env : Env) (l : List Env) (s : Shared) (e : Value) (s' : Shared) : Prop :=
  ∃ s₁, Ext (own env) s s₁ ∧ Holds w env [] s₁ ∧ ((∃ h' ea vs, e = .ref ea ∧ Heap.MadeExcOf s₁.heap h' ea (.ref cErr) vs ∧ s' = { s₁ with heap := h' }) ∨ Raised (env :: l) s₁ s' e)

section
variable {w : World} {A : Around} {env : Env} {σ : List (Str × D)} {l : List Env} {s s₀ s' : Shared} {e : Value}

theorem tabs_hide {s₁ : Shared} {as : List Addr} (hn : ∀ a ∈ as, nTop ≤ a) (hd : ∀ a ∈ as, ∀ o, s₁.heap.get? a = some o → free o = true) :
    (∀ ps, TabI s₁.heap 243 PH qH ps → TabI (hideAll s₁.heap as) 243 PH qH ps) ∧ (∀ ps, TabI s₁.heap 387 PL qL ps → TabI (hideAll s₁.heap as) 387 PL qL ps) :=
  ⟨fun ps t => t.sets (fun m => absurd (hn _ m) (by decide)) hd fun b o n g => hideAll_get _ g n, fun ps t => t.sets (fun m => absurd (hn _ m) (by decide)) hd fun b o n g => hideAll_get _ g n⟩

/-- a block is left by an exception -/
theorem leave_err {Q : Unit → Shared → Prop} {E : Value → Shared → Prop} (B : Base w s) (k : Stk A l s) (e0 : Ext [] s s₀) (hnew : ∀ i ∈ own env, s.heap.get? i = none) (hf : env.frame = some env.locals) (hfn : env.func.isSome = true) (x : Errs w env l s₀ e s')
    (h : ∀ s'', Raised l s s'' e → Q () s'') : wpAny (md w) (A.deeper env) (leaving env e) Q E s' := by
  obtain ⟨s₁, e1, H1, x⟩ := x
  have e01 : Ext (own env) s s₁ := (e0.wk0 H1.big).trans e1
  have hfrs : ∀ a ∈ frs l, a ∉ own env := fun a ha m => by
    obtain ⟨_, o, g, _⟩ := k.mem ha
    rw [hnew a m] at g; cases g
  have k1 : Stk A l s₁ := k.ext e01 hfrs
  have k2 := k1.push H1 hf hfn
  have hbig : ∀ b ∈ frs l, nTop ≤ b := fun b hb => (k.mem hb).1
  have locnot : ∀ b o, s.heap.get? b = some o → b ≠ env.locals := fun b o g q => by
    rw [q, hnew _ (List.mem_cons_self ..)] at g; cases g
  have sl0 : ∀ b ∈ frs l, ∀ o, s.heap.get? b = some o → s₁.heap.get? b = some o := fun b hb o g => e01.keep _ _ g (hfrs b hb) (nTop_PH (hbig b hb)) (nTop_PL (hbig b hb))
  have nf : ∀ b ∈ frs l, ∀ o, s₁.heap.get? b = some o → ∀ vs, o.data ≠ .fields vs := fun b hb o g vs q => by
    obtain ⟨_, o', g', ⟨es, ep, d⟩, _⟩ := k1.mem hb
    rw [g] at g'; cases g'; rw [d] at q; cases q
  have e01d : Ext [] s s₁ := e01.drop (fun i hi => .inr (hnew i hi)) (by simp)
  rcases x with ⟨h', ea, vs, rfl, hx, rfl⟩ | r
  · have hfree : ∀ a ∈ frs (env :: l), ∀ o, s₁.heap.get? a = some o → free o = true := fun a ha o g => by
      obtain ⟨_, o', g', ⟨es, ep, d⟩, _⟩ := k2.mem ha
      rw [g] at g'; cases g'; unfold free; rw [d]
    have tb := tabs_hide (fun a ha => (k2.mem ha).1) hfree
    refine wpAny_leaves_madeW (h := s₁.heap) (base := hideAll s₁.heap (frs (env :: l))) k2.eq hf (fun b o q => of_hideAll _ q) (k2.funFrames fun a ha => ha) hx fun h'' t x1 x2 x3 x4 => ?_
    refine h _ ⟨⟨ea, .ref t, _, rfl, x1, ⟨fun b o g n1 n2 n3 => ?_, fun ps t => ?_, fun ps t => ?_⟩⟩, fun b hb o g => ?_, hbig, fun i x q => e01.gens i x q (by simp), e01.bare, e01.os⟩
    · refine hideAll_get _ (e01d.keep b o g (by simp) n2 n3) fun m => ?_
      have : frs (env :: l) = env.locals :: frs l := by simp [frs, hf]
      rw [this] at m
      rcases List.mem_cons.mp m with q | q
      · exact locnot b o g q
      · exact n1 q
    · obtain ⟨m, t'⟩ := e01.tH ps t; exact ⟨m, tb.1 _ t'⟩
    · obtain ⟨m, t'⟩ := e01.tL ps t; exact ⟨m, tb.2 _ t'⟩
    · have g1 := sl0 b hb o g
      obtain ⟨sl1, g2⟩ := x4 b o (hx.keeps _ _ g1) (nf b hb o g1)
      exact ⟨sl1, g2⟩
  · obtain ⟨ea, a0, Bs, rfl, fl, un⟩ := r.fly
    refine wpAny_leaves_onW k2.eq hf fl fun h'' x1 x4 => ?_
    refine h _ ⟨⟨ea, a0, Bs, rfl, x1, ⟨fun b o g n1 n2 n3 => ?_, fun ps t => ?_, fun ps t => ?_⟩⟩, fun b hb o g => ?_, hbig, fun i x q => r.gens i x (e01.gens i x q (by simp)), fun z => r.bare (e01.bare z), r.os.trans e01.os⟩
    · refine un.keep b o (e01d.keep b o g (by simp) n2 n3) (fun m => ?_) n2 n3
      have : frs (env :: l) = env.locals :: frs l := by simp [frs, hf]
      rw [this] at m
      rcases List.mem_cons.mp m with q | q
      · exact locnot b o g q
      · exact n1 q
    · obtain ⟨m, t'⟩ := e01.tH ps t
      obtain ⟨m', t''⟩ := un.tH _ t'
      exact ⟨m ++ m', by rw [← Array.append_assoc]; exact t''⟩
    · obtain ⟨m, t'⟩ := e01.tL ps t
      obtain ⟨m', t''⟩ := un.tL _ t'
      exact ⟨m ++ m', by rw [← Array.append_assoc]; exact t''⟩
    · have g1 := sl0 b hb o g
      obtain ⟨sl1, g2⟩ := r.slots b (by simp only [frs, List.filterMap_cons, hf]; exact List.mem_cons_of_mem _ hb) o g1
      obtain ⟨sl2, g3⟩ := x4 b _ g2 (nf b hb o g1)
      exact ⟨sl2, g3⟩

/-- names after a caught exception -/
theorem Holds.raised {s₁ : Shared} (H : Holds w env σ s₁) (k : Stk A (env :: l) s₁) (r : Raised (env :: l) s₁ s' e) (hfn : env.func.isSome = true) : Holds w env σ s' := by
  have x := r.ext
  have nocell : ∀ c v, s₁.heap.IsCell c v → c ∉ frs (env :: l) := fun c v ⟨o, g, d⟩ m => by
    obtain ⟨_, o', g', ⟨es, ep, d'⟩, _⟩ := k.mem m
    rw [g] at g'; cases g'; rw [d] at d'; cases d'
  have nsk : ∀ m, s₁.heap.Ns env.locals m → s'.heap.Ns env.locals m := fun m h => by
    by_cases hm : env.locals ∈ frs (env :: l)
    · obtain ⟨o, es, ep, g, d, z⟩ := h
      obtain ⟨sl, g'⟩ := r.slots _ hm o g
      exact ⟨_, es, ep, g', d, z⟩
    · exact x.ns (H.big _ (List.mem_cons_self ..)) hm h
  refine ⟨H.base.ext x, H.big, H.fn, H.gl, H.bi, let ⟨m, h⟩ := H.ns; ⟨m, nsk m h⟩, fun n c hc => ?_, fun o g => ?_, H.inj, fun y d hy => ?_⟩
  · obtain ⟨v, q⟩ := H.cells n c hc
    exact ⟨v, x.cell (H.big _ (List.mem_cons_of_mem _ (List.mem_map.mpr ⟨_, mem_of_lookup hc, rfl⟩))) (nocell _ _ q) q⟩
  · obtain ⟨m, o', es, ep, g', d, _⟩ := H.ns
    have : ∃ sl, s'.heap.get? env.locals = some { o' with slots := sl } := by
      by_cases hm : env.locals ∈ frs (env :: l)
      · exact r.slots _ hm o' g'
      · exact ⟨_, x.keep _ _ g' hm (nTop_PH (H.big _ (List.mem_cons_self ..))) (nTop_PL (H.big _ (List.mem_cons_self ..)))⟩
    obtain ⟨sl, g2⟩ := this
    rw [g] at g2; cases g2
    rcases H.lone o' g' with q | q | ⟨_, q, _⟩
    · exact .inl q
    · exact .inr (.inl q)
    · rw [q] at hfn; cases hfn
  · obtain ⟨v, b, hv⟩ := H.vals y d hy
    refine ⟨v, ?_, x.val H.base (fun a ha o g => ?_) hv⟩
    · rcases b with ⟨kl, m, h, q⟩ | ⟨kl, c, h, n, q⟩
      · exact .inl ⟨kl, m, nsk m h, q⟩
      · exact .inr ⟨kl, c, h, n, x.cell n (nocell _ _ q) q⟩
    · obtain ⟨_, o', g', _, z⟩ := k.mem ha
      rw [g] at g'; cases g'
      rcases z with z | z
      · exact .inl z
      · exact .inr (by rw [z]; exact bears_frame _)
end
end Mine
end
section
open PySem PySem.W PyProof.Rows PySem.Builtin
set_option Elab.async false
set_option maxRecDepth 100000
namespace Mine

theorem ns43 (P : Params) : ∃ o es n, (hd.heap_39 P).lookup 43 = some o ∧ o.data = .dict es n ∧ StrKeys es ∧ nsFind es "__init__" = none := by
  refine ⟨_, _, _, by k_is, rfl, ?_, ?_⟩
  · intro e he
    simp at he
    rcases he with rfl | rfl | rfl | rfl <;> exact ⟨_, _, rfl⟩
  · kernel_rfl
theorem ns30 (P : Params) : ∃ o es n, (hd.heap_39 P).lookup 30 = some o ∧ o.data = .dict es n ∧ StrKeys es ∧ nsFind es "__init__" = none := by
  refine ⟨_, _, _, by k_is, rfl, ?_, ?_⟩
  · intro e he
    simp at he
    rcases he with rfl | rfl | rfl | rfl | rfl <;> exact ⟨_, _, rfl⟩
  · kernel_rfl
/-- the class of the exceptions -/
theorem cls44 (P : Params) : ∃ nm q N bs hdct sn sub ab col dd k0 k1 k2 k3 k5, (hd.heap_39 P).lookup 44 = some (excClassObj nm q 44 N bs [.ref 31, .type "ValueError", .type "Exception", .type "BaseException", .type "object"] hdct sn sub ab col dd k0 k1 k2 k3 k5 "Exception.__new__") ∧ N = 43 :=
  ⟨_, _, _, _, _, _, _, _, _, _, _, _, _, _, _, by k_is, rfl⟩
theorem cls31 (P : Params) : ∃ c0 dd cd sl, (hd.heap_39 P).lookup 31 = some { cls := c0, dict := dd, data := .cls cd, slots := sl } ∧ cd.ns = 30 := ⟨_, _, _, _, by k_is, rfl⟩
theorem ns_of {w : World} {N : Addr} (hN : (N == PH || N == PL) = false) (h : ∃ o es n, (hd.heap_39 w.params).lookup N = some o ∧ o.data = .dict es n ∧ StrKeys es ∧ nsFind es "__init__" = none) : ∃ m, (∀ s, Base w s → s.heap.Ns N m) ∧ m "__init__" = none := by
  rw [Bool.or_eq_false_iff, beq_eq_false_iff_ne, beq_eq_false_iff_ne] at hN
  obtain ⟨o, es, n, h1, h2, h3, h4⟩ := h
  exact ⟨nsFind es, fun s B => ⟨o, es, n, B.top _ _ h1 hN.1 hN.2, h2, h3, fun _ => rfl⟩, h4⟩

section
variable {w : World} {A : Around} {env : Env} {σ : List (Str × D)} {l : List Env} {s : Shared}

theorem raise_made {np cpos pos : Pos} {a : Expr} {d : D} (hh : A.handled = none) (hx : env.kindOf "DXFValueError" = some .globalImplicit) (h : Ev w A env σ a d) (H : Holds w env σ s) (hst : noStar [a] = true := by rfl) {Q : Flow → Shared → Prop} :
    wpAny (md w) A (exec (.Raise (some (.Call (.Name "DXFValueError" np) [a] [] cpos)) none pos) env) Q
      (fun e s' => ∃ s₁, Ext [] s s₁ ∧ ∃ h' ea vs, e = .ref ea ∧ Heap.MadeExcOf s₁.heap h' ea (.ref cErr) vs ∧ s' = { s₁ with heap := h' }) s := by
  obtain ⟨nm, q, N, bs, hdct, sn, sub, ab, col, dd, k0, k1, k2, k3, k5, hc, hN⟩ := cls44 w.params
  subst hN
  obtain ⟨c0, dd1, cd1, sl1, h31, hn31⟩ := cls31 w.params
  have hB := H.base
  obtain ⟨mN, hmN, hmi⟩ := ns_of (w := w) (N := 43) (by decide) (ns43 _)
  refine wpAny_Raise_call_subU (C := 44) (mN := mN) (nm := nm) (q := q) (N := 43) (bs := bs) (bm := [.ref 31, .type "ValueError", .type "Exception", .type "BaseException", .type "object"]) (hdct := hdct) (sn := sn) (sub := sub) (ab := ab) (col := col) (dd := dd) (k0 := k0) (k1 := k1) (k2 := k2) (k3 := k3) (k5 := k5)
    PySem.F.excBase_Exception (by decide +kernel) PySem.F.excBase_ValueError (by decide +kernel) hh (star_false hst) hmi ?_
  refine wpAny_noE ((gl_main (A := A) (σ := σ) (pos := np) hx (k_g_err _) : Gl w A env σ _ _) s H) fun f s₁ q => ?_
  obtain ⟨rfl, rfl⟩ := q
  refine ⟨rfl, ?_⟩
  have e1 : backTo cpos (starEach [a] env) = (false, eval a env) :: backTo cpos (starEach [] env) := by
    unfold noStar at hst
    rw [List.all_cons, Bool.and_eq_true] at hst
    cases a <;> first | rfl | (simp at hst; done)
  have key : wpAny (md w) A (spliced (backTo cpos (starEach [a] env))) (fun vs s' => Ext [] s₁ s' ∧ Vals s'.heap [d] vs) noE s₁ := evs_run (evs1 h) hst H
  rw [e1] at key ⊢
  refine Calls.evalArgs_plain (wpAny_noE key fun vs s₂ z => ?_)
  have B2 := hB.ext z.1
  obtain ⟨m31, hm31, hi31⟩ := ns_of (w := w) (N := 30) (by decide) (ns30 _)
  refine ⟨rfl, ?_, B2.top _ _ hc (by decide) (by decide), hmN _ B2, .own (B2.top _ _ h31 (by decide) (by decide)) (by rw [hn31]; exact hm31 _ B2) hi31 .base, fun h' e hm => ⟨s₂, z.1, h', e, vs, rfl, hm, rfl⟩⟩
  have := z.2.length
  show vs.length ≤ 16777216
  simp only [List.length_cons, List.length_nil] at this; omega
end
end Mine
end
section
open PySem PySem.W PyProof.Rows PySem.Builtin
set_option Elab.async false
set_option maxRecDepth 100000
namespace Mine

section
variable {w : World} {A : Around} {env : Env} {σ : List (Str × D)} {l : List Env} {s : Shared}

theorem tst_run {e : Expr} {b : Bool} (h : Tst w A env σ e b) (H : Holds w env σ s) : wpAny (md w) A (isTrue e env (eval e env)) (fun r s' => r = b ∧ Ext [] s s') noE s := h s H
theorem ev_run {e : Expr} {d : D} (h : Ev w A env σ e d) (H : Holds w env σ s) : wpAny (md w) A (eval e env) (Ok s d) noE s := h s H
/-- some arguments given, the others from the defaults -/
theorem bindsD {fd : FuncData} {ns : List Str} {T : Addr} {o : Obj} {items : Array Value} {j : Nat} {ds es : List D} {extra : List Value} (hdf : fd.defaults = .ref T) (ho : ∀ P, (hd.heap_39 P).lookup T = some o) (hs : o.data = .seq items j) (hT : (T == PH || T == PL) = false)
    (h : ∀ vs : List Value, vs.length = ds.length → ∃ k, bindArgs fd ⟨vs, []⟩ = seqItems? fd.defaults >>= k ∧ k (some items) = pure (ns.zip (vs ++ extra))) (he : ∀ s, Base w s → Vals s.heap es extra) :
    ∀ s vs, Base w s → Vals s.heap ds vs → ∃ vs', BindsTo s fd ⟨vs, []⟩ (ns.zip vs') ∧ Vals s.heap (ds ++ es) vs' := fun s vs B hv => by
  rw [Bool.or_eq_false_iff, beq_eq_false_iff_ne, beq_eq_false_iff_ne] at hT
  obtain ⟨k, h1, h2⟩ := h vs hv.length
  exact ⟨vs ++ extra, BindsTo.of_defaults hdf (B.top _ _ (ho _) hT.1 hT.2) hs h1 h2, hv.app (he s B)⟩

theorem fn_raise {k : Nat} {f : Addr} {name qual : Str} {params : Arguments} {body : List Stmt} {scope : Scope} {dV kV doc pm cdv ct oc : Value} {an od : Option Addr} {osl : Array (Option Value)} {ds ds' : List D}
    (ho : ∀ P, (hd.heap_39 P).lookup f = some ⟨oc, od, .func (fnX name qual params body scope [] dV kV doc pm an cdv ct), osl⟩)
    (hcd : codeIn (KB w.params) cdv qual = true)
    (hbind : ∀ s vs, Base w s → Vals s.heap ds vs → ∃ vs', BindsTo s (fnX name qual params body scope [] dV kV doc pm an cdv ct) ⟨vs, []⟩ ((params.args.map (·.arg)).zip vs') ∧ Vals s.heap ds' vs')
    (hlen : (params.args.map (·.arg)).length = ds'.length)
    (h : ∀ A L l s, Room k A → Stk A (envF qual scope L f cdv :: l) s → Holds w (envF qual scope L f cdv) ((params.args.map (·.arg)).zip ds') s → wpAny (md w) A (execs body (envF qual scope L f cdv)) (fun _ _ => False) (Errs w (envF qual scope L f cdv) l s) s)
    (hf : (f == PH || f == PL) = false := by decide)
    (hkind : ((params.args.map (·.arg)).all fun y => scope.names.lookup y == some .local || scope.names.lookup y == some .cell) = true := by rfl)
    (hnd : (params.args.map (·.arg)).Nodup := by decide) (hloc : ((params.args.map (·.arg)).any fun y => scope.names.lookup y == some .local) = true := by rfl)
    (hco : scope.isCoroutine = false := by rfl) (hgen : scope.isGenerator = false := by rfl) (hk : scope.kind = .function := by rfl) : FnX w (k + 1) f ds := by
  intro A s vs l r B K hv
  obtain ⟨vs', hb, hv'⟩ := hbind s vs B hv
  have hz := vals_names hv' hlen
  refine fn_enter B r (ho _) hcd hb (ds := ds') (by rw [hz.1]; exact hv') (fun L s₀ e hL H r' => ?_) hf ?_ (by rw [hz.2]; exact hnd) ?_ hco hgen hk
  · rw [hz.2] at H
    have K0 : Stk A l s₀ := K.ext e (by simp)
    refine wpAny_mono (h _ L l s₀ r' (K0.push H rfl rfl) H) (fun _ _ q => q.elim) fun x s' q => ?_
    exact leave_err B K e hL rfl rfl q fun s'' z => ⟨x, rfl, z⟩
  · refine List.all_eq_true.mpr fun y hy => List.all_eq_true.mp hkind y.1 ?_
    rw [← hz.2]; exact List.mem_map_of_mem hy
  · obtain ⟨y, hy, q⟩ := List.any_eq_true.mp hloc
    rw [← hz.2] at hy
    obtain ⟨p, hp, rfl⟩ := List.mem_map.mp hy
    exact List.any_eq_true.mpr ⟨p, hp, q⟩

theorem body_raise {np cpos pos : Pos} {a : Expr} {d : D} {rest : List Stmt} {Q : Flow → Shared → Prop} (hh : A.handled = none) (hx : env.kindOf "DXFValueError" = some .globalImplicit) (h : Ev w A env σ a d) (H : Holds w env σ s) (hst : noStar [a] = true := by rfl) :
    wpAny (md w) A (execs (.Raise (some (.Call (.Name "DXFValueError" np) [a] [] cpos)) none pos :: rest) env) Q (Errs w env l s) s := by
  refine wpAny_execs_cons (wpAny_mono (raise_made (Q := fun _ _ => False) hh hx h H hst) (fun _ _ q => q.elim) fun e s' q => ?_)
  obtain ⟨s₁, x, q⟩ := q
  exact ⟨s₁, x.wk0 H.big, (H.ext x).less (fun y d q => by cases q), .inl q⟩
/-- a pure beginning, then an exception -/
theorem Errs.after {s s₁ s' : Shared} {e : Value} (x : Ext (own env) s s₁) (q : Errs w env l s₁ e s') : Errs w env l s e s' := by
  obtain ⟨s₂, y, z⟩ := q
  exact ⟨s₂, x.trans y, z⟩

theorem cmp_is_same {a : Addr} : Cmp w A .Is (.raw (.ref a)) (.raw (.ref a)) true := by
  rintro _ _ s _ rfl rfl
  exact wpAny_bind (wpAny_isSame_ref_self (wpAny_pure ⟨rfl, Ext.refl s⟩))

/-- a for loop without an end before its end -/
theorem run_for {target iter : Expr} {body rest : List Stmt} {pos : Pos} {ds : List D} {bind : D → List (Str × D)} {P : D → Option D} {x0 : Str} {d0 : D} (it : Iter w A env σ target iter ds) (hx0 : env.kindOf x0 = some .local) (hσ : σ.lookup x0 = some d0)
    (asg : ∀ s v d, d ∈ ds → Val s.heap d v → Holds w env σ s → wpAny (md w) A (assign target env v) (fun _ s' => Holds w env (bind d ++ σ) s' ∧ Ext [env.locals] s s') noE s)
    (bdy : ∀ s d, d ∈ ds → Holds w env (bind d ++ σ) s → wpAny (md w) A (execs body env) (Out w env σ s (P d)) noE s)
    (h1 : ds.findSome? P = none) {Q : Flow → Shared → Prop} {E : Value → Shared → Prop} (s : Shared) (H : Holds w env σ s)
    (h2 : ∀ s', Ext (own env) s s' → Holds w env σ s' → wpAny (md w) A (execs rest env) Q E s') (hs : ∀ x, foldedSetIterable iter env x = pure x := by intro _; rfl) : wpAny (md w) A (execs (.For target iter body [] pos :: rest) env) Q E s := by
  refine wpAny_execs_cons (wpAny_noE (for_row it hx0 hσ asg bdy hs s H) fun f s₁ q => ?_)
  obtain ⟨x, q⟩ := q
  rw [h1] at q
  obtain ⟨rfl, H1⟩ := q
  exact h2 s₁ (x.wk (fun i hi => by rw [List.mem_singleton.mp hi]; exact List.mem_cons_self ..) H.big) H1
theorem find_none {rs : List Row} {c : Int} (h : firstOf rs c = none) {g : Row → D} : (rs.map tagD).findSome? (fun d => match d with | .tag c' x => if c' == c then some (g (c', x)) else none | _ => none) = none := by
  exact (find_tags (g := g)).trans (by rw [h]; rfl)

theorem len1 {P : List Value → Prop} (h : ∀ v, P [v]) : ∀ vs : List Value, vs.length = 1 → P vs := fun vs hl => by
  obtain ⟨v, rfl⟩ := List.length_eq_one_iff.mp hl
  exact h v
theorem len2 {P : List Value → Prop} (h : ∀ v u, P [v, u]) : ∀ vs : List Value, vs.length = 2 → P vs := fun vs hl => by
  obtain ⟨v, r, rfl⟩ := List.exists_cons_of_length_eq_add_one hl
  obtain ⟨u, rfl⟩ := List.length_eq_one_iff.mp (show r.length = 1 by simpa using hl)
  exact h v u
theorem len3 {P : List Value → Prop} (h : ∀ v u x, P [v, u, x]) : ∀ vs : List Value, vs.length = 3 → P vs := fun vs hl => by
  obtain ⟨v, r, rfl⟩ := List.exists_cons_of_length_eq_add_one hl
  exact len2 (P := fun r => P (v :: r)) (h v) r (show r.length = 2 by simpa using hl)
theorem len4 {P : List Value → Prop} (h : ∀ v u x y, P [v, u, x, y]) : ∀ vs : List Value, vs.length = 4 → P vs := fun vs hl => by
  obtain ⟨v, r, rfl⟩ := List.exists_cons_of_length_eq_add_one hl
  exact len3 (P := fun r => P (v :: r)) (h v) r (show r.length = 3 by simpa using hl)
theorem raw_vals {a : Addr} : ∀ s, Base w s → Vals s.heap [.raw (.ref a)] [.ref a] := fun s _ => ⟨_, _, rfl, rfl, rfl⟩
theorem fnx_first_val {k : Nat} {rs : List Row} {c : Int} (hz : rs.length ≤ 100) (hno : firstOf rs c = none) : FnX w (k + 3) 252 [tagsD rs, .int c] := by
  refine fn_raise (ds' := [tagsD rs, .int c] ++ [.raw (.ref cErr)]) (fun P => by k_is) (by kernel_rfl) (by exact bindsD rfl (fun P => by k_is) rfl (by decide) (len2 fun v u => ⟨_, rfl, rfl⟩) raw_vals) (by rfl) (by
    intro A L l s r K H
    refine run_for (bind := fun d => [("tag", d)]) (P := fun d => match d with | .tag c' x => if c' == c then some (.str x) else none | _ => none) (x0 := "self") (iter_tags r.handled (ev_name rfl)) rfl rfl (fun s v d _ hv H => asg_name rfl rfl hv H) (fun s d hd H => ?_) (find_none hno (g := fun r => .str r.2)) s H fun s' x H' => ?_
    · obtain ⟨r', hr', rfl⟩ := List.mem_map.mp hd
      exact out_ifret (tst_cmp (ev_code r (ev_name rfl)) (ev_name rfl) cmp_eq_int) (fun _ => ev_value r (ev_name rfl)) (less1 rfl) H
    · refine wpAny_execs_cons (wpAny_If (wpAny_noE (tst_run (tst_cmp (ev_name rfl) (ev_err rfl) cmp_is_same) H') fun c' s₁ q => ?_))
      obtain ⟨rfl, x1⟩ := q
      exact wpAny_mono (body_raise r.handled rfl (ev_name rfl) (H'.ext x1)) (fun _ _ q => q) fun e s'' q => Errs.after (x.trans (x1.wk0 H.big)) q)
theorem fnx_first_tag {k : Nat} {rs : List Row} {c : Int} (hz : rs.length ≤ 100) (hno : firstOf rs c = none) : FnX w (k + 3) 260 [tagsD rs, .int c] := by
  refine fn_raise (ds' := [tagsD rs, .int c] ++ [.raw (.ref cErr)]) (fun P => by k_is) (by kernel_rfl) (by exact bindsD rfl (fun P => by k_is) rfl (by decide) (len2 fun v u => ⟨_, rfl, rfl⟩) raw_vals) (by rfl) (by
    intro A L l s r K H
    refine run_for (bind := fun d => [("tag", d)]) (P := fun d => match d with | .tag c' x => if c' == c then some (.tag c' x) else none | _ => none) (x0 := "self") (iter_tags r.handled (ev_name rfl)) rfl rfl (fun s v d _ hv H => asg_name rfl rfl hv H) (fun s d hd H => ?_) (find_none hno (g := fun r => .tag r.1 r.2)) s H fun s' x H' => ?_
    · obtain ⟨r', hr', rfl⟩ := List.mem_map.mp hd
      exact out_ifret (tst_cmp (ev_code r (ev_name rfl)) (ev_name rfl) cmp_eq_int) (fun _ => ev_name rfl) (less1 rfl) H
    · refine wpAny_execs_cons (wpAny_If (wpAny_noE (tst_run (tst_cmp (ev_name rfl) (ev_err rfl) cmp_is_same) H') fun c' s₁ q => ?_))
      obtain ⟨rfl, x1⟩ := q
      exact wpAny_mono (body_raise r.handled rfl (ev_name rfl) (H'.ext x1)) (fun _ _ q => q) fun e s'' q => Errs.after (x.trans (x1.wk0 H.big)) q)

/-! the found ones, with the class as the unused default -/
theorem fn_first_val1 {k : Nat} {rs : List Row} {c : Int} {r0 : Row} (hz : rs.length ≤ 100) (hf : firstOf rs c = some r0) : Fn w (k + 3) 252 [tagsD rs, .int c] (.str r0.2) := by
  refine fn_pureB (ds' := [tagsD rs, .int c] ++ [.raw (.ref cErr)]) (fun P => by k_is) (by kernel_rfl) (by exact bindsD rfl (fun P => by k_is) rfl (by decide) (len2 fun v u => ⟨_, rfl, rfl⟩) raw_vals) (by rfl) (by
    intro A L r
    refine body_for (bind := fun d => [("tag", d)]) (P := fun d => match d with | .tag c' x => if c' == c then some (.str x) else none | _ => none) (x0 := "self") (iter_tags r.handled (ev_name rfl)) rfl rfl (fun s v d _ hv H => asg_name rfl rfl hv H) (fun s d hd H => ?_) (fun q hq => ?_) (fun hq => ?_)
    · obtain ⟨r', hr', rfl⟩ := List.mem_map.mp hd
      exact out_ifret (tst_cmp (ev_code r (ev_name rfl)) (ev_name rfl) cmp_eq_int) (fun _ => ev_value r (ev_name rfl)) (less1 rfl) H
    · have := (find_tags (rs := rs) (c := c) (g := fun r => .str r.2)).symm.trans hq
      rw [hf] at this; cases this; rfl
    · have := (find_tags (rs := rs) (c := c) (g := fun r => .str r.2)).symm.trans hq
      rw [hf] at this; cases this)
theorem fn_first_tag1 {k : Nat} {rs : List Row} {c : Int} {r0 : Row} (hz : rs.length ≤ 100) (hf : firstOf rs c = some r0) : Fn w (k + 3) 260 [tagsD rs, .int c] (tagD r0) := by
  refine fn_pureB (ds' := [tagsD rs, .int c] ++ [.raw (.ref cErr)]) (fun P => by k_is) (by kernel_rfl) (by exact bindsD rfl (fun P => by k_is) rfl (by decide) (len2 fun v u => ⟨_, rfl, rfl⟩) raw_vals) (by rfl) (by
    intro A L r
    refine body_for (bind := fun d => [("tag", d)]) (P := fun d => match d with | .tag c' x => if c' == c then some (.tag c' x) else none | _ => none) (x0 := "self") (iter_tags r.handled (ev_name rfl)) rfl rfl (fun s v d _ hv H => asg_name rfl rfl hv H) (fun s d hd H => ?_) (fun q hq => ?_) (fun hq => ?_)
    · obtain ⟨r', hr', rfl⟩ := List.mem_map.mp hd
      exact out_ifret (tst_cmp (ev_code r (ev_name rfl)) (ev_name rfl) cmp_eq_int) (fun _ => ev_name rfl) (less1 rfl) H
    · have := (find_tags (rs := rs) (c := c) (g := fun r => .tag r.1 r.2)).symm.trans hq
      rw [hf] at this; cases this; rfl
    · have := (find_tags (rs := rs) (c := c) (g := fun r => .tag r.1 r.2)).symm.trans hq
      rw [hf] at this; cases this)
end
end Mine
end
section
open PySem PySem.W PyProof.Rows PySem.Builtin
set_option Elab.async false
set_option maxRecDepth 100000
namespace Mine

section
variable {w : World} {A : Around} {env : Env} {σ : List (Str × D)} {l : List Env} {s : Shared}

theorem tst_of {e : Expr} {b c : Bool} (h : Tst w A env σ e b) (q : b = c) : Tst w A env σ e c := q ▸ h
/-- x = e -/
theorem stm_assign {x : Str} {px pos : Pos} {e : Expr} {d : D} (h : Ev w A env σ e d) (H : Holds w env σ s)
    (hk : env.kindOf x = some .local ∨ (env.kindOf x = some .cell ∧ (env.cells.lookup x).isSome = true) := by first | exact .inl rfl | exact .inr ⟨rfl, rfl⟩) (hf : env.func.isSome = true := by rfl)
    (hs : swapsWith e (some (.Name x px)) pos.line env = pure false := by rfl) : wpAny (md w) A (exec (.Assign [.Name x px] e pos) env) (fun f s' => f = .next ∧ Holds w env ((x, d) :: σ) s' ∧ Ext (own env) s s') noE s :=
  wpAny_Assign_Name (wpAny_noE (h s H) fun v s₁ q => (H.ext q.1).store q.2 hk (.inl hf) fun s₂ H₂ e _ _ _ => ⟨rfl, H₂, (q.1.wk0 H.big).trans (e.wk (fun i hi => place_own i hi) H.big)⟩) hs
theorem run_assign {x : Str} {px pos : Pos} {e : Expr} {d : D} {rest : List Stmt} {Q : Flow → Shared → Prop} {E : Value → Shared → Prop} (h : Ev w A env σ e d) (H : Holds w env σ s) (k : ∀ s', Ext (own env) s s' → Holds w env ((x, d) :: σ) s' → wpAny (md w) A (execs rest env) Q E s')
    (hk : env.kindOf x = some .local ∨ (env.kindOf x = some .cell ∧ (env.cells.lookup x).isSome = true) := by first | exact .inl rfl | exact .inr ⟨rfl, rfl⟩) (hf : env.func.isSome = true := by rfl)
    (hs : swapsWith e (some (.Name x px)) pos.line env = pure false := by rfl) : wpAny (md w) A (execs (.Assign [.Name x px] e pos :: rest) env) Q E s :=
  wpAny_execs_cons (wpAny_noE (stm_assign h H hk hf hs) fun f s' q => by obtain ⟨rfl, H', e⟩ := q; exact k s' e H')
/-- if t: a, and on -/
theorem run_if {t : Expr} {a rest : List Stmt} {pos : Pos} {c : Bool} {Q : Flow → Shared → Prop} {E : Value → Shared → Prop} (ht : Tst w A env σ t c) (H : Holds w env σ s)
    (h1 : c = true → ∀ s', Ext [] s s' → Holds w env σ s' → wpAny (md w) A (execs a env) (fun f s₁ => f = .next ∧ wpAny (md w) A (execs rest env) Q E s₁) E s')
    (h2 : c = false → ∀ s', Ext [] s s' → Holds w env σ s' → wpAny (md w) A (execs rest env) Q E s') : wpAny (md w) A (execs (.If t a [] pos :: rest) env) Q E s := by
  refine wpAny_execs_cons (wpAny_If (wpAny_noE (ht s H) fun c' s₁ q => ?_))
  obtain ⟨rfl, x⟩ := q
  cases c' with
  | true => exact wpAny_mono (h1 rfl s₁ x (H.ext x)) (fun f s₂ z => by obtain ⟨rfl, z⟩ := z; exact z) fun _ _ z => z
  | false => exact wpAny_execs_nil (h2 rfl s₁ x (H.ext x))

/-- while t: if c: return r; x += 1 -/
theorem loop_find {test cond re one : Expr} {p1 p2 p3 px pos : Pos} {x : Str} {a n : Nat} {σ0 : List (Str × D)} {res : Option D} (kl : env.kindOf x = some .local) (hf : env.func.isSome = true)
    (ht : ∀ i, i < n → Tst w A env ((x, .int ((a + i : Nat) : Int)) :: σ0) test true) (hc : ∀ i, i < n → Tst w A env ((x, .int ((a + i : Nat) : Int)) :: σ0) cond false)
    (h1 : ∀ i, Ev w A env ((x, .int ((a + i : Nat) : Int)) :: σ0) one (.int 1))
    (fin : (Tst w A env ((x, .int ((a + n : Nat) : Int)) :: σ0) test false ∧ res = none) ∨ (Tst w A env ((x, .int ((a + n : Nat) : Int)) :: σ0) test true ∧ Tst w A env ((x, .int ((a + n : Nat) : Int)) :: σ0) cond true ∧ ∃ d, res = some d ∧ Ev w A env ((x, .int ((a + n : Nat) : Int)) :: σ0) re d))
    (H : Holds w env ((x, .int (a : Int)) :: σ0) s) (hd : (x == ("__debug__" : Str)) = false := by decide) (hn : (x == ("__classdict__" : Str)) = false := by decide) :
    wpAny (md w) A (exec (.While test [.If cond [.Return (some re) p1] [] p2, .AugAssign (.Name x px) .Add one p3] [] pos) env) (OutS w [env.locals] env ((x, .int ((a + n : Nat) : Int)) :: σ0) s res) noE s := by
  have hL : ∀ i ∈ [env.locals], nTop ≤ i := fun i hi => by rw [List.mem_singleton.mp hi]; exact H.big _ (List.mem_cons_self ..)
  have lk : ∀ (i : Nat), ((x, D.int ((a + i : Nat) : Int)) :: σ0).lookup x = some (.int ((a + i : Nat) : Int)) := fun i => by rw [List.lookup_cons, beq_self_eq_true]
  refine while_run (σ := fun i => (x, .int ((a + i : Nat) : Int)) :: σ0) n hL (fun i hi => ⟨ht i hi, fun s H => ?_⟩) ?_ s H
  · refine run_if (hc i hi) H (fun q => by cases q) fun _ s₁ e1 H1 => ?_
    refine wpAny_execs_cons (wpAny_noE (aug_int (lk i) (h1 i) H1 kl hf hd hn) fun f s₂ q => ?_)
    obtain ⟨rfl, H2, e2⟩ := q
    refine wpAny_execs_nil ⟨(e1.wk0 hL).trans e2, rfl, H2.less fun y d q => ?_⟩
    rw [List.lookup_cons] at q ⊢
    split at q
    · rw [← q]; push_cast; rw [show (a : Int) + (i + 1) = a + i + 1 by omega]
    · rename_i z
      rw [List.lookup_cons, z]; exact q
  · rcases fin with ⟨h, q⟩ | ⟨h, hc2, d, rfl, he⟩
    · exact .inl ⟨h, q⟩
    · refine .inr ⟨h, fun s H => ?_⟩
      refine wpAny_execs_cons (wpAny_If (wpAny_noE (hc2 s H) fun c s₁ q => ?_))
      obtain ⟨rfl, x1⟩ := q
      refine wpAny_execs_cons (wpAny_Return_some (wpAny_noE (he s₁ (H.ext x1)) fun v s₂ z => ?_))
      exact ⟨(x1.trans z.1).wk0 hL, v, rfl, z.2⟩

theorem none_vals : ∀ s, Base w s → Vals s.heap [.none] [.none] := fun s _ => ⟨_, _, rfl, rfl, rfl⟩
theorem zero_vals {t : PySem.Tok} : ∀ s, Base w s → Vals s.heap [.int 0, .none] [.int 0 t, .none] := fun s _ => ⟨_, _, rfl, ⟨_, rfl⟩, _, _, rfl, rfl, rfl⟩
theorem getTag {rs : List Row} {i : Nat} {r : Row} (h : rs[i]? = some r) : (rs.map tagD)[i]? = some (tagD r) := by rw [List.getElem?_map, h]; rfl

/-! the first place of a code between two places -/
theorem fn_index2 {k : Nat} {rs : List Row} {c : Int} {a : Nat} {n : Nat} (hz : rs.length ≤ 100) (hlt : a + n < rs.length) (hno : ∀ i, i < n → ∀ r, rs[a + i]? = some r → (r.1 == c) = false) (r0 : Row) (hr0 : rs[a + n]? = some r0) (hyes : (r0.1 == c) = true) : Fn w (k + 4) 273 [tagsD rs, .int c, .int (a : Int)] (.int ((a + n : Nat) : Int)) := by
  refine fn_pureB (ds' := [tagsD rs, .int c, .int (a : Int)] ++ [.none]) (fun P => by k_is) (by kernel_rfl) (by exact bindsD rfl (fun P => by k_is) rfl (by decide) (len3 fun v u x => ⟨_, rfl, rfl⟩) none_vals) (by rfl) (by
    intro A L r s H
    refine run_if (tst_cmp (ev_name rfl) ev_none cmp_none_none) H ?_ ?_
    · intro _ s1 e1 H1
      refine wpAny_execs_cons (wpAny_noE (stm_assign (ev_len_tags rfl (ev_name rfl) (by simp; omega)) H1) fun f s2 q2 => ?_)
      obtain ⟨rfl, H2, e2⟩ := q2
      refine wpAny_execs_nil ⟨rfl, ?_⟩
      simp only [List.length_map] at H2
      refine run_assign (ev_name rfl) H2 fun s3 e3 H3 => ?_
      refine wpAny_execs_cons (wpAny_noE (loop_find (a := a) (n := n) (res := some (.int ((a + n : Nat) : Int))) rfl rfl (fun i hi => ?_) (fun i hi => ?_) (fun i => ev_int) ?_ H3) fun f s4 q4 => ?_)
      · exact tst_of (tst_cmp (ev_name rfl) (ev_name rfl) cmp_lt_int) (by simp only [decide_eq_true_eq]; omega)
      · have hl : a + i < rs.length := by omega
        refine tst_of (tst_cmp (ev_code r (ev_item_tags (ev_name rfl) (ev_name rfl) (by omega) (getTag (List.getElem?_eq_getElem (by rw [Int.toNat_natCast]; exact hl))) (by simp; omega))) (ev_name rfl) cmp_eq_int) ?_
        exact hno i hi _ (List.getElem?_eq_getElem hl)
      · refine .inr ⟨tst_of (tst_cmp (ev_name rfl) (ev_name rfl) cmp_lt_int) (by simp only [decide_eq_true_eq]; omega), tst_of (tst_cmp (ev_code r (ev_item_tags (ev_name rfl) (ev_name rfl) (by omega) (getTag (r := r0) (by rw [Int.toNat_natCast]; exact hr0)) (by simp; omega))) (ev_name rfl) cmp_eq_int) hyes, _, rfl, ev_name rfl⟩
      · obtain ⟨x4, v, rfl, hv⟩ := q4
        exact ⟨v, rfl, (((e1.wk0 H.big).trans e2).trans e3).trans (x4.wk (fun i hi => by rw [List.mem_singleton.mp hi]; exact List.mem_cons_self ..) H3.big), hv⟩
    · intro q; cases q)
theorem fnx_index2 {k : Nat} {rs : List Row} {c : Int} {a : Nat} (hz : rs.length ≤ 100) (hno : ∀ i, a ≤ i → i < rs.length → ∀ r, rs[i]? = some r → (r.1 == c) = false) : FnX w (k + 4) 273 [tagsD rs, .int c, .int (a : Int)] := by
  obtain ⟨n, hn⟩ : ∃ n, n = rs.length - a := ⟨_, rfl⟩
  refine fn_raise (ds' := [tagsD rs, .int c, .int (a : Int)] ++ [.none]) (fun P => by k_is) (by kernel_rfl) (by exact bindsD rfl (fun P => by k_is) rfl (by decide) (len3 fun v u x => ⟨_, rfl, rfl⟩) none_vals) (by rfl) (by
    intro A L l s r K H
    refine run_if (tst_cmp (ev_name rfl) ev_none cmp_none_none) H ?_ ?_
    · intro _ s1 e1 H1
      refine wpAny_execs_cons (wpAny_noE (stm_assign (ev_len_tags rfl (ev_name rfl) (by simp; omega)) H1) fun f s2 q2 => ?_)
      obtain ⟨rfl, H2, e2⟩ := q2
      refine wpAny_execs_nil ⟨rfl, ?_⟩
      simp only [List.length_map] at H2
      refine run_assign (ev_name rfl) H2 fun s3 e3 H3 => ?_
      refine wpAny_execs_cons (wpAny_noE (loop_find (a := a) (n := n) (res := none) rfl rfl (fun i hi => ?_) (fun i hi => ?_) (fun i => ev_int) ?_ H3) fun f s4 q4 => ?_)
      · exact tst_of (tst_cmp (ev_name rfl) (ev_name rfl) cmp_lt_int) (by simp only [decide_eq_true_eq]; omega)
      · have hl : a + i < rs.length := by omega
        refine tst_of (tst_cmp (ev_code r (ev_item_tags (ev_name rfl) (ev_name rfl) (by omega) (getTag (List.getElem?_eq_getElem (by rw [Int.toNat_natCast]; exact hl))) (by simp; omega))) (ev_name rfl) cmp_eq_int) ?_
        exact hno (a + i) (by omega) (by omega) _ (List.getElem?_eq_getElem hl)
      · exact .inl ⟨tst_of (tst_cmp (ev_name rfl) (ev_name rfl) cmp_lt_int) (by simp only [decide_eq_false_iff_not]; omega), rfl⟩
      · obtain ⟨x4, rfl, H4⟩ := q4
        exact wpAny_mono (body_raise r.handled rfl (ev_name rfl) H4) (fun _ _ q => q) fun x s5 q => Errs.after ((((e1.wk0 H.big).trans e2).trans e3).trans (x4.wk (fun i hi => by rw [List.mem_singleton.mp hi]; exact List.mem_cons_self ..) H3.big)) q
    · intro q; cases q)
theorem fn_index3 {k : Nat} {rs : List Row} {c : Int} {a e : Nat} {n : Nat} (hz : rs.length ≤ 100) (he : e ≤ rs.length) (hlt : a + n < e) (hno : ∀ i, i < n → ∀ r, rs[a + i]? = some r → (r.1 == c) = false) (r0 : Row) (hr0 : rs[a + n]? = some r0) (hyes : (r0.1 == c) = true) : Fn w (k + 4) 273 [tagsD rs, .int c, .int (a : Int), .int (e : Int)] (.int ((a + n : Nat) : Int)) := by
  refine fn_pureB (ds' := [tagsD rs, .int c, .int (a : Int), .int (e : Int)] ++ []) (fun P => by k_is) (by kernel_rfl) (by exact bindsD rfl (fun P => by k_is) rfl (by decide) (len4 fun v u x y => ⟨_, rfl, rfl⟩) (fun s _ => rfl)) (by rfl) (by
    intro A L r s H
    refine run_if (tst_cmp (ev_name rfl) ev_none (cmp_is_none fun h v hv => by obtain ⟨_, rfl⟩ := hv; simp)) H ?_ ?_
    · intro q; cases q
    · intro _ s2 e2 H2
      refine run_assign (ev_name rfl) H2 fun s3 e3 H3 => ?_
      refine wpAny_execs_cons (wpAny_noE (loop_find (a := a) (n := n) (res := some (.int ((a + n : Nat) : Int))) rfl rfl (fun i hi => ?_) (fun i hi => ?_) (fun i => ev_int) ?_ H3) fun f s4 q4 => ?_)
      · exact tst_of (tst_cmp (ev_name rfl) (ev_name rfl) cmp_lt_int) (by simp only [decide_eq_true_eq]; omega)
      · have hl : a + i < rs.length := by omega
        refine tst_of (tst_cmp (ev_code r (ev_item_tags (ev_name rfl) (ev_name rfl) (by omega) (getTag (List.getElem?_eq_getElem (by rw [Int.toNat_natCast]; exact hl))) (by simp; omega))) (ev_name rfl) cmp_eq_int) ?_
        exact hno i hi _ (List.getElem?_eq_getElem hl)
      · refine .inr ⟨tst_of (tst_cmp (ev_name rfl) (ev_name rfl) cmp_lt_int) (by simp only [decide_eq_true_eq]; omega), tst_of (tst_cmp (ev_code r (ev_item_tags (ev_name rfl) (ev_name rfl) (by omega) (getTag (r := r0) (by rw [Int.toNat_natCast]; exact hr0)) (by simp; omega))) (ev_name rfl) cmp_eq_int) hyes, _, rfl, ev_name rfl⟩
      · obtain ⟨x4, v, rfl, hv⟩ := q4
        exact ⟨v, rfl, ((e2.wk0 H.big).trans e3).trans (x4.wk (fun i hi => by rw [List.mem_singleton.mp hi]; exact List.mem_cons_self ..) H3.big), hv⟩)
theorem fnx_index3 {k : Nat} {rs : List Row} {c : Int} {a e : Nat} (hz : rs.length ≤ 100) (he : e ≤ rs.length) (hno : ∀ i, a ≤ i → i < e → ∀ r, rs[i]? = some r → (r.1 == c) = false) : FnX w (k + 4) 273 [tagsD rs, .int c, .int (a : Int), .int (e : Int)] := by
  obtain ⟨n, hn⟩ : ∃ n, n = e - a := ⟨_, rfl⟩
  refine fn_raise (ds' := [tagsD rs, .int c, .int (a : Int), .int (e : Int)] ++ []) (fun P => by k_is) (by kernel_rfl) (by exact bindsD rfl (fun P => by k_is) rfl (by decide) (len4 fun v u x y => ⟨_, rfl, rfl⟩) (fun s _ => rfl)) (by rfl) (by
    intro A L l s r K H
    refine run_if (tst_cmp (ev_name rfl) ev_none (cmp_is_none fun h v hv => by obtain ⟨_, rfl⟩ := hv; simp)) H ?_ ?_
    · intro q; cases q
    · intro _ s2 e2 H2
      refine run_assign (ev_name rfl) H2 fun s3 e3 H3 => ?_
      refine wpAny_execs_cons (wpAny_noE (loop_find (a := a) (n := n) (res := none) rfl rfl (fun i hi => ?_) (fun i hi => ?_) (fun i => ev_int) ?_ H3) fun f s4 q4 => ?_)
      · exact tst_of (tst_cmp (ev_name rfl) (ev_name rfl) cmp_lt_int) (by simp only [decide_eq_true_eq]; omega)
      · have hl : a + i < rs.length := by omega
        refine tst_of (tst_cmp (ev_code r (ev_item_tags (ev_name rfl) (ev_name rfl) (by omega) (getTag (List.getElem?_eq_getElem (by rw [Int.toNat_natCast]; exact hl))) (by simp; omega))) (ev_name rfl) cmp_eq_int) ?_
        exact hno (a + i) (by omega) (by omega) _ (List.getElem?_eq_getElem hl)
      · exact .inl ⟨tst_of (tst_cmp (ev_name rfl) (ev_name rfl) cmp_lt_int) (by simp only [decide_eq_false_iff_not]; omega), rfl⟩
      · obtain ⟨x4, rfl, H4⟩ := q4
        exact wpAny_mono (body_raise r.handled rfl (ev_name rfl) H4) (fun _ _ q => q) fun x s5 q => Errs.after (((e2.wk0 H.big).trans e3).trans (x4.wk (fun i hi => by rw [List.mem_singleton.mp hi]; exact List.mem_cons_self ..) H3.big)) q)
theorem fn_index1 {k : Nat} {rs : List Row} {c : Int} {n : Nat} (hz : rs.length ≤ 100) (hlt : 0 + n < rs.length) (hno : ∀ i, i < n → ∀ r, rs[0 + i]? = some r → (r.1 == c) = false) (r0 : Row) (hr0 : rs[0 + n]? = some r0) (hyes : (r0.1 == c) = true) : Fn w (k + 4) 273 [tagsD rs, .int c] (.int ((0 + n : Nat) : Int)) := by
  refine fn_pureB (ds' := [tagsD rs, .int c] ++ [.int 0, .none]) (fun P => by k_is) (by kernel_rfl) (by exact bindsD rfl (fun P => by k_is) rfl (by decide) (len2 fun v u => ⟨_, rfl, rfl⟩) zero_vals) (by rfl) (by
    intro A L r s H
    refine run_if (tst_cmp (ev_name rfl) ev_none cmp_none_none) H ?_ ?_
    · intro _ s1 e1 H1
      refine wpAny_execs_cons (wpAny_noE (stm_assign (ev_len_tags rfl (ev_name rfl) (by simp; omega)) H1) fun f s2 q2 => ?_)
      obtain ⟨rfl, H2, e2⟩ := q2
      refine wpAny_execs_nil ⟨rfl, ?_⟩
      simp only [List.length_map] at H2
      refine run_assign (ev_name rfl) H2 fun s3 e3 H3 => ?_
      refine wpAny_execs_cons (wpAny_noE (loop_find (a := 0) (n := n) (res := some (.int ((0 + n : Nat) : Int))) rfl rfl (fun i hi => ?_) (fun i hi => ?_) (fun i => ev_int) ?_ H3) fun f s4 q4 => ?_)
      · exact tst_of (tst_cmp (ev_name rfl) (ev_name rfl) cmp_lt_int) (by simp only [decide_eq_true_eq]; omega)
      · have hl : 0 + i < rs.length := by omega
        refine tst_of (tst_cmp (ev_code r (ev_item_tags (ev_name rfl) (ev_name rfl) (by omega) (getTag (List.getElem?_eq_getElem (by rw [Int.toNat_natCast]; exact hl))) (by simp; omega))) (ev_name rfl) cmp_eq_int) ?_
        exact hno i hi _ (List.getElem?_eq_getElem hl)
      · refine .inr ⟨tst_of (tst_cmp (ev_name rfl) (ev_name rfl) cmp_lt_int) (by simp only [decide_eq_true_eq]; omega), tst_of (tst_cmp (ev_code r (ev_item_tags (ev_name rfl) (ev_name rfl) (by omega) (getTag (r := r0) (by rw [Int.toNat_natCast]; exact hr0)) (by simp; omega))) (ev_name rfl) cmp_eq_int) hyes, _, rfl, ev_name rfl⟩
      · obtain ⟨x4, v, rfl, hv⟩ := q4
        exact ⟨v, rfl, (((e1.wk0 H.big).trans e2).trans e3).trans (x4.wk (fun i hi => by rw [List.mem_singleton.mp hi]; exact List.mem_cons_self ..) H3.big), hv⟩
    · intro q; cases q)
theorem fnx_index1 {k : Nat} {rs : List Row} {c : Int} (hz : rs.length ≤ 100) (hno : ∀ i, 0 ≤ i → i < rs.length → ∀ r, rs[i]? = some r → (r.1 == c) = false) : FnX w (k + 4) 273 [tagsD rs, .int c] := by
  obtain ⟨n, hn⟩ : ∃ n, n = rs.length - 0 := ⟨_, rfl⟩
  refine fn_raise (ds' := [tagsD rs, .int c] ++ [.int 0, .none]) (fun P => by k_is) (by kernel_rfl) (by exact bindsD rfl (fun P => by k_is) rfl (by decide) (len2 fun v u => ⟨_, rfl, rfl⟩) zero_vals) (by rfl) (by
    intro A L l s r K H
    refine run_if (tst_cmp (ev_name rfl) ev_none cmp_none_none) H ?_ ?_
    · intro _ s1 e1 H1
      refine wpAny_execs_cons (wpAny_noE (stm_assign (ev_len_tags rfl (ev_name rfl) (by simp; omega)) H1) fun f s2 q2 => ?_)
      obtain ⟨rfl, H2, e2⟩ := q2
      refine wpAny_execs_nil ⟨rfl, ?_⟩
      simp only [List.length_map] at H2
      refine run_assign (ev_name rfl) H2 fun s3 e3 H3 => ?_
      refine wpAny_execs_cons (wpAny_noE (loop_find (a := 0) (n := n) (res := none) rfl rfl (fun i hi => ?_) (fun i hi => ?_) (fun i => ev_int) ?_ H3) fun f s4 q4 => ?_)
      · exact tst_of (tst_cmp (ev_name rfl) (ev_name rfl) cmp_lt_int) (by simp only [decide_eq_true_eq]; omega)
      · have hl : 0 + i < rs.length := by omega
        refine tst_of (tst_cmp (ev_code r (ev_item_tags (ev_name rfl) (ev_name rfl) (by omega) (getTag (List.getElem?_eq_getElem (by rw [Int.toNat_natCast]; exact hl))) (by simp; omega))) (ev_name rfl) cmp_eq_int) ?_
        exact hno (0 + i) (by omega) (by omega) _ (List.getElem?_eq_getElem hl)
      · exact .inl ⟨tst_of (tst_cmp (ev_name rfl) (ev_name rfl) cmp_lt_int) (by simp only [decide_eq_false_iff_not]; omega), rfl⟩
      · obtain ⟨x4, rfl, H4⟩ := q4
        exact wpAny_mono (body_raise r.handled rfl (ev_name rfl) H4) (fun _ _ q => q) fun x s5 q => Errs.after ((((e1.wk0 H.big).trans e2).trans e3).trans (x4.wk (fun i hi => by rw [List.mem_singleton.mp hi]; exact List.mem_cons_self ..) H3.big)) q
    · intro q; cases q)
end
end Mine
end
section
open PySem PySem.W PyProof.Rows PySem.Builtin
set_option Elab.async false
set_option maxRecDepth 100000
namespace Mine

/-- a row at a is now d -/
structure Chg (w : World) (C : Value) (a : Addr) (d : D) (s s' : Shared) : Prop where
  ext : ∃ s₁, Ext [] s s₁ ∧ Ext [a] s₁ s' ∧ ∀ o, s₁.heap.get? a = some o → o.cls = C ∧ (∀ v, o.data ≠ .cell v) ∧ ∀ es ep, o.data ≠ .dict es ep
  val : Val s'.heap d (.ref a)
theorem Chg.one {w : World} {C : Value} {a : Addr} {d : D} {s s' : Shared} (c : Chg w C a d s s') : Ext [a] s s' := by
  obtain ⟨s₁, e1, e2, _⟩ := c.ext
  exact (e1.wk0 e2.own).trans e2
theorem Chg.after {w : World} {C : Value} {a : Addr} {d : D} {s s₀ s' : Shared} (e : Ext [] s s₀) (c : Chg w C a d s₀ s') : Chg w C a d s s' := by
  obtain ⟨s₁, e1, e2, h⟩ := c.ext
  exact ⟨⟨s₁, e.trans e1, e2, h⟩, c.val⟩
theorem Holds.chg {w : World} {env : Env} {σ σ' : List (Str × D)} {s s' : Shared} {a : Addr} {C : Value} {d : D} (H : Holds w env σ s) (hf : env.func.isSome = true) (c : Chg w C a d s s')
    (h : ∀ y d', σ'.lookup y = some d' → ∃ e, σ.lookup y = some e ∧ ((e = d' ∧ safe C a e = true) ∨ ∃ x, e = .at a x ∧ d' = .at a d)) : Holds w env σ' s' := by
  obtain ⟨s₁, e1, e2, hc⟩ := c.ext
  refine Holds.mut hf (H.ext e1) e2 hc fun y d' q => ?_
  obtain ⟨e, h1, h2⟩ := h y d' q
  refine ⟨e, h1, h2.imp id ?_⟩
  rintro ⟨x, rfl, rfl⟩
  exact ⟨x, d, rfl, rfl, c.val⟩

section
variable {w : World} {A : Around} {env : Env} {σ : List (Str × D)} {s : Shared} {a : Addr}

theorem toAt {h : Heap} {d : D} {v : Value} (r : isRefD d = true) (hv : Val h d v) : ∃ a, v = .ref a ∧ Val h (.at a d) v := by
  obtain ⟨a, rfl⟩ := isRefD_ref r hv
  exact ⟨a, rfl, rfl, hv⟩
theorem tags_chg {s₂ : Shared} {vs ws : List Value} {n n' m : Nat} {dx : Addr} {us : List D} (B : Base w s) (g : s.heap.get? a = some (tagsO vs n dx)) (gd : s.heap.get? dx = some (dictO m)) (e : Ext [a] s s₂) (g2 : s₂.heap.get? a = some (tagsO ws n' dx)) (hws : Vals s.heap us ws) (fl : ∀ d ∈ us, flat d = true) :
    Chg w (.ref cTags) a (.tags us) s s₂ := by
  refine ⟨⟨s, Ext.refl s, e, fun o q => ?_⟩, a, ws, n', dx, m, rfl, g2, e.at B gd (fun hm => ?_) (by simp), e.vals B (fun b hb o q => ?_) hws⟩
  · rw [g] at q; cases q; exact ⟨rfl, (fun _ q => by cases q), (fun _ _ q => by cases q)⟩
  · rw [List.mem_singleton.mp hm, g] at gd; cases gd
  · rw [List.mem_singleton.mp hb, g] at q; cases q
    exact Soft.apartL (.inr (.inr (.inl rfl))) fl
/-- a Tags object's place is no top object -/

theorem m_append (w : World) : TMeth w "append" (.builtin "list.append") (.type "method_descriptor") := ⟨by kernel_rfl, by kernel_rfl, rfl⟩
theorem m_clear (w : World) : TMeth w "clear" (.builtin "list.clear") (.type "method_descriptor") := ⟨by kernel_rfl, by kernel_rfl, rfl⟩
theorem m_extend (w : World) : TMeth w "extend" (.builtin "list.extend") (.type "method_descriptor") := ⟨by kernel_rfl, by kernel_rfl, rfl⟩

/-- x.append(e) -/
theorem ev_append {o e : Expr} {apos pos : Pos} {ts : List D} {d : D} {pl : Sem Bool} (hn : nTop ≤ a) (ho : Ev w A env σ o (.at a (.tags ts))) (h1 : Ev w A env σ e d) (hz : ts.length ≤ 1000) (fl : ∀ d' ∈ ts ++ [d], flat d' = true) (H : Holds w env σ s)
    (he : eval (.Call (.Attribute o "append" apos) [e] [] pos) env = (do
      let ov ← eval o env
      standAt apos.atName
      let (f, first) ← holding [ov] (getMethod ov "append" pl)
      callWith pos f first (backTo pos (starEach [e] env)) (backToKw pos (keywordEach [] env))) := by rfl) (hst : noStar [e] = true := by rfl) :
    wpAny (md w) A (eval (.Call (.Attribute o "append" apos) [e] [] pos) env) (fun v s' => v = .none ∧ Chg w (.ref cTags) a (.tags (ts ++ [d])) s s') noE s := by
  refine eval_meth (wpAny_noE (ho s H) fun v s₁ q1 => tmeth (m_append w) (H.base.ext q1.1) q1.2.2 ?_) he
  obtain ⟨x1, rfl, hv⟩ := q1
  refine callW callee_b (evs1 h1) (H.ext x1) hst fun vs s₂ e2 H' hv1 => ?_
  obtain ⟨u, r, rfl, hu, hr⟩ := hv1
  rw [show r = [] from hr]
  have hv2 := e2.val0 (H.base.ext x1) hv
  obtain ⟨b, us, n, dx, m, q, g, gd, hus⟩ := hv2
  cases q
  have hl := hus.length
  refine tags_append H'.base g (by omega) fun h' n' g' sb => ⟨rfl, (tags_chg H'.base g gd (Ext.set (t := s₂.toks) hn g rfl sb) g' (hus.snoc hu) fl).after (x1.trans e2)⟩
/-- x.clear() -/
theorem ev_clear {o : Expr} {apos pos : Pos} {ts : List D} {pl : Sem Bool} (hn : nTop ≤ a) (ho : Ev w A env σ o (.at a (.tags ts))) (hz : ts.length ≤ 1000) (H : Holds w env σ s)
    (he : eval (.Call (.Attribute o "clear" apos) [] [] pos) env = (do
      let ov ← eval o env
      standAt apos.atName
      let (f, first) ← holding [ov] (getMethod ov "clear" pl)
      callWith pos f first (backTo pos (starEach [] env)) (backToKw pos (keywordEach [] env))) := by rfl) :
    wpAny (md w) A (eval (.Call (.Attribute o "clear" apos) [] [] pos) env) (fun v s' => v = .none ∧ Chg w (.ref cTags) a (.tags []) s s') noE s := by
  refine eval_meth (wpAny_noE (ho s H) fun v s₁ q1 => tmeth (m_clear w) (H.base.ext q1.1) q1.2.2 ?_) he
  obtain ⟨x1, rfl, hv⟩ := q1
  refine callW callee_b (ds := []) rfl (H.ext x1) rfl fun vs s₂ e2 H' hv1 => ?_
  rw [show vs = [] from hv1]
  have hv2 := e2.val0 (H.base.ext x1) hv
  obtain ⟨b, us, n, dx, m, q, g, gd, hus⟩ := hv2
  cases q
  have hl := hus.length
  refine tags_clear H'.base g (by omega) fun h' n' g' sb => ⟨rfl, (tags_chg H'.base g gd (Ext.set (t := s₂.toks) hn g rfl sb) g' (us := []) rfl (by simp)).after (x1.trans e2)⟩
/-- x.extend(e) -/
theorem ev_extend {o e : Expr} {apos pos : Pos} {ts ds : List D} {pl : Sem Bool} (hn : nTop ≤ a) (ho : Ev w A env σ o (.at a (.tags ts))) (h1 : Ev w A env σ e (.list ds)) (hz : ts.length + ds.length ≤ 1000) (fl : ∀ d' ∈ ts ++ ds, flat d' = true) (H : Holds w env σ s)
    (he : eval (.Call (.Attribute o "extend" apos) [e] [] pos) env = (do
      let ov ← eval o env
      standAt apos.atName
      let (f, first) ← holding [ov] (getMethod ov "extend" pl)
      callWith pos f first (backTo pos (starEach [e] env)) (backToKw pos (keywordEach [] env))) := by rfl) (hst : noStar [e] = true := by rfl) :
    wpAny (md w) A (eval (.Call (.Attribute o "extend" apos) [e] [] pos) env) (fun v s' => v = .none ∧ Chg w (.ref cTags) a (.tags (ts ++ ds)) s s') noE s := by
  refine eval_meth (wpAny_noE (ho s H) fun v s₁ q1 => tmeth (m_extend w) (H.base.ext q1.1) q1.2.2 ?_) he
  obtain ⟨x1, rfl, hv⟩ := q1
  refine callW callee_b (evs1 h1) (H.ext x1) hst fun vs s₂ e2 H' hv1 => ?_
  obtain ⟨u, r, rfl, ⟨b, ws, k, rfl, gb, hws⟩, hr⟩ := hv1
  rw [show r = [] from hr]
  have hv2 := e2.val0 (H.base.ext x1) hv
  obtain ⟨b, us, n, dx, m, q, g, gd, hus⟩ := hv2
  cases q
  have hl := hus.length
  have hl2 := hws.length
  refine tags_extend H'.base g gb (by omega) fun h' n' g' sb => ⟨rfl, (tags_chg H'.base g gd (Ext.set (t := s₂.toks) hn g rfl sb) g' (hus.app hws) fl).after (x1.trans e2)⟩
theorem set_vals {h : Heap} : ∀ {ds : List D} {vs : List Value} {i : Nat} {d : D} {v : Value}, Vals h ds vs → Val h d v → Vals h (ds.set i d) (vs.set i v)
  | [], _, _, _, _, e, _ => by rw [show _ = [] from e]; exact rfl
  | _ :: _, _, 0, _, _, ⟨v, r, e, _, y⟩, z => by subst e; exact ⟨_, _, rfl, z, y⟩
  | _ :: _, _, i + 1, _, _, ⟨v, r, e, x, y⟩, z => by subst e; exact ⟨_, _, rfl, x, set_vals (i := i) y z⟩
/-- x[i] = e, the object part -/
theorem set_tags {ts : List D} {i : Nat} {d : D} {v : Value} {t : PySem.Tok} (hn : nTop ≤ a) (B : Base w s) (ha : Val s.heap (.tags ts) (.ref a)) (hv : Val s.heap d v) (hi : i < ts.length) (hz : ts.length ≤ 1000) (fl : ∀ d' ∈ ts.set i d, flat d' = true) :
    wpAny (md w) A (setItem (.ref a) (.int (i : Int) t) v) (fun _ s' => Chg w (.ref cTags) a (.tags (ts.set i d)) s s') noE s := by
  obtain ⟨b, us, n, dx, m, q, g, gd, hus⟩ := ha
  cases q
  have hl := hus.length
  refine setItem_tags B g gd (tags_set B g (by omega) (by simp; omega) (by omega) fun h' n' g' sb => ?_)
  rw [Int.toNat_natCast] at g'
  exact tags_chg B g gd (Ext.set (t := s.toks) hn g rfl sb) g' (set_vals hus hv) fl
end
end Mine
end
section
open PySem PySem.W PyProof.Rows PySem.Builtin
set_option Elab.async false
set_option maxRecDepth 100000
namespace Mine

section
variable {w : World} {A : Around} {env : Env} {σ : List (Str × D)} {scope : Scope} {target iter elt : Expr} {ifs : List Expr} {pos spos py : Pos} {y : Str} {ds : List D} {bind : D → List (Str × D)} {out : D → Option D} {loc : Bool} {s : Shared}

/-- y = [.. for ..], on one line -/
theorem stm_comp (it : Iter w A env σ target iter ds) (c : CompH w A env σ scope target ifs elt ds bind out loc) (H : Holds w env σ s)
    (hsw : swapsWith (.ListComp elt [⟨target, iter, ifs, 0⟩] scope pos) (some (.Name y py)) spos.line env = pure true) (hy : env.kindOf y = some .local) (hf : env.func.isSome = true) (hs : ∀ x, foldedSetIterable iter env x = pure x := by intro _; rfl) :
    wpAny (md w) A (exec (.Assign [.Name y py] (.ListComp elt [⟨target, iter, ifs, 0⟩] scope pos) spos) env) (fun f s' => f = .next ∧ ∃ a, s.heap.get? a = none ∧ nTop ≤ a ∧ Ext (own env) s s' ∧ Holds w env ((y, .at a (.list (ds.filterMap out))) :: σ) s') noE s := by
  rw [exec_Assign_Name_used _ _ _ _ hsw]
  refine wpAny_bind (wpAny_standAt (wpAny_bind ?_))
  show wpAny _ A (do let _ ← comprehension (.ListComp elt [⟨target, iter, ifs, 0⟩] scope pos) scope env _ (newList []) false (eval iter env) (some (assign (.Name y py) env))) _ _ s
  refine wpAny_bind (wpAny_mono (wpAny_comprehension_free (use := some (assign (.Name y py) env)) (Q := fun _ s' => ∃ a, s.heap.get? a = none ∧ nTop ≤ a ∧ Ext (own env) s s' ∧ Holds w env ((y, .at a (.list (ds.filterMap out))) :: σ) s') (E := noE) rfl hs (closureFor_eq c.ok) c.kind (comp_names c.ok)
    (wpAny_noE (it s H) fun x s₁ h₁ => wpAny_noE h₁ fun i z h => ?_)) (fun _ s' hq => wpAny_pure (wpAny_pure ⟨rfl, hq⟩)) fun _ _ e => e)
  obtain ⟨I, S, St, Fin, rfl, src, x, hS, st⟩ := h
  have Hz := H.ext x
  refine comp_core (RR := fun acc C => compPost (md w) A noE (some (assign (.Name y py) env)) _ acc C) Hz c src (fun a ha o g => ((hS a ha).2.2 o g).2.1) (fun a ha o g y d q => .inl ((hS a ha).2.2 o g).1) (fun a ha => (hS a ha).2.1)
    (fun s' e => st _ s' (fun t ht o g => by rw [gone (tempo_new t ht)] at g; cases g) e) ?_
  intro s' vs n _ hg hvs hv k _
  have fresh : ∀ a, z.heap.get? a = none → s.heap.get? a = none := fun a ha => H.base.fresh x ha
  have hD : nTop ≤ z.heap.objs.size := (H.base.ext x).big
  have hC : nTop ≤ z.heap.objs.size + 1 := Nat.le_succ_of_le hD
  have e0 : Ext [] s s' := by
    have e1 := k.ext
    refine ((x.wk0 e1.own).trans e1).drop (fun i hi => .inr ?_) (by simp)
    rcases List.mem_append.mp hi with q | q
    · exact (hS i q).1
    · exact fresh _ (gone (tempo_new i q))
  have H' := H.ext e0
  have gD : s.heap.get? z.heap.objs.size = none := fresh _ (gone (Nat.le_refl _))
  have gC : s.heap.get? (z.heap.objs.size + 1) = none := fresh _ (gone (Nat.le_succ _))
  obtain ⟨m0, hns0⟩ := H.ns
  have exL : ∃ o, s.heap.get? env.locals = some o := by obtain ⟨o, es, ep, g, _⟩ := hns0; exact ⟨o, g⟩
  have nLD : env.locals ≠ z.heap.objs.size := fun q => by obtain ⟨o, g⟩ := exL; rw [q, gD] at g; cases g
  have nLC : env.locals ≠ z.heap.objs.size + 1 := fun q => by obtain ⟨o, g⟩ := exL; rw [q, gC] at g; cases g
  have hval : Val s'.heap (.at z.heap.objs.size (.list (ds.filterMap out))) (.ref z.heap.objs.size) := ⟨rfl, _, vs, n, rfl, hg, hvs⟩
  refine wpAny_assign_Name (H'.store hval (.inl hy) (.inl hf) fun s2 H2 e2 _ by2 keep2 => ?_)
  have e2' : Ext [env.locals] s' s2 := by unfold place at e2; rw [hy] at e2; exact e2
  obtain ⟨mC, hnC⟩ := k.ns
  refine ⟨mC, e2'.ns hC (by simpa using Ne.symm nLC) hnC, fun h' hs' => ?_⟩
  have lo := H.big _ (List.mem_cons_self ..)
  obtain ⟨oC, esC, epC, goC, doC, _⟩ := e2'.ns hC (by simpa using Ne.symm nLC) hnC
  have e3 : Ext [z.heap.objs.size + 1] s2 { s2 with heap := h', toks := s2.toks } := Ext.set hC goC (by unfold free; rw [doC]) hs'
  have eF : Ext [env.locals] s { s2 with heap := h' } := by
    have o2 : ∀ i ∈ [env.locals, z.heap.objs.size + 1], nTop ≤ i := fun i hi => by
      rcases List.mem_cons.mp hi with q | q
      · rw [q]; exact lo
      · rw [List.mem_singleton.mp q]; exact hC
    refine (((e0.wk0 o2).trans (e2'.wk (fun i hi => List.mem_cons.mpr (.inl (List.mem_singleton.mp hi))) o2)).trans (e3.wk (fun i hi => List.mem_cons_of_mem _ hi) o2)).drop (fun i hi => ?_) (fun i hi => by rw [List.mem_singleton.mp hi]; exact lo)
    rcases List.mem_cons.mp hi with q | q
    · exact .inl (List.mem_singleton.mpr q)
    · rw [List.mem_singleton.mp q]; exact .inr gC
  have apL : ∀ {s : Shared}, Holds w env σ s → ∀ o, s.heap.get? env.locals = some o → infra o = true ∨ o.cls = .type "frame" := fun H o g => by
    rcases H.lone o g with q | q | ⟨_, q, _⟩
    · exact .inl q
    · exact .inr q
    · rw [q] at hf; cases hf
  have back : ∀ z' u, Bound env s2 z' u → Bound env { s2 with heap := h' } z' u := fun z' u b => by
    rcases b with ⟨kl, m, h1, q⟩ | ⟨kl, cc, h1, n1, o, g, dd⟩
    · exact .inl ⟨kl, m, h1.sameBut hs' nLC, q⟩
    · refine .inr ⟨kl, cc, h1, n1, o, (hs'.2 cc fun q => ?_).trans g, dd⟩
      rw [q, goC] at g; cases g; rw [doC] at dd; cases dd
  refine ⟨z.heap.objs.size, gD, hD, eF.wk (fun i hi => by rw [List.mem_singleton.mp hi]; exact List.mem_cons_self ..) H.big, ?_⟩
  refine ⟨H.base.ext eF, H.big, H.fn, H.gl, H.bi, let ⟨m, h⟩ := H2.ns; ⟨m, h.sameBut hs' nLC⟩, fun n' cc hc => ?_, fun o g => H2.lone o ((hs'.2 _ nLC).symm.trans g), H.inj, fun z' d hz => ?_⟩
  · obtain ⟨v, o, g, dd⟩ := H2.cells n' cc hc
    refine ⟨v, o, (hs'.2 cc fun q => ?_).trans g, dd⟩
    rw [q, goC] at g; cases g; rw [doC] at dd; cases dd
  · rw [List.lookup_cons] at hz
    split at hz
    · rename_i q
      cases hz
      refine ⟨_, back _ _ (by rw [beq_iff_eq.mp q]; exact by2), rfl, _, vs, n, rfl, ?_, ?_⟩
      · refine (hs'.2 _ (Nat.ne_of_lt (Nat.lt_succ_self _))).trans (e2'.keep _ _ hg (by simpa using Ne.symm nLD) (nTop_PH hD) (nTop_PL hD))
      · have hv2 := hv (hideAll s'.heap [z.heap.objs.size + 1]) ⟨hideAll_size _ _, fun b hb => Heap.hide_ne _ hb⟩
        refine Vals.move (S := fun b => b = env.locals) (fun b o g hb hi => ?_) _ _ (fun a o ha g => ?_) hv2
        · have hbC : b ≠ z.heap.objs.size + 1 := fun q => by
            rw [q, hideAll_none _ (List.mem_singleton.mpr rfl)] at g; cases g
          have g1 : s'.heap.get? b = some o := of_hideAll _ g
          refine (hs'.2 b hbC).trans (e2'.keep b o g1 (by simpa using hb) ?_ ?_)
          · intro q; subst q; obtain ⟨ps, t⟩ := H'.base.tH; rw [t.tab] at g1; cases g1; cases hi
          · intro q; subst q; obtain ⟨ps, t⟩ := H'.base.tL; rw [t.tab] at g1; cases g1; cases hi
        · rw [ha] at g
          have := apL H' o (of_hideAll _ g)
          rcases this with q | q
          · exact .inl q
          · refine .inr ?_
            rw [q]
            generalize ds.filterMap out = l
            induction l with
            | nil => rfl
            | cons x l ih => simp only [bearsL, bears_frame, ih]; rfl
    · rename_i q
      obtain ⟨v, b, hv0⟩ := H.vals z' d hz
      refine ⟨v, back _ _ (keep2 z' v (by simpa using q) (b.ext H.big e0)), eF.val H.base (fun a ha o g => ?_) hv0⟩
      rw [List.mem_singleton.mp ha] at g
      rcases apL H o g with q | q
      · exact .inl q
      · exact .inr (by rw [q]; exact bears_frame _)
end
end Mine
end
section
open PySem PySem.W PyProof.Rows PySem.Builtin
set_option Elab.async false
set_option maxRecDepth 100000
namespace Mine

/-- a def that changes the row at a -/
def FnM (w : World) (k : Nat) (f : Addr) (ds : List D) (a : Addr) (d' rv : D) : Prop :=
  ∀ (A : Around) (s : Shared) (vs : List Value), Room k A → Base w s → Vals s.heap ds vs → codeAny (md w) A (.call (.ref f) ⟨vs, []⟩) (fun r s' => ∃ v, r = .ok (.ret v) ∧ Val s'.heap rv v ∧ Chg w (.ref cTags) a d' s s') s
def flowV : Flow → Value
  | .ret v => v
  | _ => .none
def BodyM (w : World) (A : Around) (env : Env) (a : Addr) (d' rv : D) (s : Shared) (f : Flow) (s' : Shared) : Prop := Ext (a :: own env) s s' ∧ Val s'.heap rv (flowV f) ∧ Val s'.heap d' (.ref a)

section
variable {w : World} {A : Around} {env : Env} {σ : List (Str × D)} {s : Shared} {a : Addr}

theorem fn_chg {k : Nat} {f : Addr} {name qual : Str} {params : Arguments} {body : List Stmt} {scope : Scope} {dV kV doc pm cdv ct oc : Value} {an od : Option Addr} {osl : Array (Option Value)} {ts ds : List D} {d' rv : D} (hn : nTop ≤ a)
    (ho : ∀ P, (hd.heap_39 P).lookup f = some ⟨oc, od, .func (fnX name qual params body scope [] dV kV doc pm an cdv ct), osl⟩)
    (hcd : codeIn (KB w.params) cdv qual = true)
    (hbind : ∀ vs : List Value, vs.length = (D.at a (.tags ts) :: ds).length → bindArgs (fnX name qual params body scope [] dV kV doc pm an cdv ct) ⟨vs, []⟩ = pure ((params.args.map (·.arg)).zip vs))
    (hlen : (params.args.map (·.arg)).length = (D.at a (.tags ts) :: ds).length)
    (h : ∀ A L s, Room k A → a ∉ own (envF qual scope L f cdv) → Holds w (envF qual scope L f cdv) ((params.args.map (·.arg)).zip (.at a (.tags ts) :: ds)) s → wpAny (md w) A (execs body (envF qual scope L f cdv)) (BodyM w A (envF qual scope L f cdv) a d' rv s) noE s)
    (hf : (f == PH || f == PL) = false := by decide)
    (hkind : ((params.args.map (·.arg)).all fun y => scope.names.lookup y == some .local || scope.names.lookup y == some .cell) = true := by rfl)
    (hnd : (params.args.map (·.arg)).Nodup := by decide) (hloc : ((params.args.map (·.arg)).any fun y => scope.names.lookup y == some .local) = true := by rfl)
    (hco : scope.isCoroutine = false := by rfl) (hgen : scope.isGenerator = false := by rfl) (hk : scope.kind = .function := by rfl) : FnM w (k + 1) f (.at a (.tags ts) :: ds) a d' rv := by
  intro A s vs r B hv
  have hz := vals_names hv hlen
  obtain ⟨u, _, _, ⟨rfl, b, us, n, dx, m, q, g, gd, _⟩, _⟩ := id hv
  cases q
  refine fn_enter B r (ho _) hcd (BindsTo.of_eq (hbind vs hv.length)) (ds := .at a (.tags ts) :: ds) (by rw [hz.1]; exact hv) (fun L s₀ e hL H r' => ?_) hf ?_ (by rw [hz.2]; exact hnd) ?_ hco hgen hk
  · rw [hz.2] at H
    refine wpAny_noE (h _ L s₀ r' (fun hm => by rw [hL _ hm] at g; cases g) H) fun fl s' q => ?_
    obtain ⟨x, y, z⟩ := q
    have x1 : Ext [a] s s' := ((e.wk0 x.own).trans x).drop (fun i hi => by
      rcases List.mem_cons.mp hi with q | q
      · exact .inl (List.mem_singleton.mpr q)
      · exact .inr (hL i q)) (fun i hi => by rw [List.mem_singleton.mp hi]; exact hn)
    refine ⟨_, rfl, ?_, ⟨s, Ext.refl s, x1, fun o q => ?_⟩, z⟩
    · cases fl <;> exact y
    · rw [g] at q; cases q; exact ⟨rfl, (fun _ q => by cases q), (fun _ _ q => by cases q)⟩
  · refine List.all_eq_true.mpr fun y hy => List.all_eq_true.mp hkind y.1 ?_
    rw [← hz.2]; exact List.mem_map_of_mem hy
  · obtain ⟨y, hy, q⟩ := List.any_eq_true.mp hloc
    rw [← hz.2] at hy
    obtain ⟨p, hp, rfl⟩ := List.mem_map.mp hy
    exact List.any_eq_true.mpr ⟨p, hp, q⟩

theorem run_expr {e : Expr} {pos : Pos} {rest : List Stmt} {R : Shared → Prop} {Q : Flow → Shared → Prop} {E : Value → Shared → Prop} (h : wpAny (md w) A (eval e env) (fun v s' => v = .none ∧ R s') noE s) (k : ∀ s', R s' → wpAny (md w) A (execs rest env) Q E s')
    (hi : interactive env = false := by rfl) (hs : swapsWith e none pos.line env = pure false := by rfl) : wpAny (md w) A (execs (.Expr e pos :: rest) env) Q E s :=
  wpAny_execs_cons (wpAny_Expr (wpAny_noE h fun v s' q => by obtain ⟨rfl, q⟩ := q; exact k s' q) hi hs)

theorem bl_tags {C : Value} (h1 : (C == .ref cTag) = false) (h2 : (C == .type "dict") = false) : ∀ {rs : List Row}, bearsL C (rs.map tagD) = false
  | [] => rfl
  | r :: rs => by rw [List.map_cons, bearsL, bl_tags h1 h2]; simp only [bears, h1, h2]; rfl
theorem bl_ints {C : Value} : ∀ {ns : List Int}, bearsL C (ns.map .int) = false
  | [] => rfl
  | n :: ns => by rw [List.map_cons, bearsL, bl_ints]; rfl
theorem bl_rows {C : Value} (h : (C == .type "tuple") = false) : ∀ {rs : List Row}, bearsL C (rs.map rowD) = false
  | [] => rfl
  | r :: rs => by rw [List.map_cons, bearsL, bl_rows h]; simp only [bears, bearsL, h]; rfl
theorem safe_ints {ns : List Int} : safe (.ref cTags) a (.list (ns.map .int)) = true := by
  simp only [safe, bears, bl_ints]; rfl
theorem safe_tgs {b : Addr} {rs : List Row} : safe (.ref cTags) a (.at b (tgsD rs)) = true := by
  simp only [safe, bears, bl_tags (C := .ref cTags) (by decide) (by decide), Bool.or_false, show ((Value.ref cTags == Value.type "list") = false) from rfl, Bool.not_false, Bool.or_true]

/-- y = [.. for x in tags if ..] -/
theorem stm_tags {y : Str} {py : Pos} {spos : Pos} {iter elt : Expr} {ifs : List Expr} {scope : Scope} {pos px : Pos} {x : Str} {rs : List Row} (p : Row → Bool) (g : Row → D) (H : Holds w env σ s)
    (it : Iter w A env σ (.Name x px) iter (rs.map tagD)) (hz : rs.length ≤ 100)
    (test : ∀ C r, r ∈ rs → Tsts w A (envK scope C env) ((x, tagD r) :: freeOf scope σ) ifs (p r))
    (elts : ∀ C r, r ∈ rs → p r = true → Ev w A (envK scope C env) ((x, tagD r) :: freeOf scope σ) elt (g r)) (fl : ∀ r, flat (g r) = true)
    (free : ((freeOf scope σ).all fun p => !bears (.type "dict") p.2) = true)
    (hx : scope.names.lookup x = some .local := by rfl) (ok : compOk scope env = true := by rfl) (kind : scope.kind = .function := by rfl)
    (hsw : swapsWith (.ListComp elt [⟨.Name x px, iter, ifs, 0⟩] scope pos) (some (.Name y py)) spos.line env = pure true := by rfl) (hy : env.kindOf y = some .local := by rfl) (hf : env.func.isSome = true := by rfl) (hs : ∀ x, foldedSetIterable iter env x = pure x := by intro _; rfl) :
    wpAny (md w) A (exec (.Assign [.Name y py] (.ListComp elt [⟨.Name x px, iter, ifs, 0⟩] scope pos) spos) env) (fun f s' => f = .next ∧ ∃ a, s.heap.get? a = none ∧ nTop ≤ a ∧ Ext (own env) s s' ∧ Holds w env ((y, .at a (.list ((rs.filter p).map g))) :: σ) s') noE s := by
  have out : ∃ out : D → Option D, (∀ r, out (tagD r) = if p r then some (g r) else none) := ⟨fun d => match d with | .tag c y => if p (c, y) then some (g (c, y)) else none | _ => none, fun r => rfl⟩
  obtain ⟨out, ho⟩ := out
  have hfm : (rs.map tagD).filterMap out = (rs.filter p).map g := by
    clear it test elts hz
    induction rs with
    | nil => rfl
    | cons r rs ih =>
      rw [List.map_cons, List.filter_cons]
      cases hp : p r with
      | true => rw [List.filterMap_cons_some (by rw [ho, hp]; rfl), ih]; rfl
      | false => rw [List.filterMap_cons_none (by rw [ho, hp]; rfl), ih]; rfl
  rw [← hfm]
  refine stm_comp it (comp_name ok kind (nodict free) hx (by simpa using Nat.le_trans hz (by decide)) (fun C d hd => ?_) (fun C d e hd he => ?_) (fun d hd e he => ?_)) H hsw hy hf hs
  · obtain ⟨r, hr, rfl⟩ := List.mem_map.mp hd
    have e : (out (tagD r)).isSome = p r := by rw [ho]; cases p r <;> rfl
    rw [e]; exact test C r hr
  · obtain ⟨r, hr, rfl⟩ := List.mem_map.mp hd
    rw [ho] at he
    cases hp : p r with
    | true => rw [hp] at he; cases he; exact elts C r hr hp
    | false => rw [hp] at he; cases he
  · obtain ⟨r, hr, rfl⟩ := List.mem_map.mp hd
    rw [ho] at he
    cases hp : p r with
    | true => rw [hp] at he; cases he; exact fl r
    | false => rw [hp] at he; cases he

theorem fn_remove {k : Nat} {rs : List Row} {cs : List Int} (hn : nTop ≤ a) (hz : rs.length ≤ 100) (hc : cs.length ≤ 50) : FnM w (k + 3) 292 [.at a (tagsD rs), .list (cs.map .int)] a (tagsD (rs.filter fun r => !cs.any (· == r.1))) .none := by
  refine fn_chg hn (fun P => by k_is) (by kernel_rfl) (by exact two_arg fun v u => rfl) (by rfl) (by
    intro A L s r hna H
    refine wpAny_execs_cons (wpAny_noE (stm_tags (fun r => !cs.any (· == r.1)) tagD H (iter_tags r.handled (ev_at (ev_name rfl))) hz ?_ ?_ (fun q => rfl) (free_one (nb_ints cs))) fun f s1 q => ?_)
    · exact fun C q hq => tst_cmp (ev_code r (ev_name rfl)) (ev_set r.handled rfl (ev_name rfl) hc) cmp_notin_set
    · exact fun C q hq _ => ev_name rfl
    · obtain ⟨rfl, b, gb, hb, e1, H1⟩ := q
      refine run_expr (ev_clear hn (ev_name rfl) (by simp; omega) H1) fun s2 c2 => ?_
      have H2 : Holds w _ [("rest", .at b (tgsD (rs.filter fun r => !cs.any (· == r.1)))), ("self", .at a (.tags [])), ("codes", .list (cs.map .int))] s2 := H1.chg rfl c2 (by
        intro y d' hy
        simp only [List.lookup_cons, List.lookup_nil] at hy
        split at hy
        · rename_i q; cases hy; rw [beq_iff_eq.mp q]; exact ⟨_, rfl, .inl ⟨rfl, safe_tgs⟩⟩
        · split at hy
          · rename_i q; cases hy; rw [beq_iff_eq.mp q]; exact ⟨_, rfl, .inr ⟨_, rfl, rfl⟩⟩
          · split at hy
            · rename_i q; cases hy; rw [beq_iff_eq.mp q]; exact ⟨_, rfl, .inl ⟨rfl, safe_ints⟩⟩
            · cases hy)
      refine run_expr (ev_extend hn (ev_name rfl) (ev_at (ev_name rfl)) (by have := List.length_filter_le (fun r : Row => !cs.any (· == r.1)) rs; simp; omega) (by rw [List.nil_append]; exact flat_tags _) H2) fun s3 c3 => ?_
      have ho : ∀ i ∈ a :: own _, nTop ≤ i := fun i hi => (List.mem_cons.mp hi).elim (fun q => by rw [q]; exact hn) (H.big i)
      have one : ∀ {s s' d}, Chg w (.ref cTags) a d s s' → Ext (a :: own _) s s' := fun c => c.one.wk (fun i hi => by rw [List.mem_singleton.mp hi]; exact List.mem_cons_self ..) ho
      exact wpAny_execs_nil ⟨((e1.wk (fun i hi => List.mem_cons_of_mem _ hi) ho).trans (one c2)).trans (one c3), rfl, c3.val⟩)
theorem fn_except {k : Nat} {rs : List Row} {cs : List Int} (hn : nTop ≤ a) (hz : rs.length ≤ 100) (hc : cs.length ≤ 50) : FnM w (k + 3) 304 [.at a (tagsD rs), .list (cs.map .int)] a (tagsD (rs.filter fun r => cs.any (· == r.1))) .none := by
  refine fn_chg hn (fun P => by k_is) (by kernel_rfl) (by exact two_arg fun v u => rfl) (by rfl) (by
    intro A L s r hna H
    refine wpAny_execs_cons (wpAny_noE (stm_tags (fun r => cs.any (· == r.1)) tagD H (iter_tags r.handled (ev_at (ev_name rfl))) hz ?_ ?_ (fun q => rfl) (free_one (nb_ints cs))) fun f s1 q => ?_)
    · exact fun C q hq => tst_cmp (ev_code r (ev_name rfl)) (ev_set r.handled rfl (ev_name rfl) hc) cmp_in_set
    · exact fun C q hq _ => ev_name rfl
    · obtain ⟨rfl, b, gb, hb, e1, H1⟩ := q
      refine run_expr (ev_clear hn (ev_name rfl) (by simp; omega) H1) fun s2 c2 => ?_
      have H2 : Holds w _ [("rest", .at b (tgsD (rs.filter fun r => cs.any (· == r.1)))), ("self", .at a (.tags [])), ("codes", .list (cs.map .int))] s2 := H1.chg rfl c2 (by
        intro y d' hy
        simp only [List.lookup_cons, List.lookup_nil] at hy
        split at hy
        · rename_i q; cases hy; rw [beq_iff_eq.mp q]; exact ⟨_, rfl, .inl ⟨rfl, safe_tgs⟩⟩
        · split at hy
          · rename_i q; cases hy; rw [beq_iff_eq.mp q]; exact ⟨_, rfl, .inr ⟨_, rfl, rfl⟩⟩
          · split at hy
            · rename_i q; cases hy; rw [beq_iff_eq.mp q]; exact ⟨_, rfl, .inl ⟨rfl, safe_ints⟩⟩
            · cases hy)
      refine run_expr (ev_extend hn (ev_name rfl) (ev_at (ev_name rfl)) (by have := List.length_filter_le (fun r : Row => cs.any (· == r.1)) rs; simp; omega) (by rw [List.nil_append]; exact flat_tags _) H2) fun s3 c3 => ?_
      have ho : ∀ i ∈ a :: own _, nTop ≤ i := fun i hi => (List.mem_cons.mp hi).elim (fun q => by rw [q]; exact hn) (H.big i)
      have one : ∀ {s s' d}, Chg w (.ref cTags) a d s s' → Ext (a :: own _) s s' := fun c => c.one.wk (fun i hi => by rw [List.mem_singleton.mp hi]; exact List.mem_cons_self ..) ho
      exact wpAny_execs_nil ⟨((e1.wk (fun i hi => List.mem_cons_of_mem _ hi) ho).trans (one c2)).trans (one c3), rfl, c3.val⟩)
end
end Mine
end
section
open PySem PySem.W PyProof.Rows PySem.Builtin
set_option Elab.async false
set_option maxRecDepth 100000
namespace Mine

/-- nothing changed but the marks of the running blocks -/
structure Upto (l : List Env) (s s' : Shared) : Prop where
  ext : Ext (frs l) s s'
  slots : ∀ b ∈ frs l, ∀ o, s.heap.get? b = some o → ∃ sl, s'.heap.get? b = some { o with slots := sl }
theorem Raised.upto {l : List Env} {s s' : Shared} {e : Value} (r : Raised l s s' e) : Upto l s s' := ⟨r.ext, r.slots⟩
theorem Upto.trans {l : List Env} {s s' s'' : Shared} (x : Upto l s s') (y : Upto l s' s'') : Upto l s s'' := ⟨x.ext.trans y.ext, fun b hb o g => by
  obtain ⟨sl, g1⟩ := x.slots b hb o g
  obtain ⟨sl2, g2⟩ := y.slots b hb _ g1
  exact ⟨sl2, g2⟩⟩
theorem Upto.of_ext {l : List Env} {s s' : Shared} {A : Around} (K : Stk A l s) (x : Ext [] s s') : Upto l s s' := ⟨x.wk0 fun i hi => (K.mem hi).1, fun b hb o g => ⟨o.slots, x.keep b o g (by simp) (nTop_PH (K.mem hb).1) (nTop_PL (K.mem hb).1)⟩⟩

section
variable {w : World} {A : Around} {env : Env} {σ : List (Str × D)} {l : List Env} {s s₁ s' : Shared} {e : Value}
theorem Stk.upto (K : Stk A l s) (x : Upto l s s') : Stk A l s' := ⟨K.eq, fun env he => by
  obtain ⟨hk, L, o, h1, h2, h3, h4, h5⟩ := K.all env he
  obtain ⟨sl, g⟩ := x.slots L (List.mem_filterMap.mpr ⟨env, he, h1⟩) o h3
  exact ⟨hk, L, _, h1, h2, g, h4, h5⟩⟩
theorem Holds.upto (H : Holds w env σ s₁) (k : Stk A (env :: l) s₁) (r : Upto (env :: l) s₁ s') (hfn : env.func.isSome = true) : Holds w env σ s' := by
  have x := r.ext
  have nocell : ∀ c v, s₁.heap.IsCell c v → c ∉ frs (env :: l) := fun c v ⟨o, g, d⟩ m => by
    obtain ⟨_, o', g', ⟨es, ep, d'⟩, _⟩ := k.mem m
    rw [g] at g'; cases g'; rw [d] at d'; cases d'
  have nsk : ∀ m, s₁.heap.Ns env.locals m → s'.heap.Ns env.locals m := fun m h => by
    by_cases hm : env.locals ∈ frs (env :: l)
    · obtain ⟨o, es, ep, g, d, z⟩ := h
      obtain ⟨sl, g'⟩ := r.slots _ hm o g
      exact ⟨_, es, ep, g', d, z⟩
    · exact x.ns (H.big _ (List.mem_cons_self ..)) hm h
  refine ⟨H.base.ext x, H.big, H.fn, H.gl, H.bi, let ⟨m, h⟩ := H.ns; ⟨m, nsk m h⟩, fun n c hc => ?_, fun o g => ?_, H.inj, fun y d hy => ?_⟩
  · obtain ⟨v, q⟩ := H.cells n c hc
    exact ⟨v, x.cell (H.big _ (List.mem_cons_of_mem _ (List.mem_map.mpr ⟨_, mem_of_lookup hc, rfl⟩))) (nocell _ _ q) q⟩
  · obtain ⟨m, o', es, ep, g', d, _⟩ := H.ns
    have : ∃ sl, s'.heap.get? env.locals = some { o' with slots := sl } := by
      by_cases hm : env.locals ∈ frs (env :: l)
      · exact r.slots _ hm o' g'
      · exact ⟨_, x.keep _ _ g' hm (nTop_PH (H.big _ (List.mem_cons_self ..))) (nTop_PL (H.big _ (List.mem_cons_self ..)))⟩
    obtain ⟨sl, g2⟩ := this
    rw [g] at g2; cases g2
    rcases H.lone o' g' with q | q | ⟨_, q, _⟩
    · exact .inl q
    · exact .inr (.inl q)
    · rw [q] at hfn; cases hfn
  · obtain ⟨v, b, hv⟩ := H.vals y d hy
    refine ⟨v, ?_, x.val H.base (fun a ha o g => ?_) hv⟩
    · rcases b with ⟨kl, m, h, q⟩ | ⟨kl, c, h, n, q⟩
      · exact .inl ⟨kl, m, nsk m h, q⟩
      · exact .inr ⟨kl, c, h, n, x.cell n (nocell _ _ q) q⟩
    · obtain ⟨_, o', g', _, z⟩ := k.mem ha
      rw [g] at g'; cases g'
      rcases z with z | z
      · exact .inl z
      · exact .inr (by rw [z]; exact bears_frame _)

/-- an exception goes on from one state of flight to another -/
theorem Raised.on {ea : Addr} {a0 : Value} {Bs h' : Heap} (r : Raised l s s' e) (K : Stk A l s) (un : Under (frs l) s Bs) (fl : Heap.FlyingW Bs l ea (.ref cErr) a0 h') (he : e = .ref ea) (x : s'.heap.UpToSlots h') : Raised l s { s' with heap := h' } e :=
  ⟨⟨ea, a0, Bs, he, fl, un⟩, fun b hb o g => by
    obtain ⟨sl, g1⟩ := r.slots b hb o g
    obtain ⟨_, o', g', ⟨es, ep, d⟩, _⟩ := K.mem hb
    rw [g] at g'; cases g'
    obtain ⟨sl2, g2⟩ := x b _ g1 (fun vs q => by rw [show ({ o with slots := sl } : Obj).data = o.data from rfl, d] at q; cases q)
    exact ⟨sl2, g2⟩, r.big, r.gens, r.bare, r.os⟩

/-- except DXFValueError: -/
theorem caught {np pos : Pos} {b₀ : Stmt} {suite : List Stmt} {rest : List ExceptHandler} {Q : Flow → Shared → Prop} {E : Value → Shared → Prop} (H : Holds w env σ s₁) (K : Stk A (env :: l) s₁) (r : Raised (env :: l) s₁ s' e) (hf : env.frame = some env.locals) (hfn : env.func.isSome = true)
    (hx : env.kindOf "DXFValueError" = some .globalImplicit)
    (k : ∀ s'' h, Upto (env :: l) s₁ s'' → Holds w env σ s'' → wpAny (md w) (A.mark (some h)) (execs (b₀ :: suite) env) Q noE s'') :
    wpAny (md w) A (noteFrame e env) (fun _ s₂ => wpAny (md w) A (setFlight e none) (fun _ s₃ => wpAny (md w) A (handleBy e env (.ExceptHandler (some (.Name "DXFValueError" np)) none (b₀ :: suite) pos :: rest)) Q E s₃) E s₂) E s' := by
  obtain ⟨ea, a0, Bs, rfl, fl, un⟩ := r.fly
  refine wpAny_looks_onW K.eq hf fl fun h₄ held₄ sm₄ => ?_
  refine wpAny_landsW held₄ fun h₅ fl₅ sm₅ => ?_
  have r5 : Raised (env :: l) s₁ { s' with heap := h₅ } (.ref ea) := r.on K un fl₅ rfl (sm₄.trans sm₅)
  have H5 := H.upto K r5.upto hfn
  refine wpAny_handleBy_cons (codeAny_handlers_test ?_) (by intro q; cases q)
  refine wpAny_noE ((gl_main (A := A.mark (some (.ref ea))) (σ := σ) (pos := np) hx (k_g_err _) : Gl w (A.mark (some (.ref ea))) env σ _ _) _ H5) fun c s6 q => ?_
  obtain ⟨rfl, rfl⟩ := q
  obtain ⟨nm, q, N, bs, hdct, sn, sub, ab, col, dd, k0, k1, k2, k3, k5, hc, hN⟩ := cls44 w.params
  obtain ⟨oe, hoe, hoc⟩ := fl₅.there
  refine wpAny_excMatches_sub_self (C := 44) (H5.base.top _ _ hc (by decide) (by decide)) hoe hoc (by decide +kernel) ?_
  refine codeAny_handlers_suite ?_
  refine lands_againW fl₅ fun h₆ fl₆ sm₆ => ?_
  have r6 : Raised (env :: l) s₁ { s' with heap := h₆ } (.ref ea) := r.on K un fl₆ rfl ((sm₄.trans sm₅).trans sm₆)
  exact wpAny_noE (k _ _ r6.upto (H.upto K r6.upto hfn)) fun f s7 q => q
end
end Mine
end
section
open PySem PySem.W PyProof.Rows PySem.Builtin
set_option Elab.async false
set_option maxRecDepth 100000
namespace Mine

section
variable {w : World} {A : Around} {env : Env} {σ : List (Str × D)} {l : List Env} {s s₀ s₁ sm s' : Shared} {e : Value} {a : Addr}

theorem fn_any {k : Nat} {f : Addr} {name qual : Str} {params : Arguments} {body : List Stmt} {scope : Scope} {dV kV doc pm cdv ct oc : Value} {an od : Option Addr} {osl : Array (Option Value)} {ds ds' : List D} (R : List Env → Shared → Result → Shared → Prop)
    (ho : ∀ P, (hd.heap_39 P).lookup f = some ⟨oc, od, .func (fnX name qual params body scope [] dV kV doc pm an cdv ct), osl⟩)
    (hcd : codeIn (KB w.params) cdv qual = true)
    (hbind : ∀ s vs, Base w s → Vals s.heap ds vs → ∃ vs', BindsTo s (fnX name qual params body scope [] dV kV doc pm an cdv ct) ⟨vs, []⟩ ((params.args.map (·.arg)).zip vs') ∧ Vals s.heap ds' vs')
    (hlen : (params.args.map (·.arg)).length = ds'.length)
    (h : ∀ A L l s s₀, Room k (A.deeper (envF qual scope L f cdv)) → Stk A l s → Base w s → Ext [] s s₀ → (∀ i ∈ own (envF qual scope L f cdv), s.heap.get? i = none) → Stk (A.deeper (envF qual scope L f cdv)) (envF qual scope L f cdv :: l) s₀ →
      Holds w (envF qual scope L f cdv) ((params.args.map (·.arg)).zip ds') s₀ → wpAny (md w) (A.deeper (envF qual scope L f cdv)) (execs body (envF qual scope L f cdv)) (fun fl s' => R l s (.ok (.ret (flowV fl))) s') (fun e s' => Errs w (envF qual scope L f cdv) l s₀ e s' ∧ ∀ s'', Raised l s s'' e → R l s (.error e) s'') s₀)
    (hf : (f == PH || f == PL) = false := by decide)
    (hkind : ((params.args.map (·.arg)).all fun y => scope.names.lookup y == some .local || scope.names.lookup y == some .cell) = true := by rfl)
    (hnd : (params.args.map (·.arg)).Nodup := by decide) (hloc : ((params.args.map (·.arg)).any fun y => scope.names.lookup y == some .local) = true := by rfl)
    (hco : scope.isCoroutine = false := by rfl) (hgen : scope.isGenerator = false := by rfl) (hk : scope.kind = .function := by rfl) :
    ∀ (A : Around) (s : Shared) (vs : List Value) (l : List Env), Room (k + 1) A → Base w s → Stk A l s → Vals s.heap ds vs → codeAny (md w) A (.call (.ref f) ⟨vs, []⟩) (R l s) s := by
  intro A s vs l r B K hv
  obtain ⟨vs', hb, hv'⟩ := hbind s vs B hv
  have hz := vals_names hv' hlen
  refine fn_enter B r (ho _) hcd hb (ds := ds') (by rw [hz.1]; exact hv') (fun L s₀ e hL H r' => ?_) hf ?_ (by rw [hz.2]; exact hnd) ?_ hco hgen hk
  · rw [hz.2] at H
    have K0 : Stk A l s₀ := K.ext e (by simp)
    refine wpAny_mono (h A L l s s₀ r' K B e hL (K0.push H rfl rfl) H) (fun fl s' q => ?_) fun x s' q => leave_err B K e hL rfl rfl q.1 fun s'' z => q.2 s'' z
    cases fl <;> exact q
  · refine List.all_eq_true.mpr fun y hy => List.all_eq_true.mp hkind y.1 ?_
    rw [← hz.2]; exact List.mem_map_of_mem hy
  · obtain ⟨y, hy, q⟩ := List.any_eq_true.mp hloc
    rw [← hz.2] at hy
    obtain ⟨p, hp, rfl⟩ := List.mem_map.mp hy
    exact List.any_eq_true.mpr ⟨p, hp, q⟩
theorem binds0 {fd : FuncData} {ns : List Str} {ds : List D} (h : ∀ vs : List Value, vs.length = ds.length → bindArgs fd ⟨vs, []⟩ = pure (ns.zip vs)) : ∀ s vs, Base w s → Vals s.heap ds vs → ∃ vs', BindsTo s fd ⟨vs, []⟩ (ns.zip vs') ∧ Vals s.heap ds vs' :=
  fun s vs _ hv => ⟨vs, BindsTo.of_eq (h vs hv.length), hv⟩

/-- the block's own marks left out -/
theorem upto_drop (K : Stk A l s) (e0 : Ext [] s s₀) (hnew : ∀ i ∈ own env, s.heap.get? i = none) (hf : env.frame = some env.locals) (e1 : Ext (own env) s₀ s₁) (x : Upto (env :: l) s₁ sm) : Upto l s sm := by
  have fe : frs (env :: l) = env.locals :: frs l := by simp [frs, hf]
  have hno : ∀ a ∈ frs l, a ∉ own env := fun a ha m => by
    obtain ⟨_, o, g, _⟩ := K.mem ha
    rw [hnew a m] at g; cases g
  have e01 : Ext (own env) s s₁ := (e0.wk0 e1.own).trans e1
  have d01 : Ext [] s s₁ := e01.drop (fun i hi => .inr (hnew i hi)) (by simp)
  have x' := x.ext
  refine ⟨((d01.wk0 x'.own).trans x').drop (fun i hi => ?_) fun i hi => (K.mem hi).1, fun b hb o g => ?_⟩
  · rw [fe] at hi
    rcases List.mem_cons.mp hi with q | q
    · exact .inr (by rw [q]; exact hnew _ (List.mem_cons_self ..))
    · exact .inl q
  · exact x.slots b (by rw [fe]; exact List.mem_cons_of_mem _ hb) o (d01.keep b o g (by simp) (nTop_PH (K.mem hb).1) (nTop_PL (K.mem hb).1))

/-- a def that changes the row at a, an exception caught within -/
def FnMU (w : World) (k : Nat) (f : Addr) (ds : List D) (a : Addr) (d' rv : D) : Prop :=
  ∀ (A : Around) (s : Shared) (vs : List Value) (l : List Env), Room k A → Base w s → Stk A l s → Vals s.heap ds vs → codeAny (md w) A (.call (.ref f) ⟨vs, []⟩) (fun r s' => ∃ v sm, r = .ok (.ret v) ∧ Val s'.heap rv v ∧ Upto l s sm ∧ Chg w (.ref cTags) a d' sm s') s
/-- a def that answers d, an exception caught within -/
def FnU (w : World) (k : Nat) (f : Addr) (ds : List D) (d : D) : Prop :=
  ∀ (A : Around) (s : Shared) (vs : List Value) (l : List Env), Room k A → Base w s → Stk A l s → Vals s.heap ds vs → codeAny (md w) A (.call (.ref f) ⟨vs, []⟩) (fun r s' => ∃ v, r = .ok (.ret v) ∧ Val s'.heap d v ∧ Upto l s s') s

/-- x.name(..) that raises -/
theorem meth_raise {k : Nat} {o : Expr} {name : Str} {apos pos : Pos} {es : List Expr} {ts ds : List D} {f : Addr} {t : Value} {pl : Sem Bool} {Q : Value → Shared → Prop} (ho : Ev w A env σ o (.tags ts)) (m : TMeth w name (.ref f) t) (hk : keepIn (KB w.params) (.ref f) = true) (hes : Evs w A env σ es ds) (hf : FnX w k f (.tags ts :: ds)) (r : Room k A) (K : Stk A l s) (H : Holds w env σ s)
    (hst : noStar es = true := by rfl)
    (he : eval (.Call (.Attribute o name apos) es [] pos) env = (do
      let ov ← eval o env
      standAt apos.atName
      let (f, first) ← holding [ov] (getMethod ov name pl)
      callWith pos f first (backTo pos (starEach es env)) (backToKw pos (keywordEach [] env))) := by rfl) : wpAny (md w) A (eval (.Call (.Attribute o name apos) es [] pos) env) Q (fun e s' => ∃ s₁, Ext [] s s₁ ∧ Raised l s₁ s' e) s := by
  refine eval_meth (wpAny_noE (ho s H) fun v s₁ q1 => tmeth m (H.base.ext q1.1) q1.2 ?_) he
  refine callW (callee_K hk) hes (H.ext q1.1) hst fun vs s₂ e H' hv => ?_
  refine wpAny_call (codeAny_mono (hf A s₂ (v :: vs) l r H'.base (K.ext (q1.1.trans e) (by simp)) ⟨v, vs, rfl, e.val0 (H.base.ext q1.1) q1.2, hv⟩) fun rr s₃ z => ?_)
  obtain ⟨x, rfl, z⟩ := z
  exact ⟨s₂, q1.1.trans e, z⟩
/-- x.name(..) that changes x -/
theorem meth_chg {k : Nat} {o : Expr} {name : Str} {apos pos : Pos} {es : List Expr} {ts ds : List D} {f : Addr} {t : Value} {pl : Sem Bool} {d' rv : D} (ho : Ev w A env σ o (.at a (.tags ts))) (m : TMeth w name (.ref f) t) (hk : keepIn (KB w.params) (.ref f) = true) (hes : Evs w A env σ es ds) (hf : FnM w k f (.at a (.tags ts) :: ds) a d' rv) (r : Room k A) (H : Holds w env σ s)
    (hst : noStar es = true := by rfl)
    (he : eval (.Call (.Attribute o name apos) es [] pos) env = (do
      let ov ← eval o env
      standAt apos.atName
      let (f, first) ← holding [ov] (getMethod ov name pl)
      callWith pos f first (backTo pos (starEach es env)) (backToKw pos (keywordEach [] env))) := by rfl) : wpAny (md w) A (eval (.Call (.Attribute o name apos) es [] pos) env) (fun v s' => Val s'.heap rv v ∧ Chg w (.ref cTags) a d' s s') noE s := by
  refine eval_meth (wpAny_noE (ho s H) fun v s₁ q1 => tmeth m (H.base.ext q1.1) q1.2.2 ?_) he
  refine callW (callee_K hk) hes (H.ext q1.1) hst fun vs s₂ e H' hv => ?_
  refine wpAny_call (codeAny_mono (hf A s₂ (v :: vs) r H'.base ⟨v, vs, rfl, e.val0 (H.base.ext q1.1) q1.2, hv⟩) fun rr s₃ z => ?_)
  obtain ⟨x, rfl, z1, z2⟩ := z
  exact ⟨z1, z2.after (q1.1.trans e)⟩

theorem m_index (w : World) : TMeth w "tag_index" (.ref 273) (.type "function") := ⟨by kernel_rfl, by kernel_rfl, rfl⟩
theorem k_keep_index (P : Params) : keepIn (KB P) (.ref 273) = true := by kernel_rfl
theorem flat_set {ts : List D} {i : Nat} {d : D} (h : ∀ d ∈ ts, flat d = true) (hd : flat d = true) : ∀ d' ∈ ts.set i d, flat d' = true := fun d' q => by
  rcases List.mem_or_eq_of_mem_set q with q | q
  · exact h d' q
  · rw [q]; exact hd
theorem Vals.toAt {h : Heap} {d : D} {ds : List D} {vs : List Value} (r : isRefD d = true) (hv : Vals h (d :: ds) vs) : ∃ a, Vals h (.at a d :: ds) vs := by
  obtain ⟨v, rest, rfl, h1, h2⟩ := hv
  obtain ⟨a, rfl, h3⟩ := Mine.toAt r h1
  exact ⟨a, _, _, rfl, h3, h2⟩

theorem fn_update {k : Nat} {rs : List Row} {n : Nat} {r0 q : Row} (hn : nTop ≤ a) (hz : rs.length ≤ 100) (hlt : n < rs.length) (hno : ∀ i, i < n → ∀ r, rs[i]? = some r → (r.1 == q.1) = false) (hr0 : rs[n]? = some r0) (hyes : (r0.1 == q.1) = true) :
    FnM w (k + 5) 280 [.at a (tagsD rs), tagD q] a (tagsD (rs.set n q)) .none := by
  refine fn_chg hn (fun P => by k_is) (by kernel_rfl) (by exact two_arg fun v u => rfl) (by rfl) (by
    intro A L s r hna H
    refine run_assign (ev_meth (ev_at (ev_name rfl)) (m_index _) (k_keep_index _) (evs1 (ev_code (r.mono (by omega : 2 ≤ k + 4)) (ev_name rfl))) (fn_index1 (n := n) hz (by omega) (fun i hi r h => hno i hi r (by simpa using h)) r0 (by simpa using hr0) hyes) r) H fun s1 e1 H1 => ?_
    have ho : ∀ i ∈ a :: own _, nTop ≤ i := fun i hi => (List.mem_cons.mp hi).elim (fun q => by rw [q]; exact hn) (H.big i)
    refine wpAny_execs_cons (wpAny_Assign_Subscript (wpAny_noE (ev_run (ev_name (d := tagD q) rfl) H1) fun v s2 q2 => wpAny_noE (ev_run (ev_name (d := .at a (tagsD rs)) rfl) (H1.ext q2.1)) fun ov s3 q3 => wpAny_noE (ev_run (ev_name (d := .int ((0 + n : Nat) : Int)) rfl) ((H1.ext q2.1).ext q3.1)) fun iv s4 q4 => ?_))
    have H2 := H1.ext q2.1
    have H3 := H2.ext q3.1
    have H4 := H3.ext q4.1
    obtain ⟨x4, t, rfl⟩ := q4
    obtain ⟨x3, rfl, hov⟩ := q3
    refine wpAny_noE (set_tags hn H4.base (x4.val0 H3.base hov) (d := tagD q) ((x3.trans x4).val0 H2.base q2.2) (by simp; omega) (by simp; omega) (flat_set (flat_tags _) rfl)) fun _ s5 c => wpAny_execs_nil ⟨?_, rfl, ?_⟩
    · exact ((e1.wk (fun i hi => List.mem_cons_of_mem _ hi) ho).trans (((q2.1.trans x3).trans x4).wk0 ho)).trans (c.one.wk (fun i hi => by rw [List.mem_singleton.mp hi]; exact List.mem_cons_self ..) ho)
    · have := c.val
      rw [show (rs.map tagD).set (0 + n) (tagD q) = (rs.set n q).map tagD by rw [List.map_set, Nat.zero_add]] at this
      exact this)
theorem fnx_update {k : Nat} {rs : List Row} {q : Row} (hz : rs.length ≤ 100) (hno : ∀ i, i < rs.length → ∀ r, rs[i]? = some r → (r.1 == q.1) = false) : FnX w (k + 5) 280 [tagsD rs, tagD q] := by
  refine fn_raise (ds' := [tagsD rs, tagD q]) (fun P => by k_is) (by kernel_rfl) (by exact binds0 (two_arg fun v u => rfl)) (by rfl) (by
    intro A L l s r K H
    refine wpAny_execs_cons (wpAny_Assign_Name (wpAny_mono (meth_raise (Q := fun _ _ => False) (ev_name rfl) (m_index _) (k_keep_index _) (evs1 (ev_code (r.mono (by omega : 2 ≤ k + 4)) (ev_name rfl))) (fnx_index1 hz (fun i _ hi r h => hno i hi r h)) r K H) (fun _ _ q => q.elim) fun e s' z => ?_))
    obtain ⟨s1, x, z⟩ := z
    exact ⟨s1, x.wk0 H.big, (H.ext x).less (fun y d q => by cases q), .inr z⟩)

theorem m_update (w : World) : TMeth w "update" (.ref 280) (.type "function") := ⟨by kernel_rfl, by kernel_rfl, rfl⟩
theorem k_keep_update (P : Params) : keepIn (KB P) (.ref 280) = true := by kernel_rfl
theorem fn_set_first1 {k : Nat} {rs : List Row} {n : Nat} {r0 q : Row} (hn : nTop ≤ a) (hz : rs.length ≤ 100) (hlt : n < rs.length) (hno : ∀ i, i < n → ∀ r, rs[i]? = some r → (r.1 == q.1) = false) (hr0 : rs[n]? = some r0) (hyes : (r0.1 == q.1) = true) :
    FnM w (k + 6) 287 [.at a (tagsD rs), tagD q] a (tagsD (rs.set n q)) .none := by
  refine fn_chg hn (fun P => by k_is) (by kernel_rfl) (by exact two_arg fun v u => rfl) (by rfl) (by
    intro A L s r hna H
    have ho : ∀ i ∈ a :: own _, nTop ≤ i := fun i hi => (List.mem_cons.mp hi).elim (fun q => by rw [q]; exact hn) (H.big i)
    refine wpAny_execs_cons (wpAny_Try_except (wpAny_noE (run_expr (R := fun s' => Chg w (.ref cTags) a (tagsD (rs.set n q)) s s') (Q := fun f s' => f = .next ∧ Chg w (.ref cTags) a (tagsD (rs.set n q)) s s') (E := noE) (wpAny_noE (meth_chg (ev_name rfl) (m_update _) (k_keep_update _) (evs1 (ev_name rfl)) (fn_update hn hz hlt hno hr0 hyes) r H) fun v s' z => ⟨z.1, z.2⟩) fun s' c => wpAny_execs_nil ⟨rfl, c⟩) fun f s' z => ?_))
    obtain ⟨rfl, c⟩ := z
    exact wpAny_execs_nil (wpAny_execs_nil ⟨c.one.wk (fun i hi => by rw [List.mem_singleton.mp hi]; exact List.mem_cons_self ..) ho, rfl, c.val⟩))
theorem fn_set_first0 {k : Nat} {rs : List Row} {q : Row} (hn : nTop ≤ a) (hz : rs.length ≤ 100) (hno : ∀ i, i < rs.length → ∀ r, rs[i]? = some r → (r.1 == q.1) = false) : FnMU w (k + 6) 287 [.at a (tagsD rs), tagD q] a (tagsD (rs ++ [q])) .none := by
  refine fn_any (ds' := [.at a (tagsD rs), tagD q]) (fun l s r s' => ∃ v sm, r = .ok (.ret v) ∧ Val s'.heap .none v ∧ Upto l s sm ∧ Chg w (.ref cTags) a (tagsD (rs ++ [q])) sm s') (fun P => by k_is) (by kernel_rfl) (by exact binds0 (two_arg fun v u => rfl)) (by rfl) (by
    intro A L l s s0 r K B e0 hnew K0 H
    refine wpAny_execs_cons (wpAny_Try_except (wpAny_execs_cons (wpAny_Expr (wpAny_mono (meth_raise (Q := fun _ _ => False) (ev_at (ev_name rfl)) (m_update _) (k_keep_update _) (evs1 (ev_name rfl)) (fnx_update hz hno) r K0 H) (fun _ _ q => q.elim) fun e s' z => ?_))))
    obtain ⟨s1, x, z⟩ := z
    have H1 := H.ext x
    have K1 := K0.ext x (by simp)
    refine caught H1 K1 z rfl rfl rfl fun s2 h up H2 => ?_
    refine run_expr (ev_append hn (ev_name rfl) (ev_name rfl) (by simp; omega) (fun d hd => ?_) H2) fun s3 c => wpAny_execs_nil (wpAny_execs_nil ⟨.none, s2, rfl, rfl, upto_drop K e0 hnew rfl (x.wk0 H.big) up, ?_⟩)
    · rcases List.mem_append.mp hd with q | q
      · exact flat_tags _ d q
      · rw [List.mem_singleton.mp q]; rfl
    · have e : rs.map tagD ++ [tagD q] = (rs ++ [q]).map tagD := by simp
      rw [e] at c; exact c)
end
end Mine
end
section
open PySem PySem.W PyProof.Rows PySem.Builtin
open AutoSeq1 (wpAny_loadPart')
set_option Elab.async false
set_option maxRecDepth 100000
namespace Mine

section
variable {prog : Program} {w' : World} {A : Around} {P : Params} {s : Shared} {a dx x C : Addr} {vs : List Value} {n m : Nat} {E : Value → Shared → Prop} {ox : Obj} {od : Option Obj} {T id : String} {name : Str}
theorem ifBound_X {refuse : Sem Value} {Q : Option Value → Shared → Prop} (X : (KB P).In s.heap) (I : InstAt s.heap x ox C od) (hs : findIn (KB P) (.ref C) name = some (some (.builtin id))) (sl : Slot T name id)
    (h : wpAny (model prog w') A (call (.builtin id) [.ref x]) (fun v => Q (some v)) E s) : wpAny (model prog w') A (callSpecialIfBoundUnlessNone? (.ref x) name refuse) Q E s := by
  simp only [callSpecialIfBoundUnlessNone?, bindSpecialIfBound?]
  refine wpAny_holding (wpAny_bind (wpAny_bind (wpAny_bind (I.type.here ((looks_findIn X hs).here ?_)))))
  simp only [sl.bind]
  refine wpAny_bind (wpAny_askSetting (wpAny_ite ?_))
  have fin : wpAny (model prog w') A (if (Value.builtin id == Value.none) = true then (refuse >>= fun v => pure (some v)) else (call (.builtin id) [.ref x] >>= fun v => pure (some v))) Q E s := by
    simp only [builtin_beq_none, Bool.false_eq_true, if_false]
    exact wpAny_bind (wpAny_mono h (fun v s' h' => wpAny_pure h') fun _ _ h' => h')
  split
  · exact wpAny_bind (wpAny_pure (wpAny_pure fin))
  · exact wpAny_tryCatch (wpAny_bind (wpAny_pure (wpAny_pure fin)))
theorem tags_instX {M : Model} (X : (KB P).In s.heap) (g : s.heap.get? a = some (tagsO vs n dx)) : Looks M s.heap (isInstance (.ref a) (.type "list")) true :=
  ((Looks.ld (part := none) g).andThen .now).andThen (looks_subIn X (k_tags_sub _))
theorem pyIter_tagsX {Q : Value → Shared → Prop} (X : (KB P).In s.heap) (g : s.heap.get? a = some (tagsO vs n dx)) (gd : s.heap.get? dx = some (dictO m))
    (h : Q (.ref s.heap.objs.size) { s with heap := s.heap.push { cls := .type "list_iterator", data := .fields #[.ref a, .int 0 0] } }) : wpAny (model prog w') A (pyIter (.ref a)) Q E s := by
  have I := inst_tags g gd
  unfold pyIter
  refine wpAny_bind (wpAny_bind (I.type.here ((looks_findIn X (k_s_iter _)).here ?_)))
  refine wpAny_bind (ifBound_X X I (k_s_iter _) slot_list_iter ?_)
  refine wpAny_call (codeAny_call_builtin slot_list_iter.plain entry_list_iter (check_slot (owner := "list") (n := "__iter__") (by decide +kernel) (by decide +kernel) (tags_instX X g) (args_list_iter _) ?_))
  show wpAny _ _ (do ret (← newFields "list_iterator" [.ref a, rawInt 0])) _ _ s
  refine wpAny_bind (wpAny_newObj_type (wpAny_pure ?_))
  refine wpAny_bind (wpAny_specialOf (T := "list_iterator") ⟨_, Heap.get?_push_size _ rfl, rfl⟩ slot_listiter_next.lookup (wpAny_pure h))

theorem meets_enum_tags (l : Addr) (vs : List Value) (n : Nat) (dx : Addr) (m : Nat) (P : Params) :
    Meets (Builtin.«enumerate.__new__» ⟨[.type "enumerate", .ref l], []⟩) (fun _ R s => (KB P).In s.heap ∧ s.heap.get? l = some (tagsO vs n dx) ∧ s.heap.get? dx = some (dictO m) ∧
      R (.ok (.ret (.ref (s.heap.push { cls := .type "list_iterator", data := .fields #[.ref l, .int 0 0] }).objs.size)))
        { s with heap := (s.heap.push { cls := .type "list_iterator", data := .fields #[.ref l, .int 0 0] }).push { cls := .type "enumerate", data := .fields #[.none, .bool false, .ref s.heap.objs.size, rawInt 0, .none, .none] } }) :=
  .of_wp fun prog w A R s h => by
    obtain ⟨hp, g, d, tk, os⟩ := s; obtain ⟨X, hl, gd, h⟩ := h
    have hsub := sub_enumerate
    wp_walk using wpAny_loadPart' hl
    refine wpAny_stack_any fun st => wpAny_pure ?_
    split
    · rename_i c _ _ _ _ _
      cases (c == Value.type "enumerate")
      · wp_walk using wpAny_loadPart' hl, pyIter_tagsX X hl gd
        exact ⟨_, rfl, h⟩
      · wp_walk using wpAny_loadPart' hl, pyIter_tagsX X hl gd
        exact ⟨_, rfl, h⟩
    · wp_walk using wpAny_loadPart' hl, pyIter_tagsX X hl gd
      exact ⟨_, rfl, h⟩
theorem call_enum_tags {Q : Value → Shared → Prop} (X : (KB P).In s.heap) (g : s.heap.get? a = some (tagsO vs n dx)) (gd : s.heap.get? dx = some (dictO m))
    (h : ∀ h', IsEnum h' (s.heap.objs.size + 1) s.heap.objs.size 0 .none → h'.IsListIter s.heap.objs.size a 0 → h'.objs.size = s.heap.objs.size + 2 →
      (∀ b o, s.heap.get? b = some o → h'.get? b = some o) → Q (.ref (s.heap.objs.size + 1)) { s with heap := h' }) :
    wpAny (model prog w') A (call (.type "enumerate") [.ref a]) Q E s := by
  refine callType_new F.called_enumerate (by decide) (F.typeCall_enumerate_1 _) (F.newCall_enumerate_1 _) (fun obj => F.args_object_init_2 obj _) F.entry_enumerate_new
    (meets_enum_tags a vs n dx m P) ⟨X, g, gd, ?_⟩
  have hz : (s.heap.push { cls := .type "list_iterator", data := .fields #[.ref a, .int 0 0] }).objs.size = s.heap.objs.size + 1 := Heap.size_push ..
  show _ ∧ _
  rw [hz]
  have he : IsEnum ((s.heap.push { cls := .type "list_iterator", data := .fields #[.ref a, .int 0 0] }).push
      { cls := .type "enumerate", data := .fields #[.none, .bool false, .ref s.heap.objs.size, rawInt 0, .none, .none] }) (s.heap.objs.size + 1) s.heap.objs.size 0 .none := by
    have := Heap.get?_push_size (s.heap.push { cls := .type "list_iterator", data := .fields #[.ref a, .int 0 0] })
      (o := { cls := .type "enumerate", data := .fields #[.none, .bool false, .ref s.heap.objs.size, rawInt 0, .none, .none] }) rfl
    rw [hz] at this; exact this
  refine ⟨⟨_, he, rfl⟩, h _ he ⟨_, Heap.get?_push_of_some _ (Heap.get?_push_size _ rfl), rfl, rfl⟩ (by rw [Heap.size_push, hz]) fun b o x => Heap.get?_push_of_some _ (Heap.get?_push_of_some _ x)⟩
end

section
variable {w : World} {A : Around} {env : Env} {σ : List (Str × D)} {s : Shared}
theorem k_g_enum (P : Params) : nsIn (KB P) mainGlobals "enumerate" = some none ∧ nsIn (KB P) builtinsNs "enumerate" = some (some (.type "enumerate")) := ⟨by kernel_rfl, by kernel_rfl⟩

/-- the numbered things of a row that lies at a -/
theorem iter_enum_at {elts : List Expr} {k : Nat} {pos : Pos} {s s₁ : Shared} {h' : Heap} {a : Addr} {o : Obj} {ds : List D} {vs : List Value} {n : Nat} (hh : A.handled = none) (B : Base w s) (e1 : Ext [] s s₁) (g : s₁.heap.get? a = some o) (hd : o.data = .seq vs.toArray n) (hc : o.cls ≠ .none) (hv : Vals s₁.heap ds vs)
    (he : IsEnum h' (s₁.heap.objs.size + 1) s₁.heap.objs.size 0 .none) (hi : h'.IsListIter s₁.heap.objs.size a 0) (hk : ∀ b o, s₁.heap.get? b = some o → h'.get? b = some o) :
    ∃ I S St Fin, Value.ref (s₁.heap.objs.size + 1) = .ref I ∧ Src false w A (.Tuple elts k pos) I { s₁ with heap := h' } S [] (numbered ds) St Fin ∧ Ext [] s { s₁ with heap := h' } ∧
    (∀ b ∈ S, s.heap.get? b = none ∧ nTop ≤ b ∧ ∀ o, h'.get? b = some o → infra o = true ∧ (∀ v, o.data ≠ .cell v) ∧ ∀ es ep, o.data ≠ .dict es ep) ∧
    (∀ T s', (∀ t ∈ T, ∀ o, h'.get? t = some o → Store o) → Ext [] { s₁ with heap := h' } s' → St T 0 s') := by
  have B1 := B.ext e1
  have e2 : Ext [] s₁ { s₁ with heap := h' } := Ext.grow (t := s₁.toks) hk
  have hI : nTop ≤ s₁.heap.objs.size := B1.big
  have hlt : a < s₁.heap.objs.size := Heap.lt_size g
  have free1 : ∀ b ∈ [s₁.heap.objs.size + 1, s₁.heap.objs.size], ∀ o, h'.get? b = some o → infra o = true ∧ (∀ v, o.data ≠ .cell v) ∧ ∀ es ep, o.data ≠ .dict es ep := fun b hb o q => by
    rcases List.mem_cons.mp hb with r | r
    · rw [r, show h'.get? (s₁.heap.objs.size + 1) = _ from he] at q; cases q
      exact ⟨rfl, (fun _ q => by cases q), (fun _ _ q => by cases q)⟩
    · obtain ⟨o', g', c, d⟩ := hi
      rw [List.mem_singleton.mp r, g'] at q; cases q
      exact ⟨by unfold infra; rw [d], (fun _ q => by rw [d] at q; cases q), (fun _ _ q => by rw [d] at q; cases q)⟩
  have told : Told w { s₁ with heap := h' } [s₁.heap.objs.size + 1, s₁.heap.objs.size] ds vs := ⟨B1.ext e2, e2.vals0 B1 hv, fun b hb o q => (free1 b hb o q).1⟩
  have src := src_enum (elts := elts) (k := k) (pos := pos) (ax := a) hh (Nat.le_succ_of_le hI) hI (B1.notab g hc) (Nat.ne_of_lt (Nat.lt_succ_of_lt hlt)) (Nat.ne_of_lt hlt) (Nat.succ_ne_self _) told
  refine ⟨_, _, _, _, rfl, src, e1.trans e2, fun b hb => ?_, fun T s' hT e => ?_⟩
  · refine ⟨B.fresh e1 (gone ?_), ?_, free1 b hb⟩
    · rcases List.mem_cons.mp hb with r | r
      · rw [r]; exact Nat.le_succ _
      · rw [List.mem_singleton.mp r]; exact Nat.le_refl _
    · rcases List.mem_cons.mp hb with r | r
      · rw [r]; exact Nat.le_succ_of_le hI
      · rw [List.mem_singleton.mp r]; exact hI
  · have noStore : ∀ b, (∀ o, h'.get? b = some o → (∀ v, o.data ≠ .cell v) ∧ ∀ es ep, o.data ≠ .dict es ep) → (∃ o, h'.get? b = some o) → b ∉ T := fun b h1 ⟨o, q⟩ hm => by
      rcases hT b hm o q with ⟨es, ep, d⟩ | ⟨v, d⟩
      · exact (h1 o q).2 _ _ d
      · exact (h1 o q).1 _ d
    have g2 := hk _ _ g
    refine ⟨noStore _ (fun o q => (free1 _ (List.mem_cons_self ..) o q).2) ⟨_, he⟩, noStore _ (fun o q => (free1 _ (List.mem_cons_of_mem _ (List.mem_singleton.mpr rfl)) o q).2) (let ⟨o, q, _⟩ := hi; ⟨o, q⟩), noStore a (fun o' q => ?_) ⟨_, g2⟩, ⟨.none, e.keep _ _ he (by simp) (nTop_PH (Nat.le_succ_of_le hI)) (nTop_PL (Nat.le_succ_of_le hI))⟩, ?_, ?_⟩
    · rw [g2] at q; cases q
      exact ⟨(fun _ q => by rw [hd] at q; cases q), (fun _ _ q => by rw [hd] at q; cases q)⟩
    · exact hi.at fun o q => e.keep _ _ q (by simp) (nTop_PH hI) (nTop_PL hI)
    · exact ⟨o, n, e.keep _ _ g2 (by simp) (B1.notab g hc).1 (B1.notab g hc).2, hd⟩

theorem iter_enum_tags {elts : List Expr} {k : Nat} {tp px pos : Pos} {e : Expr} {ds : List D} (hh : A.handled = none) (hx : env.kindOf "enumerate" = some .globalImplicit) (h : Ev w A env σ e (.tags ds)) (hst : noStar [e] = true := by rfl) : Iter w A env σ (.Tuple elts k tp) (.Call (.Name "enumerate" px) [e] [] pos) (numbered ds) := fun s H => by
  refine callName (gl_builtin hx (k_g_enum _).1 (k_g_enum _).2) callee_t (evs1 h) H (fun vs s' e1 H' hv => ?_) hst
  obtain ⟨v1, r1, rfl, ⟨a, us, n, dx, m, rfl, g, gd, hus⟩, hr⟩ := hv
  rw [show r1 = [] from hr]
  refine call_enum_tags H'.base.KB g gd fun h' he hi _ hk => ?_
  refine wpAny_noE (wpAny_pyIter_enum he (Q := fun it s2 => it = .ref (s'.heap.objs.size + 1) ∧ s2 = { s' with heap := h' }) ⟨rfl, rfl⟩) fun it s2 q => ?_
  obtain ⟨rfl, rfl⟩ := q
  exact iter_enum_at hh H.base e1 g rfl (by simp) hus he hi hk
theorem iter_enum_list {elts : List Expr} {k : Nat} {tp px pos : Pos} {e : Expr} {ds : List D} (hh : A.handled = none) (hx : env.kindOf "enumerate" = some .globalImplicit) (h : Ev w A env σ e (.list ds)) (hst : noStar [e] = true := by rfl) : Iter w A env σ (.Tuple elts k tp) (.Call (.Name "enumerate" px) [e] [] pos) (numbered ds) := fun s H => by
  refine callName (gl_builtin hx (k_g_enum _).1 (k_g_enum _).2) callee_t (evs1 h) H (fun vs s' e1 H' hv => ?_) hst
  obtain ⟨v1, r1, rfl, ⟨a, us, n, rfl, g, hus⟩, hr⟩ := hv
  rw [show r1 = [] from hr]
  refine call_enumerate_list ⟨_, g, rfl, n, rfl⟩ fun h' he hi _ hk => ?_
  refine wpAny_noE (wpAny_pyIter_enum he (Q := fun it s2 => it = .ref (s'.heap.objs.size + 1) ∧ s2 = { s' with heap := h' }) ⟨rfl, rfl⟩) fun it s2 q => ?_
  obtain ⟨rfl, rfl⟩ := q
  exact iter_enum_at hh H.base e1 g rfl (by simp) hus he hi hk
end
end Mine
end
section
open PySem PySem.W PyProof.Rows PySem.Builtin
set_option Elab.async false
set_option maxRecDepth 100000
namespace Mine

section
variable {w : World} {A : Around} {env : Env} {σ : List (Str × D)}

/-- a for loop that ends by a return at its n-th thing -/
theorem for_hit {target iter : Expr} {body : List Stmt} {pos : Pos} {ds : List D} {bind : D → List (Str × D)} {x0 : Str} {dn d0 : D} (n : Nat) {Q : Flow → Shared → Prop} (hn : ds[n]? = some dn) (it : Iter w A env σ target iter ds) (hx0 : env.kindOf x0 = some .local) (hσ : σ.lookup x0 = some d0)
    (asg : ∀ s v d, d ∈ ds → Val s.heap d v → Holds w env σ s → wpAny (md w) A (assign target env v) (fun _ s' => Holds w env (bind d ++ σ) s' ∧ Ext [env.locals] s s') noE s)
    (bdy : ∀ i d s, i < n → ds[i]? = some d → Holds w env (bind d ++ σ) s → wpAny (md w) A (execs body env) (Out w env σ s none) noE s)
    (s : Shared) (H : Holds w env σ s) (hit : ∀ s3, Ext [env.locals] s s3 → Holds w env (bind dn ++ σ) s3 → wpAny (md w) A (execs body env) (fun f s' => ∃ v, f = .ret v ∧ Q (.ret v) s') noE s3)
    (hs : ∀ x, foldedSetIterable iter env x = pure x := by intro _; rfl) :
    wpAny (md w) A (exec (.For target iter body [] pos) env) Q noE s := by
  refine wpAny_For (wpAny_noE (it s H) fun x s₁ h₁ => wpAny_noE h₁ fun i z h => ?_) hs
  obtain ⟨I, S, St, Fin, rfl, src, ez, hS, st0⟩ := h
  have Hz := H.ext ez
  have hL : nTop ≤ env.locals := H.big _ (List.mem_cons_self ..)
  have hT : ∀ t ∈ [env.locals], nTop ≤ t := fun t ht => by rw [List.mem_singleton.mp ht]; exact hL
  have inf : ∀ {s' : Shared}, Holds w env σ s' → ∀ o, s'.heap.get? env.locals = some o → infra o = true := fun {s'} H' o g => by
    obtain ⟨v, b, _⟩ := H'.vals x0 d0 hσ
    rcases b with ⟨_, m, ⟨o', es, ep, g', dd, _, r⟩, hm⟩ | ⟨k | k, _⟩
    · rw [g] at g'; cases g'
      exact own_infra dd (x := x0) (v := v) (by rw [r]; exact hm)
    · rw [hx0] at k; cases k
    · rw [hx0] at k; cases k
  have tok : TokZ z [env.locals] := fun t ht => ⟨hT t ht, fun o g => by rw [List.mem_singleton.mp ht] at g; exact inf Hz o g⟩
  have sto : ∀ t ∈ [env.locals], ∀ o, z.heap.get? t = some o → Store o := fun t ht o g => by
    obtain ⟨m, o', es, ep, g', dd, _⟩ := Hz.ns
    rw [List.mem_singleton.mp ht, g'] at g; cases g
    exact .inl ⟨es, ep, dd⟩
  have dull : Dull z S := fun a ha o g => ((hS a ha).2.2 o g).2
  have hSn : ∀ a ∈ S, nTop ≤ a := fun a ha => (hS a ha).2.1
  have fin : ∀ {s' : Shared}, ExtG (S ++ [env.locals]) [] z s' → Ext [env.locals] s s' := fun e => by
    refine ((ez.wk0 e.own).trans e).drop (fun i hi => ?_) hT
    rcases List.mem_append.mp hi with q | q
    · exact .inr (hS i q).1
    · exact .inl q
  -- the names at a later state
  have back : ∀ {s' s'' : Shared}, Holds w env σ s' → ExtG (S ++ [env.locals]) [] z s'' → Step false z S [] [env.locals] s' s'' → Holds w env σ s'' := fun {s' s''} H' e q => by
    obtain ⟨W, y, hW⟩ := q
    have hLW : env.locals ∉ W := fun m => (hW _ m).1 (List.mem_singleton.mpr rfl)
    refine ⟨H'.base.ext y, H.big, H.fn, H.gl, H.bi, let ⟨m, q⟩ := H'.ns; ⟨m, y.ns hL hLW q⟩, fun n c hc => ?_, fun o g => ?_, H.inj, fun x d hx => ?_⟩
    · obtain ⟨v, hv⟩ := H'.cells n c hc
      refine ⟨v, y.cell (H.big _ (List.mem_cons_of_mem _ (List.mem_map.mpr ⟨_, mem_of_lookup hc, rfl⟩))) (fun m => ?_) hv⟩
      obtain ⟨u, o, g, dd⟩ := Hz.cells n c hc
      rcases (hW c m).2.1 with r | r
      · exact (dull c r o g).1 _ dd
      · rw [r] at g; cases g
    · obtain ⟨m, o', es, ep, g', r⟩ := H'.ns
      have := y.keep _ _ g' hLW (nTop_PH hL) (nTop_PL hL)
      rw [g] at this; cases this
      exact H'.lone o g'
    · obtain ⟨v, b, hv⟩ := H'.vals x d hx
      refine ⟨v, ?_, ?_⟩
      · rcases b with ⟨k, m, h1, q⟩ | ⟨k, c, h1, n, q⟩
        · exact .inl ⟨k, m, y.ns hL hLW h1, q⟩
        · refine .inr ⟨k, c, h1, n, y.cell n (fun m => ?_) q⟩
          obtain ⟨u, o, g, dd⟩ := Hz.cells x c h1
          rcases (hW c m).2.1 with r | r
          · exact (dull c r o g).1 _ dd
          · rw [r] at g; cases g
      · exact y.val H'.base (fun a ha o g => ((hW a ha).2.2 o g).elim .inl fun q => by cases q.1) hv
  refine codeAny_forLoop_any (fun k s' => ∃ i, k = ds.length - i ∧ i ≤ n ∧ St [env.locals] i s' ∧ Holds w env σ s' ∧ ExtG (S ++ [env.locals]) [] z s') ?_ ds.length
    ⟨0, rfl, Nat.zero_le _, st0 _ z sto (Ext.refl z), Hz, (Ext.refl z).wk0 fun i hi => (List.mem_append.mp hi).elim (hSn i) (hT i)⟩
  rintro k s' ⟨i, rfl, hi, st, H', e⟩
  have hnl : n < ds.length := (List.getElem?_eq_some_iff.mp hn).1
  cases hdi : ds[i]? with
  | none =>
    exfalso
    have : ds.length ≤ i := by simpa using hdi
    omega
  | some d =>
    have hdm : d ∈ ds := List.mem_of_getElem? hdi
    have hilt : i < ds.length := (List.getElem?_eq_some_iff.mp hdi).1
    have ex : ∀ t ∈ [env.locals], ∃ o, s'.heap.get? t = some o := fun t ht => by
      obtain ⟨m, o, es, ep, g, _⟩ := H'.ns
      rw [List.mem_singleton.mp ht]; exact ⟨o, g⟩
    refine wpAny_noE (src.item _ i s' d tok ex st H'.base e hdi) fun r s₁ q => ?_
    obtain ⟨v, rfl, q⟩ := q
    refine wpAny_noE q fun _ s₂ q => ?_
    obtain ⟨hv, st2, q⟩ := q
    have e2 := q.ext e
    have H2 := back H' e2 q
    refine wpAny_noE (asg s₂ v d hdm (Src.now hT hv) H2) fun _ s₃ q3 => ?_
    obtain ⟨H3, x3⟩ := q3
    have e3 := ext_T e2 x3 fun t ht => .inl ht
    have st3 := src.frame _ _ _ _ st2 H2.base x3
    by_cases hin : i < n
    · refine wpAny_noE (bdy i d s₃ hin hdi H3) fun f s₄ q4 => ?_
      obtain ⟨x4, rfl, H4⟩ := q4
      have e4 := ext_T e3 x4 fun t ht => .inl ht
      have st4 := src.frame _ _ _ _ st3 H3.base x4
      exact ⟨ds.length - (i + 1), by omega, i + 1, rfl, hin, st4, H4, e4⟩
    · have hin : i = n := by omega
      subst hin
      rw [hdi] at hn; cases hn
      refine wpAny_noE (hit s₃ (fin e3) H3) fun f s₄ q4 => ?_
      obtain ⟨v, rfl, q⟩ := q4
      exact q

/-- x, y = pair -/
theorem asg_pair {x y : Str} {p1 p2 pos : Pos} {k : Nat} {d1 d2 : D} {v : Value} {s : Shared} (hh : A.handled = none) (kx : env.kindOf x = some .local) (ky : env.kindOf y = some .local) (h1 : env.func.isSome = true ∨ bears (.type "dict") d1 = false) (h2 : env.func.isSome = true ∨ bears (.type "dict") d2 = false)
    (hv : Val s.heap (.tup [d1, d2]) v) (H : Holds w env σ s) :
    wpAny (md w) A (assign (.Tuple [.Name x p1, .Name y p2] k pos) env v) (fun _ s' => Holds w env ((y, d2) :: (x, d1) :: σ) s' ∧ Ext [env.locals] s s') noE s := by
  obtain ⟨t, us, n, rfl, g, hus⟩ := hv
  obtain ⟨v1, _, rfl, hv1, v2, _, rfl, hv2, hr⟩ := hus
  rw [show _ = [] from hr] at g
  refine wpAny_assign_Tuple (items := #[v1, v2]) hh ⟨_, g, rfl, n, rfl⟩ rfl rfl fun h' hk => ?_
  have e0 : Ext [] s { s with heap := h' } := Ext.grow (t := s.toks) fun b o q => hk b o (Nat.ne_of_lt (Heap.lt_size q)) q
  have H0 := H.ext e0
  refine wpAny_assignInOrder_more (wpAny_assign_Name (H0.store (e0.val0 H.base hv1) (.inl kx) (h1.imp id .inl) fun s1 H1 x1 _ _ _ => ?_))
  have x1' : Ext [env.locals] { s with heap := h' } s1 := by unfold place at x1; rw [kx] at x1; exact x1
  have hv2' : Val s1.heap d2 v2 := by
    refine x1'.val H0.base (fun a ha o q => ?_) (e0.val0 H.base hv2)
    rw [List.mem_singleton.mp ha] at q
    rcases H0.lone o q with r | r | ⟨r1, r2, r3⟩
    · exact .inl r
    · exact .inr (by rw [r]; exact bears_frame _)
    · rcases h2 with h2 | h2
      · rw [r2] at h2; cases h2
      · exact .inr (by rw [r1]; exact h2)
  refine wpAny_assignInOrder_more (wpAny_assign_Name (H1.store hv2' (.inl ky) (h2.imp id .inl) fun s2 H2 x2 _ _ _ => wpAny_assignInOrder_none ⟨H2, ?_⟩))
  have x2' : Ext [env.locals] s1 s2 := by unfold place at x2; rw [ky] at x2; exact x2
  exact ((e0.wk0 x1'.own).trans x1').trans x2'

/-- the first handle's place -/
def isH (c : Int) : Bool := [5, 105].any (· == c)
theorem num_get {rs : List Row} {i : Nat} {r : Row} (h : rs[i]? = some r) : (numbered (rs.map tagD))[i]? = some (.tup [.int i, tagD r]) := by
  unfold numbered; rw [List.getElem?_mapIdx, getTag h]; rfl
end
end Mine
end
section
open PySem PySem.W PyProof.Rows PySem.Builtin
set_option Elab.async false
set_option maxRecDepth 100000
namespace Mine

section
variable {w : World} {A : Around} {env : Env} {σ : List (Str × D)} {a : Addr}

theorem num_mem {rs : List Row} {d : D} (h : d ∈ numbered (rs.map tagD)) : ∃ (i : Nat) (r : Row), rs[i]? = some r ∧ d = .tup [.int i, tagD r] := by
  obtain ⟨i, hi⟩ := List.getElem?_of_mem h
  unfold numbered at hi
  rw [List.getElem?_mapIdx, List.getElem?_map] at hi
  cases q : rs[i]? with
  | none => rw [q] at hi; cases hi
  | some r => rw [q] at hi; exact ⟨i, r, q, by simpa using hi.symm⟩
def bindP (x y : Str) : D → List (Str × D)
  | .tup [d1, d2] => [(y, d2), (x, d1)]
  | _ => []
theorem less2 {x y : Str} {e f : D} {σ : List (Str × D)} (hx : σ.lookup x = none) (hy : σ.lookup y = none) : ∀ z d, σ.lookup z = some d → ((y, f) :: (x, e) :: σ).lookup z = some d := fun z d h => by
  have := less1 (e := e) hx z d h
  rw [List.lookup_cons]
  have hz : (z == y) = false := by
    rw [beq_eq_false_iff_ne]; intro q; rw [q, hy] at h; cases h
  rw [hz]; exact this

theorem own_of {s : Shared} (hn : nTop ≤ a) (H : Holds w env σ s) : (∀ i ∈ a :: own env, nTop ≤ i) ∧ (∀ i ∈ [env.locals], i ∈ a :: own env) :=
  ⟨fun i hi => (List.mem_cons.mp hi).elim (fun q => by rw [q]; exact hn) (H.big i), fun i hi => by rw [List.mem_singleton.mp hi]; exact List.mem_cons_of_mem _ (List.mem_cons_self ..)⟩
def QM {s : Shared} (_ : Holds w env σ s) (a : Addr) (d' rv : D) : Flow → Shared → Prop := fun f s' => f = .ret .none ∧ Ext (a :: own env) s s' ∧ Val s'.heap rv .none ∧ Val s'.heap d' (.ref a)
theorem fn_replace1 {k : Nat} {rs : List Row} {n : Nat} {r0 : Row} {x : Str} (hn : nTop ≤ a) (hz : rs.length ≤ 100) (hno : ∀ i, i < n → ∀ r, rs[i]? = some r → isH r.1 = false) (hr0 : rs[n]? = some r0) (hyes : isH r0.1 = true) :
    FnM w (k + 3) 230 [.at a (tagsD rs), .str x] a (tagsD (rs.set n (r0.1, x))) .none := by
  refine fn_chg hn (fun P => by k_is) (by kernel_rfl) (by exact two_arg fun v u => rfl) (by rfl) (by
    intro A L s r hna H
    obtain ⟨ho, hL⟩ := own_of hn H
    refine wpAny_execs_cons (wpAny_noE (for_hit (bind := bindP "index" "tag") (x0 := "self") (n := n) (Q := QM H a (tagsD (rs.set n (r0.1, x))) .none) (num_get hr0) (iter_enum_tags r.handled rfl (ev_at (ev_name rfl))) rfl rfl (fun s v d hd hv H => ?_) (fun i d s hi hd H => ?_) s H (fun s3 e3 H3 => ?_)) fun f s' q => ?_)
    · obtain ⟨i, r', _, rfl⟩ := num_mem hd
      exact asg_pair r.handled rfl rfl (.inl rfl) (.inl rfl) hv H
    · obtain ⟨i', r', hr', rfl⟩ := num_mem (List.mem_of_getElem? hd)
      have hii : i' = i := by
        have := num_get hr'
        have e2 : (numbered (rs.map tagD))[i]? = some (D.tup [.int i', tagD r']) := hd
        unfold numbered at e2
        rw [List.getElem?_mapIdx] at e2
        cases q : (rs.map tagD)[i]? with
        | none => rw [q] at e2; cases e2
        | some z => rw [q] at e2; simp at e2; omega
      subst hii
      have hh := hno i' hi r' hr'
      refine run_if (c := false) (tst_of (tst_cmp (ev_code r (ev_name rfl)) (ev_tuple (evs2 ev_int ev_int)) (cmp_in_tup (ns := [5, 105]))) hh) H (fun q => by cases q) fun _ s2 e2 H2 => ?_
      exact wpAny_execs_nil ⟨e2.wk0 (fun i hi => H.big i (by rw [List.mem_singleton.mp hi]; exact List.mem_cons_self ..)), rfl, H2.less (less2 rfl rfl)⟩
    · refine wpAny_execs_cons (wpAny_If (wpAny_noE (tst_run (tst_of (tst_cmp (ev_code r (ev_name (d := tagD r0) rfl)) (ev_tuple (evs2 ev_int ev_int)) (cmp_in_tup (ns := [5, 105]))) hyes) H3) fun c s4 q4 => ?_))
      obtain ⟨rfl, x4⟩ := q4
      have H4 := H3.ext x4
      refine wpAny_execs_cons (wpAny_Assign_Subscript (wpAny_noE (ev_run (ev_make (k := k) r rfl (ev_code r (ev_name (d := tagD r0) rfl)) (ev_name rfl)) H4) fun v s5 q5 => wpAny_noE (ev_run (ev_name (d := .at a (tagsD rs)) rfl) (H4.ext q5.1)) fun ov s6 q6 => wpAny_noE (ev_run (ev_name (d := .int (n : Int)) rfl) ((H4.ext q5.1).ext q6.1)) fun iv s7 q7 => ?_))
      have H5 := H4.ext q5.1
      have H6 := H5.ext q6.1
      have H7 := H6.ext q7.1
      obtain ⟨x7, t, rfl⟩ := q7
      obtain ⟨x6, rfl, hov⟩ := q6
      have hlt : n < rs.length := (List.getElem?_eq_some_iff.mp hr0).1
      refine wpAny_noE (set_tags hn H7.base (x7.val0 H6.base hov) (d := tagD (r0.1, x)) ((x6.trans x7).val0 H5.base q5.2) (by simp; omega) (by simp; omega) (flat_set (flat_tags _) rfl)) fun _ s8 c => ?_
      refine wpAny_execs_cons (wpAny_Return_none ⟨.none, rfl, rfl, ?_, rfl, ?_⟩)
      · exact ((e3.wk hL ho).trans ((((x4.trans q5.1).trans x6).trans x7).wk0 ho)).trans (c.one.wk (fun i hi => by rw [List.mem_singleton.mp hi]; exact List.mem_cons_self ..) ho)
      · have := c.val
        rw [show (rs.map tagD).set n (tagD (r0.1, x)) = (rs.set n (r0.1, x)).map tagD by rw [List.map_set]] at this
        exact this
    · obtain ⟨rfl, q⟩ := q; exact q)
theorem fn_replace0 {k : Nat} {rs : List Row} {x : Str} (hn : nTop ≤ a) (hz : rs.length ≤ 100) (hno : ∀ r ∈ rs, isH r.1 = false) : FnM w (k + 3) 230 [.at a (tagsD rs), .str x] a (tagsD rs) .none := by
  refine fn_chg hn (fun P => by k_is) (by kernel_rfl) (by exact two_arg fun v u => rfl) (by rfl) (by
    intro A L s r hna H
    obtain ⟨ho, hL⟩ := own_of hn H
    refine wpAny_execs_cons (wpAny_noE (for_row (bind := bindP "index" "tag") (x0 := "self") (P := fun _ => none) (iter_enum_tags r.handled rfl (ev_at (ev_name rfl))) rfl rfl (fun s v d hd hv H => ?_) (fun s d hd H => ?_) (fun x => rfl) s H) fun f s' q => ?_)
    · obtain ⟨i, r', _, rfl⟩ := num_mem hd
      exact asg_pair r.handled rfl rfl (.inl rfl) (.inl rfl) hv H
    · obtain ⟨i', r', hr', rfl⟩ := num_mem hd
      have hh := hno r' (List.mem_of_getElem? hr')
      refine run_if (c := false) (tst_of (tst_cmp (ev_code r (ev_name rfl)) (ev_tuple (evs2 ev_int ev_int)) (cmp_in_tup (ns := [5, 105]))) hh) H (fun q => by cases q) fun _ s2 e2 H2 => ?_
      exact wpAny_execs_nil ⟨e2.wk0 (fun i hi => H.big i (by rw [List.mem_singleton.mp hi]; exact List.mem_cons_self ..)), rfl, H2.less (less2 rfl rfl)⟩
    · obtain ⟨x1, q⟩ := q
      have hnone : (numbered (rs.map tagD)).findSome? (fun _ => (none : Option D)) = none := List.findSome?_eq_none_iff.mpr fun _ _ => rfl
      rw [hnone] at q
      obtain ⟨rfl, H1⟩ := q
      obtain ⟨v, b, hv⟩ := H1.vals "self" (.at a (tagsD rs)) rfl
      refine wpAny_execs_nil ⟨x1.wk hL ho, rfl, by have := hv.2; rw [hv.1] at this; exact this⟩)
end
end Mine
end
section
open PySem PySem.W PyProof.Rows PySem.Builtin
set_option Elab.async false
set_option maxRecDepth 100000
namespace Mine

section
variable {w : World} {A : Around} {env : Env} {σ : List (Str × D)} {a : Addr} {s : Shared}

/-- x = e, e a new thing -/
theorem run_assignF {x : Str} {px pos : Pos} {e : Expr} {d : D} {rest : List Stmt} {Q : Flow → Shared → Prop} {E : Value → Shared → Prop} (h : EvF w A env σ e d) (H : Holds w env σ s) (k : ∀ b s', New s b → Ext (own env) s s' → Holds w env ((x, .at b d) :: σ) s' → wpAny (md w) A (execs rest env) Q E s')
    (hk : env.kindOf x = some .local ∨ (env.kindOf x = some .cell ∧ (env.cells.lookup x).isSome = true) := by first | exact .inl rfl | exact .inr ⟨rfl, rfl⟩) (hf : env.func.isSome = true := by rfl)
    (hs : swapsWith e (some (.Name x px)) pos.line env = pure false := by rfl) : wpAny (md w) A (execs (.Assign [.Name x px] e pos :: rest) env) Q E s := by
  refine wpAny_execs_cons (wpAny_Assign_Name (wpAny_noE (h s H) fun v s₁ q => ?_) hs)
  obtain ⟨⟨e1, hv⟩, b, rfl, hb⟩ := q
  exact (H.ext e1).store (d := .at b d) ⟨rfl, hv⟩ hk (.inl hf) fun s₂ H₂ e _ _ _ => k b s₂ hb ((e1.wk0 H.big).trans (e.wk (fun i hi => place_own i hi) H.big)) H₂
theorem k_g_int (P : Params) : nsIn (KB P) mainGlobals "int" = some none ∧ nsIn (KB P) builtinsNs "int" = some (some (.type "int")) := ⟨by kernel_rfl, by kernel_rfl⟩
theorem ev_toint {px pos : Pos} {e : Expr} {i : Int} (hx : env.kindOf "int" = some .globalImplicit) (h1 : Ev w A env σ e (.int i)) (hst : noStar [e] = true := by rfl) : Ev w A env σ (.Call (.Name "int" px) [e] [] pos) (.int i) := fun s H =>
  callName (gl_builtin hx (k_g_int _).1 (k_g_int _).2) callee_t (evs1 h1) H (fun vs s' e H' hv => by
    obtain ⟨v1, r1, rfl, ⟨t, rfl⟩, hr⟩ := hv
    rw [show r1 = [] from hr]
    exact call_int_int ⟨e, t, rfl⟩) hst

theorem seg_step {rs : List Row} {i j : Nat} {r : Row} (h : rs[i + j]? = some r) : (rs.drop i).take (j + 1) = (rs.drop i).take j ++ [r] := by
  rw [List.take_add_one, List.getElem?_drop, h]; rfl

theorem fn_collect {k : Nat} {rs : List Row} {cs : List Int} {a e n : Nat} {aS : Addr} (hz : rs.length ≤ 100) (hc : cs.length ≤ 50) (hle : a + n ≤ e ∨ n = 0) (he : e ≤ rs.length)
    (hyes : ∀ i, i < n → ∀ r, rs[a + i]? = some r → cs.any (· == r.1) = true) (hend : a + n < e → ∀ r, rs[a + n]? = some r → cs.any (· == r.1) = false) :
    Fn w (k + 3) 317 [.at aS (tagsD rs), .list (cs.map .int), .int (a : Int), .int (e : Int)] (tagsD ((rs.drop a).take n)) := by
  refine fn_pureB (ds' := [.at aS (tagsD rs), .list (cs.map .int), .int (a : Int), .int (e : Int)] ++ []) (fun P => by k_is) (by kernel_rfl) (by exact bindsD rfl (fun P => by k_is) rfl (by decide) (len4 fun v u x y => ⟨_, rfl, rfl⟩) (fun s _ => rfl)) (by rfl) (by
    intro A L r s H
    refine run_assign (ev_fz r.handled rfl (ev_name rfl) hc) H fun s1 e1 H1 => ?_
    refine run_assign (ev_toint rfl (ev_name rfl)) H1 fun s2 e2 H2 => ?_
    refine run_if (tst_cmp (ev_name rfl) ev_none (cmp_is_none fun h v hv => by obtain ⟨_, rfl⟩ := hv; simp)) H2 (fun q => by cases q) fun _ s3 e3 H3 => ?_
    refine run_assignF (evF_tags0 rfl) H3 fun b s4 hb e4 H4 => ?_
    have e03 : Ext (own _) s s3 := (e1.trans e2).trans (e3.wk0 H.big)
    have hne : aS ≠ b := fun q => by
      obtain ⟨vS, bS, hvS⟩ := H3.vals "self" (.at aS (tagsD rs)) rfl
      obtain ⟨_, x, _, _, _, _, q2, g, _⟩ := hvS
      rw [‹vS = .ref aS›] at q2
      cases q2; rw [q, hb.1] at g; cases g
    let σ : Nat → List (Str × D) := fun i => [("bag", .at b (tagsD ((rs.drop a).take i))), ("index", .int ((a + i : Nat) : Int)), ("self", .at aS (tagsD rs)), ("codes", .set true cs), ("end", .int (e : Int))]
    have H5 : Holds w _ (σ 0) s4 := H4.less (by
      intro y d hy
      simp only [σ, List.lookup_cons, List.lookup_nil] at hy
      repeat' (first | (split at hy; · (rename_i q; cases hy; rw [beq_iff_eq.mp q]; rfl)) | cases hy))
    have bigL := H4.big _ (List.mem_cons_self ..)
    have hS : ∀ i ∈ [L, b], nTop ≤ i := fun i hi => by
      rcases List.mem_cons.mp hi with q | q
      · rw [q]; exact bigL
      · rw [List.mem_singleton.mp q]; exact hb.2
    have flt : ∀ i, ∀ d ∈ (((rs.drop a).take i).map tagD), flat d = true := fun i => flat_tags _
    have len : ∀ i, (((rs.drop a).take i).map tagD).length ≤ 1000 := fun i => by simp; omega
    refine wpAny_execs_cons (wpAny_noE (while_run (S := [L, b]) (σ := σ) (res := none) n hS (fun i hi => ⟨?_, fun s H => ?_⟩) ?_ s4 H5) fun f s6 q => ?_)
    · exact tst_of (tst_cmp (ev_name rfl) (ev_name rfl) cmp_lt_int) (by simp only [decide_eq_true_eq]; omega)
    · have hl : a + i < rs.length := by omega
      have hr := List.getElem?_eq_getElem hl
      refine run_assign (ev_item_tags (ev_at (ev_name rfl)) (ev_name rfl) (by omega) (getTag (r := rs[a + i]) (by rw [Int.toNat_natCast]; exact hr)) (by simp; omega)) H fun s1 e1 H1 => ?_
      have e1' : Ext [L] s s1 := e1
      refine wpAny_execs_cons (wpAny_If (wpAny_noE (tst_run (tst_of (tst_cmp (ev_code r (ev_name (d := tagD rs[a + i]) rfl)) (ev_name rfl) cmp_in_set) (hyes i hi _ hr)) H1) fun c s2 q2 => ?_))
      obtain ⟨rfl, x2⟩ := q2
      have H2 := H1.ext x2
      refine run_expr (ev_append hb.2 (ev_name (d := .at b (tagsD ((rs.drop a).take i))) rfl) (ev_name (d := tagD rs[a + i]) rfl) (len i) (fun d hd => ?_) H2) fun s3 c3 => ?_
      · rcases List.mem_append.mp hd with q | q
        · exact flt i d q
        · rw [List.mem_singleton.mp q]; rfl
      have es : ((rs.drop a).take i).map tagD ++ [tagD rs[a + i]] = ((rs.drop a).take (i + 1)).map tagD := by rw [seg_step hr]; simp
      rw [es] at c3
      have H3 : Holds w _ [("bag", .at b (tagsD ((rs.drop a).take (i + 1)))), ("index", .int ((a + i : Nat) : Int)), ("self", .at aS (tagsD rs)), ("codes", .set true cs), ("end", .int (e : Int))] s3 := H2.chg rfl c3 (by
        intro y d' hy
        simp only [List.lookup_cons, List.lookup_nil] at hy
        split at hy
        · rename_i q; cases hy; rw [beq_iff_eq.mp q]; exact ⟨_, rfl, .inr ⟨_, rfl, rfl⟩⟩
        · split at hy
          · rename_i q; cases hy; rw [beq_iff_eq.mp q]; exact ⟨_, rfl, .inl ⟨rfl, rfl⟩⟩
          · split at hy
            · rename_i q; cases hy; rw [beq_iff_eq.mp q]
              refine ⟨_, rfl, .inl ⟨rfl, ?_⟩⟩
              have h1 : (aS == b) = false := by rw [beq_eq_false_iff_ne]; exact hne
              simp only [safe, h1, bl_tags (C := .ref cTags) (by decide) (by decide)]
              rfl
            · split at hy
              · rename_i q; cases hy; rw [beq_iff_eq.mp q]; exact ⟨_, rfl, .inl ⟨rfl, rfl⟩⟩
              · split at hy
                · rename_i q; cases hy; rw [beq_iff_eq.mp q]; exact ⟨_, rfl, .inl ⟨rfl, rfl⟩⟩
                · cases hy)
      refine wpAny_execs_cons (wpAny_noE (aug_int (i := ((a + i : Nat) : Int)) rfl ev_int H3 rfl rfl) fun f s5 q5 => ?_)
      obtain ⟨rfl, H6, e6⟩ := q5
      have e6' : Ext [L] s3 s5 := e6
      refine wpAny_execs_nil (wpAny_execs_nil ⟨?_, rfl, H6.less fun y d hy => ?_⟩)
      · exact ((e1'.wk (fun i hi => by rw [List.mem_singleton.mp hi]; exact List.mem_cons_self ..) hS).trans ((x2.wk0 hS).trans (c3.one.wk (fun i hi => List.mem_cons_of_mem _ hi) hS))).trans (e6'.wk (fun i hi => by rw [List.mem_singleton.mp hi]; exact List.mem_cons_self ..) hS)
      · simp only [σ, List.lookup_cons, List.lookup_nil] at hy ⊢
        split at hy
        · rename_i q; rw [← hy]; rw [beq_iff_eq.mp q]; rfl
        · split at hy
          · rw [← hy]
            show some (D.int _) = some (D.int _)
            rw [show ((a + i : Nat) : Int) + 1 = ((a + (i + 1) : Nat) : Int) by push_cast; omega]
          · rename_i z1 _ z2; simp only [z1, z2]; exact hy
    · by_cases hlt : a + n < e
      · have hl : a + n < rs.length := by omega
        have hr := List.getElem?_eq_getElem hl
        refine .inr ⟨tst_of (tst_cmp (ev_name rfl) (ev_name rfl) cmp_lt_int) (by simp only [decide_eq_true_eq]; omega), fun s H => ?_⟩
        refine run_assign (ev_item_tags (ev_at (ev_name rfl)) (ev_name rfl) (by omega) (getTag (r := rs[a + n]) (by rw [Int.toNat_natCast]; exact hr)) (by simp; omega)) H fun s1 e1 H1 => ?_
        have e1' : Ext [L] s s1 := e1
        refine wpAny_execs_cons (wpAny_If (wpAny_noE (tst_run (tst_of (tst_cmp (ev_code r (ev_name (d := tagD rs[a + n]) rfl)) (ev_name rfl) cmp_in_set) (hend hlt _ hr)) H1) fun c s2 q2 => ?_))
        obtain ⟨rfl, x2⟩ := q2
        refine wpAny_execs_cons (wpAny_Break ⟨?_, rfl, (H1.ext x2).less (less1 rfl)⟩)
        exact (e1'.wk (fun i hi => by rw [List.mem_singleton.mp hi]; exact List.mem_cons_self ..) hS).trans (x2.wk0 hS)
      · exact .inl ⟨tst_of (tst_cmp (ev_name rfl) (ev_name rfl) cmp_lt_int) (by simp only [decide_eq_false_iff_not]; omega), rfl⟩
    · obtain ⟨x6, rfl, H6⟩ := q
      refine wpAny_execs_cons (wpAny_Return_some (wpAny_noE (ev_run (ev_at (ev_name rfl)) H6) fun v s7 q7 => ⟨v, rfl, ?_, q7.2⟩))
      have e4' : Ext [L] s3 s4 := e4
      have e03' : Ext [L] s s3 := e03
      have hLn : ∀ i ∈ [L], nTop ≤ i := fun i hi => by rw [List.mem_singleton.mp hi]; exact bigL
      have nb : s3.heap.get? b = none := hb.1
      have e37 : Ext [L] s3 s7 := (((e4'.wk (fun i hi => by rw [List.mem_singleton.mp hi]; exact List.mem_cons_self ..) hS).trans x6).trans (q7.1.wk0 hS)).drop (fun i hi => by
        rcases List.mem_cons.mp hi with q | q
        · exact .inl (List.mem_singleton.mpr q)
        · rw [List.mem_singleton.mp q]; exact .inr nb) hLn
      exact e03'.trans e37)
end
end Mine
end
section
open PySem PySem.W PyProof.Rows PySem.Builtin
set_option Elab.async false
set_option maxRecDepth 100000
namespace Mine

def codes14 : List Int := [1, 5, 8, 105, 330, 340, 350, 360, 390, 480, 1005, 320, 319, 370]
def vals4 : List Str := ["A", "B", "FF", "0"]
def tagCode0 (n : Int) : Int := codes14.getD (n.fmod 14).toNat 0
def tagMod (c : Int) : Int := if [320, 330, 340, 350, 360, 390].any (· == c) then 10 else if c == 480 then 2 else 1
/-- the n-th tag of the script -/
def lawTag (n : Int) : Row := (tagCode0 n + (n.fdiv 56).fmod (tagMod (tagCode0 n)), vals4.getD ((n.fdiv 14).fmod 4).toNat "")
theorem tagMod_ne {c : Int} : tagMod c ≠ 0 := by unfold tagMod; split <;> (try split) <;> decide
theorem fmod_range (n : Int) {m : Int} (h : 0 < m) : 0 ≤ n.fmod m ∧ n.fmod m < m := ⟨Int.fmod_nonneg_of_pos n h, Int.fmod_lt_of_pos n h⟩
theorem map_getD {α : Type} {l : List α} {f : α → D} {j : Nat} {x : α} (h : j < l.length) : (l.map f)[j]? = some (f (l.getD j x)) := by
  rw [List.getElem?_map, List.getElem?_eq_getElem h, List.getD_eq_getElem?_getD, List.getElem?_eq_getElem h]; rfl

section
variable {w : World} {A : Around} {env : Env} {σ : List (Str × D)} {s : Shared}
def constInts : List Expr → Option (List Int)
  | [] => some []
  | .Constant (.int i) _ _ :: es => (constInts es).map (i :: ·)
  | _ => none
def constStrs : List Expr → Option (List Str)
  | [] => some []
  | .Constant (.str i) _ _ :: es => (constStrs es).map (i :: ·)
  | _ => none
theorem evs_consts : ∀ {es : List Expr} {ns : List Int}, constInts es = some ns → Evs w A env σ es (ns.map .int) ∧ (es.all fun e => match e with | .Starred .. => false | _ => true) = true
  | [], _, h => by cases h; exact ⟨rfl, rfl⟩
  | e :: es, ns, h => by
    unfold constInts at h
    split at h
    · rename_i q; cases q
    · rename_i q
      cases q
      obtain ⟨ms, h1, rfl⟩ := Option.map_eq_some_iff.mp h
      obtain ⟨k1, k2⟩ := evs_consts h1
      exact ⟨⟨_, _, rfl, ev_int, k1⟩, by rw [List.all_cons, k2]; rfl⟩
    · cases h
theorem evs_strs : ∀ {es : List Expr} {ns : List Str}, constStrs es = some ns → Evs w A env σ es (ns.map .str) ∧ (es.all fun e => match e with | .Starred .. => false | _ => true) = true
  | [], _, h => by cases h; exact ⟨rfl, rfl⟩
  | e :: es, ns, h => by
    unfold constStrs at h
    split at h
    · rename_i q; cases q
    · rename_i q
      cases q
      obtain ⟨ms, h1, rfl⟩ := Option.map_eq_some_iff.mp h
      obtain ⟨k1, k2⟩ := evs_strs h1
      exact ⟨⟨_, _, rfl, ev_str, k1⟩, by rw [List.all_cons, k2]; rfl⟩
    · cases h
theorem swaps_sub {v sl : Expr} {p : Pos} {t : Option Expr} {n : Nat} : swapsWith (.Subscript v sl p) t n env = pure false := rfl
theorem ble_of {n : Nat} (h : n ≤ 1000) : Nat.ble n 1000 = true := Nat.ble_eq.mpr h
theorem ev_ints {es : List Expr} {pos : Pos} {ns : List Int} (h : constInts es = some ns) (hz : ns.length ≤ 1000) : Ev w A env σ (.List es pos) (.list (ns.map .int)) := EvF.ev (evF_list (evs_consts h).1 (evs_consts (w := w) (A := A) (env := env) (σ := σ) h).2 (ble_of (by simpa using hz)))
theorem ev_strs {es : List Expr} {pos : Pos} {ns : List Str} (h : constStrs es = some ns) (hz : ns.length ≤ 1000) : Ev w A env σ (.List es pos) (.list (ns.map .str)) := EvF.ev (evF_list (evs_strs h).1 (evs_strs (w := w) (A := A) (env := env) (σ := σ) h).2 (ble_of (by simpa using hz)))
theorem ev_inttup {es : List Expr} {k : Nat} {pos : Pos} {ns : List Int} (h : constInts es = some ns) (hz : ns.length ≤ 1000) : Ev w A env σ (.Tuple es k pos) (.tup (ns.map .int)) := ev_tuple (evs_consts h).1 (evs_consts (w := w) (A := A) (env := env) (σ := σ) h).2 (ble_of (by simpa using hz))
theorem tagCode0_get (n : Int) : (codes14.map D.int)[(n.fmod 14).toNat]? = some (.int (tagCode0 n)) := by
  have r14 := fmod_range n (m := 14) (by decide)
  exact map_getD (l := codes14) (f := D.int) (x := 0) (by show _ < 14; omega)
theorem val4_get (n : Int) : (vals4.map D.str)[((n.fdiv 14).fmod 4).toNat]? = some (.str (vals4.getD ((n.fdiv 14).fmod 4).toNat "")) := by
  have r4 := fmod_range (n.fdiv 14) (m := 4) (by decide)
  exact map_getD (l := vals4) (f := D.str) (x := "") (by show _ < 4; omega)
theorem tagMod_6 {c : Int} (h : [320, 330, 340, 350, 360, 390].any (· == c) = true) : tagMod c = 10 := by unfold tagMod; rw [if_pos h]
theorem tagMod_2 {c : Int} (h : [320, 330, 340, 350, 360, 390].any (· == c) = false) (h2 : (c == 480) = true) : tagMod c = 2 := by unfold tagMod; rw [if_neg (by rw [h]; decide), if_pos h2]
theorem tagMod_1 {c : Int} (h : [320, 330, 340, 350, 360, 390].any (· == c) = false) (h2 : (c == 480) = false) : tagMod c = 1 := by unfold tagMod; rw [if_neg (by rw [h]; decide), if_neg (by rw [h2]; decide)]
theorem ev_pickI {es : List Expr} {ns : List Int} {sl : Expr} {p p' : Pos} {i x : Int} (h : constInts es = some ns) (hz : ns.length ≤ 1000) (hi : Ev w A env σ sl (.int i)) (h0 : 0 ≤ i) (hd : (ns.map D.int)[i.toNat]? = some (.int x))
    (hs : ∀ o i, subscripted sl false o i = operate [o, i] (getItem o i)) : Ev w A env σ (.Subscript (.List es p) sl p') (.int x) := ev_item_list (ev_ints h hz) hi h0 hd (by simpa using hz) hs
theorem ev_pickS {es : List Expr} {ns : List Str} {sl : Expr} {p p' : Pos} {i : Int} {x : Str} (h : constStrs es = some ns) (hz : ns.length ≤ 1000) (hi : Ev w A env σ sl (.int i)) (h0 : 0 ≤ i) (hd : (ns.map D.str)[i.toNat]? = some (.str x))
    (hs : ∀ o i, subscripted sl false o i = operate [o, i] (getItem o i)) : Ev w A env σ (.Subscript (.List es p) sl p') (.str x) := ev_item_list (ev_strs h hz) hi h0 hd (by simpa using hz) hs
theorem ev_tagMod {e e' : Expr} {es : List Expr} {c : Int} {k1 k2 k3 k4 k5 : Nat} {p1 p2 p3 p4 p5 p6 p7 p8 p9 : Pos} (he : Ev w A env σ e (.int c)) (he' : Ev w A env σ e' (.int c)) (h : constInts es = some [320, 330, 340, 350, 360, 390])
    (hm : behindInMarks .In (.Tuple es k1 p1) = false) :
    Ev w A env σ (.IfExp (.Compare e [.In] [.Tuple es k1 p1] p2) (.Constant (.int 10) k2 p3) (.IfExp (.Compare e' [.Eq] [.Constant (.int 480) k3 p4] p5) (.Constant (.int 2) k4 p6) (.Constant (.int 1) k5 p7) p8) p9) (.int (tagMod c)) :=
  ev_ifexp (tst_cmp he (ev_inttup (ns := [320, 330, 340, 350, 360, 390]) h (by decide)) (cmp_in_tup (ns := [320, 330, 340, 350, 360, 390])) hm) (fun h => by rw [tagMod_6 h]; exact ev_int) (fun h => ev_ifexp (tst_cmp he' ev_int cmp_eq_int) (fun h2 => by rw [tagMod_2 h h2]; exact ev_int) (fun h2 => by rw [tagMod_1 h h2]; exact ev_int))
set_option maxHeartbeats 300000 in
theorem fn_lawTag {k : Nat} {n : Int} : Fn w (k + 2) 376 [.int n] (rowD (lawTag n)) := by
  refine fn_pure (fun P => by k_is) (by kernel_rfl) (by exact one_arg fun v => rfl) (by rfl) (by
    intro A L r s H
    have h14 := fmod_range n (m := 14) (by decide)
    have h4 := fmod_range (n.fdiv 14) (m := 4) (by decide)
    with_reducible refine run_assign (d := .int (tagCode0 n)) (hs := ?_) (ev_pickI (ns := codes14) (i := n.fmod 14) ?_ ?_ ?_ h14.1 (tagCode0_get n) ?_) H (fun s1 e1 H1 => ?_) (.inl ?_) ?_
    · kernel_rfl
    · decide
    · exact ev_bin (ev_name rfl) ev_int (bin_mod (by decide))
    · intro _ _; rfl
    rotate_left 1
    · rfl
    · rfl
    · kernel_rfl
    with_reducible refine wpAny_execs_cons (wpAny_noE (aug_int (i := tagCode0 n) (j := (n.fdiv 56).fmod (tagMod (tagCode0 n))) ?_ ?_ H1 ?_ ?_) fun f s2 q => ?_)
    · rfl
    · with_reducible refine ev_bin (b := .int (tagMod (tagCode0 n))) (ev_bin ?_ ev_int (bin_fdiv (by decide) (PyProof.noPylong_of_log2 (by decide +kernel)))) (ev_tagMod ?_ ?_ ?_ ?_) (bin_mod tagMod_ne)
      · exact ev_name rfl
      · exact ev_name rfl
      · exact ev_name rfl
      · kernel_rfl
      · with_unfolding_all rfl
    · rfl
    · rfl
    obtain ⟨rfl, H2, e2⟩ := q
    with_reducible refine wpAny_execs_cons (wpAny_Return_some (wpAny_noE (ev_run (d := .tup [.int (tagCode0 n + (n.fdiv 56).fmod (tagMod (tagCode0 n))), .str (vals4.getD ((n.fdiv 14).fmod 4).toNat "")]) (ev_tuple (evs2 ?_ (ev_pickS (ns := vals4) (i := (n.fdiv 14).fmod 4) ?_ ?_ ?_ h4.1 (val4_get n) ?_)) ?_ ?_) H2) fun v s3 q3 => ⟨v, rfl, ?_, ?_⟩))
    · exact ev_name rfl
    · kernel_rfl
    · decide
    · exact ev_bin (ev_bin (ev_name rfl) ev_int (bin_fdiv (by decide) (PyProof.noPylong_of_log2 (by decide +kernel)))) ev_int (bin_mod (by decide))
    · intro _ _; rfl
    · rfl
    · rfl
    rotate_left 1
    · exact q3.2
    have e2' : Ext (own _) s1 s2 := e2.wk (fun i hi => by rw [List.mem_singleton.mp hi]; exact List.mem_cons_self ..) H.big
    exact (e1.trans e2').trans (q3.1.wk0 H.big))
end
end Mine
end
section
open PySem PySem.W PyProof.Rows PySem.Builtin
set_option Elab.async false
set_option maxRecDepth 100000
namespace Mine

theorem ExtG.setGen {s : Shared} {g : Nat} {x : GenState} (hb : x.bare = true) : ExtG [] [g] s (s.setGen g x) where
  own := fun _ h => by cases h
  keep := fun _ _ e _ _ _ => e
  tH := fun ps t => ⟨#[], (show TabI s.heap 243 PH qH (ps ++ #[]) by simpa using t)⟩
  tL := fun ps t => ⟨#[], (show TabI s.heap 387 PL qL (ps ++ #[]) by simpa using t)⟩
  gens := fun i y e n => ((GenOnly.setGen s g x).2 i (fun q => n (by rw [q]; exact List.mem_singleton.mpr rfl))).trans e
  bare := fun h y hy => by
    rcases Array.mem_or_eq_of_mem_setIfInBounds hy with q | q
    · exact h y q
    · rw [q]; exact hb
  os := rfl

/-- more generators, more objects -/
theorem Ext.newGen {s : Shared} {h' : Heap} {t : Nat} {x : GenState} (hb : x.bare = true) (k : ∀ b o, s.heap.get? b = some o → h'.get? b = some o) : Ext [] s { s with heap := h', toks := t, gens := s.gens.push x } where
  own := fun _ h => by cases h
  keep := fun b o e _ _ _ => k b o e
  tH := fun ps t => ⟨#[], by simpa using t.grow k⟩
  tL := fun ps t => ⟨#[], by simpa using t.grow k⟩
  gens := fun i y e _ => by
    have hlt : i < s.gens.size := (Array.getElem?_eq_some_iff.mp e).1
    show (s.gens.push x)[i]? = some y
    rw [Array.getElem?_push, if_neg (Nat.ne_of_lt hlt)]; exact e
  bare := fun h => AllBare.push h hb
  os := rfl

section
variable {w : World} {A : Around} {E : Value → Shared → Prop} {s : Shared}
/-- what a generator hands out next -/
theorem next_gen {a : Addr} {g n : Nat} {gs : GenState} {fl : Flow} {P : Nat → Shared → Shared → Prop} {Y : Protocol} {Q : Option Value → Shared → Prop} (hfl : fl = .next ∨ fl = .ret .none) (hh : A.handled = none)
    (hl : s.heap.NoLimit) (hroom : A.depth < recursionLimit) (hg : s.heap.IsGen a g) (hgs : s.gens[g]? = some gs)
    (hgo : gs.Goes (md w) A.in1 (fun n s₀ r s₁ => r = .ok fl ∧ P n s₀ s₁) Y n (.send .none) (s.setGen g .running))
    (hY : ∀ v s₁ gs', gs'.bare = true → Y (n - 1) (s.setGen g .running) v s₁ (fun r' s'' => match n with
        | 0 => False
        | m + 1 => gs'.Goes (md w) A.in1 (fun n s₀ r s₁ => r = .ok fl ∧ P n s₀ s₁) Y m r' s'') → Q (some v) (s₁.setGen g gs'))
    (hP : ∀ s₁, P n (s.setGen g .running) s₁ → ∀ h', (∀ b o, s₁.heap.get? b = some o → h'.get? b = some o) → Q none { s₁.setGen g .finished with heap := h' }) :
    wpAny (md w) A (pyNext (.ref a)) Q E s := by
  unfold pyNext
  refine wpAny_bind (wpAny_attempt (wpAny_callSpecial?_slot (name := Str.ofString "__next__") hg.typeIs slot_gen_next
    (wpAny_call_entry slot_gen_next hg.typeIs entry_gen_next ?_ (args_gen_next _))))
  show wpAny _ A.in1 (Builtin.Generator.genWake (.ref a) (.send .none)) _ _ s
  unfold Builtin.Generator.genWake
  refine wpAny_bind (wpAny_holding (wpAny_genNumber hg (wpAny_bind (wpAny_genState hgs ?_))))
  cases gs with
  | running => exact hgo.elim
  | finished => exact hgo.elim
  | _ =>
    refine wpAny_bind (wpAny_roomToWake hl hroom ?_)
    show wpAny _ A.in1 (.resume g (.send .none) [] _) _ _ s
    refine wpAny_resumeQ hgs hgo (fun x s₁ hx => ?_) (fun v s₁ gs' hb hv => ?_)
    · obtain ⟨rfl, hp⟩ := hx
      have go : wpAny (md w) A.in1 (newExc (.type "StopIteration") []) (fun e s' => ∃ ea, e = .ref ea ∧ s'.TypeIs (.ref ea) "StopIteration" ∧ Q none s') (fun _ _ => False) (s₁.setGen g .finished) := by
        simp only [newExc, newTuple]
        refine wpAny_bind (wpAny_newObj_type ?_ (by size_fits))
        refine wpAny_bind (m := firstArgMember _ _) (wpAny_of_eq (a := Value.none) (by first | rfl | (simp only [firstArgMember]; rfl)) ?_)
        refine wpAny_newObj_type ?_ (by size_fits)
        exact ⟨_, rfl, ⟨_, Heap.get?_push_size _ rfl, rfl⟩, hP s₁ hp _ fun b o hb => Heap.get?_push_of_some _ (Heap.get?_push_of_some _ hb)⟩
      rcases hfl with rfl | rfl <;>
      · show wpAny _ A.in1 (newExc (.type "StopIteration") [] >>= _) _ _ _
        refine wpAny_bind (wpAny_mono go (fun e s' z => ?_) fun _ _ z => z.elim)
        obtain ⟨ea, rfl, hT, hq⟩ := z
        simp only [raiseNew]
        refine wpAny_bind (wpAny_bind (wpAny_handled ?_))
        rw [show A.in1.handled = none from hh]
        refine wpAny_throw ?_
        exact wpAny_bind (wpAny_isInstance (T := "StopIteration") (b := true) hT isSubtype_stop (wpAny_pure hq))
    · exact wpAny_pure ⟨v, rfl, wpAny_pure (hY v s₁ gs' hb hv)⟩
end

/-- what lies between two things handed out -/
def PY (lax : Bool) (w : World) (z : Shared) (S : List Addr) (g : Nat) (T : List Addr) (N : Nat) (V : Nat → Value → Prop) : Protocol := fun m s₀ v s₁ kap =>
  V (N - 1 - m) v ∧ Step lax z S [] T s₀ s₁ ∧ ∀ s'', (∀ t ∈ T, ∃ o, s''.heap.get? t = some o) → Base w s'' → ExtG (S ++ T) [g] z s'' → ExtG T [g] s₁ s'' → kap (.send .none) s''
def PR (lax : Bool) (z : Shared) (S : List Addr) (g : Nat) (T : List Addr) (Fin : Shared → Prop) : Nat → Shared → Shared → Prop := fun n s₀ s₁ => n = 0 ∧ Step lax z S [] T s₀ s₁ ∧ ∀ s', ExtG [] [g] s₁ s' → Fin s'
def GenSt (lax : Bool) (w : World) (A : Around) (fl : Flow) (I : Addr) (g : Nat) (z : Shared) (S : List Addr) (N : Nat) (V : Nat → Value → Prop) (Fin : Shared → Prop) (T : List Addr) (i : Nat) (s : Shared) : Prop :=
  I ∉ T ∧ s.heap.IsGen I g ∧ ∃ gs, s.gens[g]? = some gs ∧ ∀ s'', (∀ t ∈ T, ∃ o, s''.heap.get? t = some o) → Base w s'' → ExtG (S ++ T) [g] z s'' → ExtG T [g] s s'' →
    gs.Goes (md w) A.in1 (fun n s₀ r s₁ => r = .ok fl ∧ PR lax z S g T Fin n s₀ s₁) (PY lax w z S g T N V) (N - i) (.send .none) s''

theorem IsGen_keep {S : List Addr} {G : List Nat} {s s' : Shared} {I : Addr} {g : Nat} (x : s.heap.IsGen I g) (e : ExtG S G s s') (hI : nTop ≤ I) (hn : I ∉ S) : s'.heap.IsGen I g :=
  let ⟨o, nm, qn, ho, r⟩ := x; ⟨o, nm, qn, e.keep I o ho hn (nTop_PH hI) (nTop_PL hI), r⟩

section
variable {lax : Bool} {w : World} {A : Around} {fl : Flow} {I : Addr} {g : Nat} {z : Shared} {S T : List Addr} {N : Nat} {V : Nat → Value → Prop} {Fin : Shared → Prop} {i : Nat} {s : Shared}
theorem gen_item (hfl : fl = .next ∨ fl = .ret .none) (hh : A.handled = none) (hroom : A.depth < recursionLimit) (hI : nTop ≤ I) (hIS : I ∉ S) (hz : z.heap.IsGen I g) (hi : i < N)
    (hT : TokZ z T) (hTx : ∀ t ∈ T, ∃ o, s.heap.get? t = some o) (st : GenSt lax w A fl I g z S N V Fin T i s) (B : Base w s) (e : ExtG (S ++ T) [g] z s) :
    wpAny (md w) A (pyNext (.ref I)) (fun r s' => ∃ v, r = some v ∧ V i v ∧ GenSt lax w A fl I g z S N V Fin T (i + 1) s' ∧ Step lax z S [g] T s s') noE s := by
  obtain ⟨h1, h0, gs, hgs, hgo⟩ := st
  obtain ⟨m, hm⟩ : ∃ m, N - i = m + 1 := ⟨N - i - 1, by omega⟩
  rw [hm] at hgo
  have eg : ExtG [] [g] s (s.setGen g .running) := ExtG.setGen rfl
  have eT : ∀ {a b : Shared}, ExtG [] [g] a b → ExtG T [g] a b := fun y => y.wk0 fun t ht => (hT t ht).1
  have eST : ∀ {a b : Shared}, ExtG [] [g] a b → ExtG (S ++ T) [g] a b := fun y => y.wk0 e.own
  refine next_gen hfl hh B.nolimit hroom h0 hgs (hgo _ hTx (B.ext eg) (e.trans (eST eg)) (eT eg)) (fun v s₁ gs' hb hv => ?_) (fun s₁ hp h' hk => ?_)
  · obtain ⟨hVv, ⟨W, y, hW⟩, hkap⟩ := hv
    have eg' : ExtG [] [g] s₁ (s₁.setGen g gs') := ExtG.setGen hb
    have hIW : I ∉ W := fun q => by
      obtain ⟨o, _, _, ho, _⟩ := hz
      rcases (hW I q).2.1 with q | q
      · exact hIS q
      · rw [ho] at q; cases q
    have st : Step lax z S [g] T s (s₁.setGen g gs') := ⟨W, ((eg.wk0 y.own).trans y.anyG).trans (eg'.wk0 y.own), hW⟩
    have hr : s₁.gens[g]? = some .running := y.gens _ _ (setGen_self hgs) (by simp)
    have hii : N - 1 - (m + 1 - 1) = i := by omega
    rw [hii] at hVv
    refine ⟨v, rfl, hVv, ⟨h1, IsGen_keep (IsGen_keep (IsGen_keep h0 eg hI (by simp)) y hI hIW) eg' hI (by simp), gs', setGen_self hr, fun s'' ht B'' e1 e2 => ?_⟩, st⟩
    have hmm : N - (i + 1) = m := by omega
    rw [hmm]
    exact hkap s'' ht B'' e1 ((eT eg').trans e2)
  · exact absurd hp.1 (Nat.succ_ne_zero m)
theorem gen_done (hfl : fl = .next ∨ fl = .ret .none) (hh : A.handled = none) (hroom : A.depth < recursionLimit)
    (hT : TokZ z T) (hTx : ∀ t ∈ T, ∃ o, s.heap.get? t = some o) (st : GenSt lax w A fl I g z S N V Fin T N s) (B : Base w s) (e : ExtG (S ++ T) [g] z s) :
    wpAny (md w) A (pyNext (.ref I)) (fun r s' => r = none ∧ Step lax z S [g] T s s' ∧ Fin s') noE s := by
  obtain ⟨h1, h0, gs, hgs, hgo⟩ := st
  rw [Nat.sub_self] at hgo
  have eg : ExtG [] [g] s (s.setGen g .running) := ExtG.setGen rfl
  have eT : ∀ {a b : Shared}, ExtG [] [g] a b → ExtG T [g] a b := fun y => y.wk0 fun t ht => (hT t ht).1
  have eST : ∀ {a b : Shared}, ExtG [] [g] a b → ExtG (S ++ T) [g] a b := fun y => y.wk0 e.own
  refine next_gen hfl hh B.nolimit hroom h0 hgs (hgo _ hTx (B.ext eg) (e.trans (eST eg)) (eT eg)) (fun v s₁ gs' hb hv => ?_) (fun s₁ hp h' hk => ?_)
  · obtain ⟨_, ⟨W, y, hW⟩, hkap⟩ := hv
    have st : Step lax z S [g] T s s₁ := ⟨W, (eg.wk0 y.own).trans y.anyG, hW⟩
    refine (hkap s₁ (fun t ht => ?_) ((B.ext eg).ext y) (Step.ext e st) ((Ext.refl s₁).anyG.wk0 fun t ht => (hT t ht).1)).elim
    obtain ⟨o, ho⟩ := hTx t ht
    exact ⟨o, y.keep t o ho (fun q => (hW t q).1 ht) (nTop_PH (hT t ht).1) (nTop_PL (hT t ht).1)⟩
  · obtain ⟨_, ⟨W, y, hW⟩, hF⟩ := hp
    have eg' : ExtG [] [g] s₁ { s₁.setGen g .finished with heap := h' } := (ExtG.setGen (s := s₁) (x := .finished) rfl).trans ((Ext.grow (s := s₁.setGen g .finished) (t := s₁.toks) hk).anyG)
    exact ⟨rfl, ⟨W, ((eg.wk0 y.own).trans y.anyG).trans (eg'.wk0 y.own), hW⟩, hF _ eg'⟩
theorem gen_src {ds : List D} {x : Str} {px : Pos}
    (hfl : fl = .next ∨ fl = .ret .none) (hh : A.handled = none) (hroom : A.depth < recursionLimit) (hI : nTop ≤ I) (hIS : I ∉ S) (hz : z.heap.IsGen I g) (hN : ds.length = N)
    (hV : ∀ T s i d v, TokZ z T → ExtG (S ++ T) [g] z s → ds[i]? = some d → V i v → Val s.heap d v) :
    Src lax w A (.Name x px) I z S [g] ds (GenSt lax w A fl I g z S N V Fin) Fin where
  frame := fun T i s s' ⟨h1, h0, gs, h2, h3⟩ B e => ⟨h1, IsGen_keep h0 e hI h1, gs, e.gens _ _ h2 (by simp), fun s'' ht B'' e1 e2 => h3 s'' ht B'' e1 (e.anyG.trans e2)⟩
  self := fun T s ⟨_, h0, _⟩ => wpAny_pyIter_gen h0 ⟨rfl, rfl⟩
  item := fun T i s d hT hTx st B e hd => by
    have hi : i < N := by rw [← hN]; exact (List.getElem?_eq_some_iff.mp hd).1
    refine wpAny_noE (gen_item hfl hh hroom hI hIS hz hi hT hTx st B e) fun r s' q => ?_
    obtain ⟨v, rfl, hv, st', y⟩ := q
    have e' := Step.ext e y
    exact ⟨v, rfl, wpAny_pure ⟨fun s'' q => hV T s'' i d v hT (ext_T e' q fun t ht => .inl ht) hd hv, st', y⟩⟩
  done := fun T s hT hTx st B e => by
    rw [hN] at st
    exact gen_done hfl hh hroom hT hTx st B e
end
end Mine
end
section
open PySem PySem.W PyProof.Rows PySem.Builtin
set_option Elab.async false
set_option maxRecDepth 100000
namespace Mine

theorem Room.over {k : Nat} {A : Around} {c : Code} {fs : List PySem.Frame} (r : Room (k + 1) A) (h1 : (marksOver fs (none, none)).1 = none := by rfl) (h2 : frameCount (fs.map PySem.Frame.where_) + c.weight ≤ 1 := by first | exact Nat.le_refl _ | exact Nat.zero_le _) (h3 : unitsOf (fs.map PySem.Frame.where_) + c.cUnits ≤ 200 := by first | decide | exact Nat.le_of_ble_eq_true rfl) : Room k (A.over c fs) := by
  refine ⟨?_, ?_, ?_⟩
  · show (marksOver fs (A.handled, A.handled)).1 = none
    rw [r.handled]; exact h1
  · have := r.depth
    show A.depth + frameCount (fs.map PySem.Frame.where_) + c.weight + k < 1000
    omega
  · have := r.units
    show A.units + unitsOf (fs.map PySem.Frame.where_) + c.cUnits + 200 * k < 9000
    omega
example {k : Nat} {A : Around} {env : Env} {b : List Stmt} (r : Room (k + 1) A) : Room k (A.over (.func b env) []) := r.over
example {k : Nat} {A : Around} {env : Env} {K : Result → Sem Fin} {b : List Stmt} {t : Expr} {p : Pos} {v : Value} (r : Room (k + 1) A) : Room k (A.over (.forLoop t v b [] env) [.ret K none false [] (.func b env) p []]) := r.over

section
variable {w : World} {k : Nat} {A : Around} {s : Shared} {R : Result → Shared → Prop} {f : Addr}
  {name qual : Str} {params : Arguments} {body : List Stmt} {scope : Scope} {dV kV doc pm cdv ct oc : Value} {an od : Option Addr} {osl : Array (Option Value)} {args : Args} {binds : List (Str × Value)} {ds : List D}

/-- a call of a def that yields: nothing runs yet -/
theorem gen_enter (B : Base w s) (r : Room (k + 1) A)
    (ho : (hd.heap_39 w.params).lookup f = some ⟨oc, od, .func (fnX name qual params body scope [] dV kV doc pm an cdv ct), osl⟩)
    (hcd : codeIn (KB w.params) cdv qual = true) (hbind : BindsTo s (fnX name qual params body scope [] dV kV doc pm an cdv ct) args binds) (hv : Vals s.heap ds (binds.map (·.2)))
    (h : ∀ L s₁ I g, Ext [] s s₁ → (∀ i ∈ own (envF qual scope L f cdv), s.heap.get? i = none) → Holds w (envF qual scope L f cdv) ((binds.map (·.1)).zip ds) s₁ → s₁.heap.IsGen I g → s₁.gens[g]? = some (.fresh (.func body (envF qual scope L f cdv))) →
      s.gens[g]? = none → New s I → I ≠ L → R (.ok (.ret (.ref I))) s₁)
    (hf : (f == PH || f == PL) = false := by decide)
    (hkind : (binds.all fun y => scope.names.lookup y.1 == some .local || scope.names.lookup y.1 == some .cell) = true := by rfl)
    (hnd : (binds.map (·.1)).Nodup := by decide) (hloc : (binds.any fun y => scope.names.lookup y.1 == some .local) = true := by rfl)
    (hco : scope.isCoroutine = false := by rfl) (hgen : scope.isGenerator = true := by rfl) (hk : scope.kind = .function := by rfl) :
    codeAny (md w) A (.call (.ref f) args) R s := by
  rw [Bool.or_eq_false_iff, beq_eq_false_iff_ne, beq_eq_false_iff_ne] at hf
  refine codeAny_call_generator r.limit (B.top _ _ ho hf.1 hf.2) rfl hco hgen rfl (codeRec_of B.KB hcd) (hbind _ _ _ _ ?_)
  refine wpAny_newFunctionEnv_cells hk (kindsX hkind _) fun env he s₁ x => ?_
  subst he
  obtain ⟨h', tk, e, kp⟩ := x.done
  have hL : nTop ≤ s.heap.objs.size := B.big
  have e0 : Ext [] s s₁ := by
    subst e
    exact Ext.grow kp
  have hmem : ∀ i ∈ (cellsFrom (s.heap.objs.size + 1) scope.names []).map (·.2), ∃ n, (n, i) ∈ cellsFrom (s.heap.objs.size + 1) scope.names [] := fun i hi => by
    obtain ⟨p, hp, e⟩ := List.mem_map.mp hi
    exact ⟨p.1, by rw [← e]; exact hp⟩
  have hge : ∀ i ∈ own (envF qual scope s.heap.objs.size f cdv), s.heap.objs.size ≤ i := fun i hi => by
    rcases List.mem_cons.mp hi with q | q
    · rw [q]; exact Nat.le_refl _
    · obtain ⟨n, hn⟩ := hmem i q
      exact Nat.le_of_lt (x.above n i hn)
  have hnone : ∀ i ∈ own (envF qual scope s.heap.objs.size f cdv), s.heap.get? i = none := fun i hi => by
    cases q : s.heap.get? i with
    | none => rfl
    | some o => exact absurd (Heap.lt_size q) (Nat.not_lt.mpr (hge i hi))
  have H : Holds w (envF qual scope s.heap.objs.size f cdv) ((binds.map (·.1)).zip ds) s₁ := by
    refine ⟨B.ext e0, fun i hi => Nat.le_trans hL (hge i hi), hk, rfl, rfl, ⟨_, x.toInCall.ns⟩, fun n c hc => ⟨_, x.cell n c hc⟩, fun o g => ?_, fun y z c h1 h2 => name_of_addr x.apart (mem_of_lookup h1) (mem_of_lookup h2), fun y d q => ?_⟩
    · obtain ⟨y, hy, hl⟩ := List.any_eq_true.mp hloc
      have kl : (envF qual scope s.heap.objs.size f cdv).kindOf y.1 = some .local := (by simpa using hl : scope.names.lookup y.1 = some .local)
      obtain ⟨o2, es2, ep2, g2, hd2, _, r2⟩ := x.toInCall.ns
      have g3 : s₁.heap.get? s.heap.objs.size = some o2 := g2
      rw [show s₁.heap.get? s.heap.objs.size = some o from g] at g3; cases g3
      exact .inl (own_infra hd2 (x := y.1) (v := y.2) (by rw [r2]; exact bindL_at (ko := (envF qual scope s.heap.objs.size f cdv).kindOf) kl hnd hy))
    obtain ⟨v, hm, hval⟩ := zip_vals (hv) q
    refine ⟨v, ?_, e0.val0 B hval⟩
    rcases kindsX hkind (s.heap.objs.size + 1) (y, v) hm with kl | ⟨kc, hc⟩
    · exact .inl ⟨kl, _, x.toInCall.ns, bindL_at (ko := (envF qual scope s.heap.objs.size f cdv).kindOf) kl hnd hm⟩
    · obtain ⟨c, hc⟩ := Option.isSome_iff_exists.mp hc
      have hnl : (envF qual scope s.heap.objs.size f cdv).kindOf y ≠ some .local := by rw [show (envF qual scope s.heap.objs.size f cdv).kindOf y = some .cell from kc]; decide
      refine .inr ⟨.inl kc, c, hc, Nat.le_trans hL (Nat.le_of_lt (x.above y c (mem_of_lookup hc))), ?_⟩
      have := x.cell y c hc
      change s₁.heap.IsCell c (bindC (envF qual scope s.heap.objs.size f cdv).kindOf binds (fun _ => none) y) at this
      rwa [bindC_at (ko := (envF qual scope s.heap.objs.size f cdv).kindOf) hnl hnd hm] at this
  refine ⟨B.nolimit.keeps x.toInCall.keep, ?_⟩
  have e1 : ∀ o t, Ext [] s₁ { s₁ with gens := s₁.gens.push (.fresh (.func body (envF qual scope s.heap.objs.size f cdv))), toks := t, heap := s₁.heap.push o } := fun o t => Ext.newGen rfl fun b o' g => Heap.get?_push_of_some _ g
  have hlt : s.heap.objs.size < s₁.heap.objs.size := by
    obtain ⟨o2, es2, ep2, g2, _⟩ := x.toInCall.ns
    exact Heap.lt_size g2
  have hsz : s₁.gens = s.gens := by subst e; rfl
  refine h s.heap.objs.size _ s₁.heap.objs.size s₁.gens.size (e0.trans (e1 _ _)) hnone (H.ext (e1 _ _)) ⟨_, _, _, Heap.get?_push_size _ rfl, rfl, rfl, rfl⟩ (Array.getElem?_push_size ..) ?_ ⟨?_, Nat.le_trans hL ?_⟩ ?_
  · rw [hsz]; exact Array.getElem?_eq_none (Nat.le_refl _)
  · exact gone (Nat.le_of_lt hlt)
  · exact Nat.le_of_lt hlt
  · exact Nat.ne_of_gt hlt
end
end Mine
end
section
open PySem PySem.W PyProof.Rows PySem.Builtin
set_option Elab.async false
set_option maxRecDepth 100000
namespace Mine

theorem k_s_titer (P : Params) : findIn (KB P) (.ref cTag) "__iter__" = some (some (.ref 106)) := by kernel_rfl
theorem k_fn106 (P : Params) : typeIn (KB P) (.ref 106) = some (.type "function") := by kernel_rfl

section
variable {w : World} {A : Around} {env : Env} {σ : List (Str × D)} {s : Shared} {E : Value → Shared → Prop}

/-- what DXFTag.__iter__ hands out -/
def tagV (r : Row) : Nat → Value → Prop
  | 0, v => ∃ t, v = .int r.1 t
  | 1, v => ∃ t, v = .str r.2 t
  | _, _ => False
theorem step_ext {lax : Bool} {z s s' : Shared} {S T : List Addr} {G : List Nat} (e : ExtG [] G s s') : Step lax z S G T s s' := ⟨[], e, fun _ h => by cases h⟩

/-- a run of a generator made by a call -/
def GenNew (w : World) (A : Around) (I : Addr) (g : Nat) (V : Nat → Value → Prop) (N : Nat) (s : Shared) : Prop :=
  GenSt false w A (.ret .none) I g s [] N V (fun _ => True) [] 0 s

theorem iter_run {k : Nat} {r : Row} {v : Value} (rm : Room (k + 4) A) (B : Base w s) (hv : Val s.heap (tagD r) v) :
    wpAny (md w) A (call (.ref 106) [v]) (fun x s' => ∃ I g, x = .ref I ∧ Ext [] s s' ∧ s'.heap.IsGen I g ∧ New s I ∧ s.gens[g]? = none ∧ ∀ A', Room (k + 4) A' → GenNew w A' I g (tagV r) 2 s') noE s := by
  refine wpAny_call ?_
  refine gen_enter (k := k + 2) (ds := [tagD r]) (binds := [("self", v)]) B (rm.mono (by omega)) (by k_is) (by kernel_rfl) (BindsTo.of_eq (by rfl)) ⟨v, [], rfl, hv, rfl⟩ (fun L s₁ I g e hnew H hg hgs hgn hI _ => ?_) (hnd := by show (["self"] : List Str).Nodup; decide)
  refine ⟨I, g, rfl, e, hg, hI, hgn, fun A' rm' => ⟨by simp, hg, _, hgs, fun s'' _ B'' e1 e2 => ⟨rfl, ?_⟩⟩⟩
  have H2 := H.ext e2
  have rm2 : ∀ b e, Room (k + 2) (A'.in1.over (.func b e) []) := fun b e => (rm'.in1 (k := k + 3)).over
  refine seg_func (seg_execs_cons (seg_Expr_Yield rfl rfl rfl (wpAny_noE (ev_run (ev__code (ev_name rfl)) H2) fun v1 s3 q kap hk => ⟨q.2, step_ext q.1, fun s4 _ B4 _ e4 => hk .none s4 ?_⟩)))
  have H4 := (H2.ext q.1).ext e4
  refine seg_execs_cons (seg_Expr_Yield rfl rfl rfl (wpAny_noE (ev_run (ev_value (rm2 _ _) (ev_name rfl)) H4) fun v2 s5 q kap hk => ⟨q.2, step_ext q.1, fun s6 _ B6 _ e6 => hk .none s6 ?_⟩))
  exact seg_end (.ok (.ret .none)) ⟨rfl, rfl, step_ext (Ext.refl _), fun _ _ => trivial⟩
theorem ifBound_fn {x C f : Addr} {name : Str} {ox : Obj} {od : Option Obj} {refuse : Sem Value} {Q : Option Value → Shared → Prop} (B : Base w s) (I : InstAt s.heap x ox C od) (hs : findIn (KB w.params) (.ref C) name = some (some (.ref f))) (hf : typeIn (KB w.params) (.ref f) = some (.type "function"))
    (h : wpAny (md w) A (call (.ref f) [.ref x]) (fun v => Q (some v)) E s) : wpAny (md w) A (callSpecialIfBoundUnlessNone? (.ref x) name refuse) Q E s := by
  simp only [callSpecialIfBoundUnlessNone?, bindSpecialIfBound?]
  refine wpAny_holding (wpAny_bind (wpAny_bind (wpAny_bind (I.type.here ((looks_findIn B.KB hs).here ?_)))))
  refine wpAny_bind (wpAny_askSetting (wpAny_ite ?_))
  have fin : wpAny (md w) A (if (Value.ref f == Value.none) = true then (refuse >>= fun v => pure (some v)) else (call (.ref f) [.ref x] >>= fun v => pure (some v))) Q E s := by
    rw [if_neg (show ¬ ((Value.ref f == Value.none) = true) from Bool.false_ne_true)]
    exact wpAny_bind (wpAny_mono h (fun v s' h' => wpAny_pure h') fun _ _ h' => h')
  split
  · exact wpAny_bind ((bind_fn B.KB _ hf).here (wpAny_pure fin))
  · exact wpAny_tryCatch (wpAny_bind ((bind_fn B.KB _ hf).here (wpAny_pure fin)))

theorem iter_tag {k : Nat} {r : Row} {v : Value} (rm : Room (k + 4) A) (B : Base w s) (hv : Val s.heap (tagD r) v) :
    wpAny (md w) A (pyIter v) (fun x s' => ∃ I g, x = .ref I ∧ Ext [] s s' ∧ s'.heap.IsGen I g ∧ New s I ∧ s.gens[g]? = none ∧ ∀ A', Room (k + 4) A' → GenNew w A' I g (tagV r) 2 s') noE s := by
  obtain ⟨a, t, u, dx, m, rfl, g, gd⟩ := id hv
  have I := inst_tag g gd
  unfold pyIter
  refine wpAny_bind (wpAny_bind (I.type.here ((looks_findIn B.KB (k_s_titer _)).here ?_)))
  refine wpAny_bind (ifBound_fn B I (k_s_titer _) (k_fn106 _) (wpAny_noE (iter_run rm B hv) fun x s' q => ?_))
  obtain ⟨J, n, rfl, e, hg, q⟩ := q
  refine wpAny_bind (wpAny_specialOf hg.typeIs slot_gen_next.lookup (wpAny_pure ⟨J, n, rfl, e, hg, q⟩))

theorem items_tag {k : Nat} {r : Row} {v : Value} (rm : Room (k + 4) A) (B : Base w s) (hv : Val s.heap (tagD r) v) :
    wpAny (md w) A (unpackItems v 2 none) (fun x s' => ∃ t u, x = [.int r.1 t, .str r.2 u] ∧ Ext [] s s') noE s := by
  obtain ⟨a, t, u, dx, m, rfl, g, gd⟩ := id hv
  have I := inst_tag g gd
  have no : ∀ t ∈ ([] : List Addr), False := fun t h => by cases h
  unfold unpackItems notIterableAtAll
  refine wpAny_bind (wpAny_bind (wpAny_bind (I.type.here ((looks_findIn B.KB (k_s_titer _)).here ?_))))
  refine wpAny_pure ?_
  simp only [Bool.false_eq_true, if_false]
  refine wpAny_bind (wpAny_holding (wpAny_noE (iter_tag rm B hv) fun J z q => ?_))
  obtain ⟨I', n, rfl, e, hg, hI, hgn, hgen⟩ := q
  have st0 := hgen A rm
  have Bz := B.ext e
  have hT : TokZ z [] := fun t h => (no t h).elim
  have hTx : ∀ (s : Shared), ∀ t ∈ ([] : List Addr), ∃ o, s.heap.get? t = some o := fun _ t h => (no t h).elim
  have hI' : nTop ≤ I' := hI.2
  have e0 : ExtG ([] ++ []) [n] z z := (Ext.refl z).anyG
  refine wpAny_bind (wpAny_holding ?_)
  simp only [draw]
  refine wpAny_bind (wpAny_noE (gen_item (.inr rfl) rm.handled rm.limit hI' (by simp) hg (by decide : 0 < 2) hT (hTx _) st0 Bz e0) fun x1 s1 q1 => ?_)
  obtain ⟨v1, rfl, ⟨t1, rfl⟩, st1, y1⟩ := q1
  have e1 := Step.ext e0 y1
  have B1 := Bz.ext e1
  refine wpAny_bind (wpAny_holding (wpAny_bind (wpAny_noE (gen_item (.inr rfl) rm.handled rm.limit hI' (by simp) hg (by decide : 1 < 2) hT (hTx _) st1 B1 e1) fun x2 s2 q2 => ?_)))
  obtain ⟨v2, rfl, ⟨t2, rfl⟩, st2, y2⟩ := q2
  have e2 := Step.ext e1 y2
  have B2 := Bz.ext e2
  refine wpAny_bind (wpAny_holding (wpAny_pure (wpAny_pure (wpAny_pure ?_))))
  simp only [List.length_cons, List.length_nil, Nat.lt_irrefl, if_false]
  refine wpAny_bind (wpAny_holding (wpAny_noE (gen_done (.inr rfl) rm.handled rm.limit hT (hTx _) st2 B2 e2) fun x3 s3 q3 => ?_))
  obtain ⟨rfl, y3, _⟩ := q3
  have e3 : ExtG [] [n] z s3 := Step.ext e2 y3
  refine wpAny_pure ⟨t1, t2, rfl, ?_⟩
  exact (e.anyG.trans e3).dropG fun i hi => by rw [List.mem_singleton.mp hi]; exact hgn

/-- x, y = tag -/
theorem asg_tag {x y : Str} {p1 p2 pos : Pos} {k kk : Nat} {r : Row} {v : Value} (rm : Room (k + 4) A) (kx : env.kindOf x = some .local) (ky : env.kindOf y = some .local) (hf : env.func.isSome = true)
    (hv : Val s.heap (tagD r) v) (H : Holds w env σ s) :
    wpAny (md w) A (assign (.Tuple [.Name x p1, .Name y p2] kk pos) env v) (fun _ s' => Holds w env ((y, .str r.2) :: (x, .int r.1) :: σ) s' ∧ Ext [env.locals] s s') noE s := by
  rw [arm_assign_Tuple]
  refine wpAny_bind (wpAny_standAt ?_)
  unfold unpack
  refine wpAny_bind (wpAny_holding ?_)
  refine wpAny_noE (items_tag rm H.base hv) fun items s0 q => ?_
  obtain ⟨t, u, rfl, e0⟩ := q
  have H0 := H.ext e0
  refine wpAny_assignInOrder_more (wpAny_assign_Name (H0.store (d := .int r.1) ⟨t, rfl⟩ (.inl kx) (.inl hf) fun s1 H1 x1 _ _ _ => ?_))
  have x1' : Ext [env.locals] s0 s1 := by unfold place at x1; rw [kx] at x1; exact x1
  refine wpAny_assignInOrder_more (wpAny_assign_Name (H1.store (d := .str r.2) ⟨u, rfl⟩ (.inl ky) (.inl hf) fun s2 H2 x2 _ _ _ => wpAny_assignInOrder_none ⟨H2, ?_⟩))
  have x2' : Ext [env.locals] s1 s2 := by unfold place at x2; rw [ky] at x2; exact x2
  exact ((e0.wk0 x1'.own).trans x1').trans x2'
end
end Mine
end
section
open PySem PySem.W PyProof.Rows PySem.Builtin
set_option Elab.async false
set_option maxRecDepth 100000
namespace Mine

/-- an exception that was noted -/
structure Noted (F : List Addr) (h0 h : Heap) (e tb : Addr) (cls a0 c2 fl : Value) : Prop where
  keep : ∀ b o, h0.get? b = some o → b ∉ F → h.get? b = some o
  slots : ∀ b ∈ F, ∀ o, h0.get? b = some o → ∃ sl, h.get? b = some { o with slots := sl }
  newE : h0.get? e = none
  newT : h0.get? tb = none
  ne : tb ≠ e
  exc : ∃ oe vs, h.get? e = some oe ∧ oe.cls = cls ∧ oe.data = .fields vs ∧ vs[0]? = some a0 ∧ vs[1]? = some (.ref tb) ∧ vs[2]? = some c2
  trace : ∃ oT ts, h.get? tb = some oT ∧ oT.data = .fields ts ∧ ts[3]? = some fl

section
variable {M : Model} {A : Around} {E : Value → Shared → Prop} {s : Shared} {env : Env} {outer : List Env} {L e tb : Addr} {cls a0 c2 fl : Value} {h0 : Heap} {F : List Addr}
theorem note_new {oe : Obj} {vs : Array Value} {Q : Unit → Shared → Prop} (hF : F = (env :: outer).filterMap (·.frame)) (hfr : A.frames = some (env :: outer)) (hl : s.heap.FunFrames (hideAll h0 F) (env :: outer)) (hf : env.frame = some L)
    (hk : ∀ b o, h0.get? b = some o → s.heap.get? b = some o) (hen : h0.get? e = none) (he : s.heap.get? e = some oe) (hc : oe.cls = cls) (hd : oe.data = .fields vs) (h1 : vs[1]? = some .none) (h0' : vs[0]? = some a0) (h2 : vs[2]? = some c2)
    (h : ∀ h' tb, Noted F h0 h' e tb cls a0 c2 (rawInt L) → Q () { s with heap := h' }) : wpAny M A (noteFrame (.ref e) env) Q E s := by
  have hene : e ∉ F := fun hm => by
    rw [hF] at hm
    obtain ⟨_, o, ho, hnf⟩ := hl.mem hm
    rw [he] at ho; injection ho with ho; subst ho; exact hnf vs hd
  unfold noteFrame
  simp only [hf]
  refine wpAny_bind (wpAny_field he hd h1 ?_)
  rw [if_neg (by decide)]
  refine wpAny_bind (wpAny_frameOf_fun hfr hl hf fun h₁ hs₁ => ?_)
  rw [← hF] at hs₁
  refine wpAny_bind (wpAny_entryPlaceOf fun pl hpl => ?_)
  unfold EntryCells.newEntry newFields
  refine wpAny_bind (wpAny_newObj_type ?_ (hpl.sizeOk5 _ _ _ _ _))
  have he₁ : h₁.get? e = some oe := (hs₁.2.1 e hene).trans he
  have he₂ := Heap.get?_push_of_some (h := h₁) { cls := .type "traceback", dict := none, data := .fields ([Value.none, .ref L, .none, rawInt L, .none] ++ (if pl.isEmpty then List.replicate 6 Value.none else pl)).toArray } he₁
  have hsz : 1 < vs.size := (Array.getElem?_eq_some_iff.mp h1).1
  refine wpAny_setField he₂ hd hsz ?_
  have hd₃ := Obj.data_mapFields hd (·.setIfInBounds 1 (Value.ref h₁.objs.size))
  have he₃ := Heap.get?_update_self (Obj.mapFields (·.setIfInBounds 1 (Value.ref h₁.objs.size))) he₂ (Obj.isFreed_of_fields hd₃)
  have hT₃ := (Heap.get?_update_other (h₁.push { cls := .type "traceback", dict := none, data := .fields ([Value.none, .ref L, .none, rawInt L, .none] ++ (if pl.isEmpty then List.replicate 6 Value.none else pl)).toArray })
    (Obj.mapFields (·.setIfInBounds 1 (Value.ref h₁.objs.size))) (Ne.symm (Nat.ne_of_gt (Heap.lt_size he₁)))).trans (Heap.get?_push_size h₁ rfl)
  have keep : ∀ b o, b ≠ e → h₁.get? b = some o →
      ((h₁.push { cls := .type "traceback", dict := none, data := .fields ([Value.none, .ref L, .none, rawInt L, .none] ++ (if pl.isEmpty then List.replicate 6 Value.none else pl)).toArray }).update e (Obj.mapFields (·.setIfInBounds 1 (Value.ref h₁.objs.size)))).get? b = some o :=
    fun b o hb g => by
      rw [Heap.get?_update_other _ _ (Ne.symm hb)]
      exact Heap.get?_push_of_some _ g
  have ne : ∀ b o, h0.get? b = some o → b ≠ e := fun b o g q => by rw [q, hen] at g; cases g
  refine h _ h₁.objs.size ⟨fun b o g n => keep b o (ne b o g) ((hs₁.2.1 b n).trans (hk b o g)), fun b hb o g => ?_, hen, ?_, Nat.ne_of_gt (Heap.lt_size he₁), ⟨_, _, he₃, (Obj.cls_mapFields _ _).trans hc, hd₃, ?_, ?_, ?_⟩, ⟨_, _, hT₃, rfl, ?_⟩⟩
  · obtain ⟨sl, g1⟩ := hs₁.2.2 b o (hk b o g)
    exact ⟨sl, keep b _ (ne b o g) g1⟩
  · cases q : h0.get? h₁.objs.size with
    | none => rfl
    | some o =>
      obtain ⟨sl, g1⟩ := hs₁.2.2 _ o (hk _ o q)
      exact absurd (Heap.lt_size g1) (Nat.lt_irrefl _)
  · rw [Array.getElem?_setIfInBounds_ne (by decide)]; exact h0'
  · simp [hsz]
  · rw [Array.getElem?_setIfInBounds_ne (by decide)]; exact h2
  · rcases hpl with rfl | ⟨_, _, _, _, _, _, _, rfl⟩ <;> simp
theorem set_flight {f : Option Addr} {Q : Unit → Shared → Prop} (x : Noted F h0 s.heap e tb cls a0 c2 fl) (h : ∀ h', Noted F h0 h' e tb cls a0 c2 (f.elim .none fun a => rawInt a) → Q () { s with heap := h' }) : wpAny M A (setFlight (.ref e) f) Q E s := by
  obtain ⟨oe, vs, he, hc, hd, v0, v1, v2⟩ := x.exc
  obtain ⟨oT, ts, hT, hdT, t3⟩ := x.trace
  unfold setFlight
  refine wpAny_bind (wpAny_field he hd v1 ?_)
  rw [if_pos (show (Value.ref tb != Value.none) = true from by simp)]
  refine wpAny_setField hT hdT (Array.getElem?_eq_some_iff.mp t3).1 (h _ ?_)
  have other : ∀ b, b ≠ tb → (s.heap.update tb (Obj.mapFields (·.setIfInBounds 3 (f.elim Value.none fun a => rawInt a)))).get? b = s.heap.get? b := fun b hb => Heap.get?_update_other _ _ (Ne.symm hb)
  have ne : ∀ b o, h0.get? b = some o → b ≠ tb := fun b o g q => by rw [q, x.newT] at g; cases g
  refine ⟨fun b o g n => (other b (ne b o g)).trans (x.keep b o g n), fun b hb o g => ?_, x.newE, x.newT, x.ne, ⟨oe, vs, (other e (Ne.symm x.ne)).trans he, hc, hd, v0, v1, v2⟩, ⟨_, _, Heap.get?_update_self _ hT (Obj.isFreed_of_fields (Obj.data_mapFields hdT _)), Obj.data_mapFields hdT _, ?_⟩⟩
  · obtain ⟨sl, g1⟩ := x.slots b hb o g
    exact ⟨sl, (other b (ne b o g)).trans g1⟩
  · simp [(Array.getElem?_eq_some_iff.mp t3).1]
theorem note_again {Q : Unit → Shared → Prop} (hf : env.frame = some L) (x : Noted F h0 s.heap e tb cls a0 c2 (rawInt L)) (h : Q () s) : wpAny M A (noteFrame (.ref e) env) Q E s := by
  obtain ⟨oe, vs, he, hc, hd, v0, v1, v2⟩ := x.exc
  obtain ⟨oT, ts, hT, hdT, t3⟩ := x.trace
  unfold noteFrame
  simp only [hf]
  refine wpAny_bind (wpAny_field he hd v1 ?_)
  rw [if_pos (show (Value.ref tb != Value.none) = true from by simp)]
  refine wpAny_bind (wpAny_field hT hdT t3 ?_)
  rw [if_pos (show (rawInt L == rawInt L) = true from by first | (simp; done) | exact beq_self_eq_true _)]
  exact wpAny_pure h
theorem came_back {x : Value} (hx : x = .ref e) (y : Noted F h0 s.heap e tb cls a0 c2 fl) (h : ∀ h', Noted F h0 h' e tb cls a0 c2 (env.frame.elim .none fun a => rawInt a) → E x { s with heap := h' }) : cameBackBy M A env E x s := by
  subst hx
  obtain ⟨oe, vs, he, hc, hd, v0, v1, v2⟩ := y.exc
  unfold cameBackBy
  refine wpAny_bind (wpAny_field he hd v1 ?_)
  rw [if_neg (show ¬ ((Value.ref tb == Value.none) = true) from by simp)]
  exact set_flight y h
end

theorem entry_unchain : entryFor table "proto.unchain" = some Builtin.«proto.unchain» := entryFor_of_fast (by kernel_rfl)
section
variable {w : World} {A : Around} {E : Value → Shared → Prop} {s : Shared} {e ea : Addr}
theorem raise_new_in {α : Type} {oe ox : Obj} {vs us : Array Value} {Q : α → Shared → Prop} (hh : A.handled = some (.ref e)) (hne : ea ≠ e) (he : s.heap.get? e = some oe) (hd : oe.data = .fields vs) (h2 : vs[2]? = some .none) (hx : s.heap.get? ea = some ox) (hdx : ox.data = .fields us) (hi : 2 < us.size)
    (h : E (.ref ea) { s with heap := s.heap.update ea (Obj.mapFields (·.setIfInBounds 2 (.ref e))) }) : wpAny (md w) A (raiseNew (.ref ea) : Sem α) Q E s := by
  unfold raiseNew
  refine wpAny_bind (wpAny_handled ?_)
  rw [hh]
  have hb : (Value.ref e != Value.ref ea) = true := by simp [Ne.symm hne]
  simp only [hb, if_true]
  refine wpAny_bind (wpAny_holding (wpAny_runValue (codeAny_builtin entry_unchain ?_)))
  unfold Builtin.«proto.unchain»
  refine wpAny_bind (wpAny_field he hd h2 ?_)
  rw [if_pos (by rfl)]
  refine wpAny_bind (wpAny_pure (wpAny_pure ?_))
  show wpAny (md w) A (setField (.ref ea) 2 (.ref e) >>= _) _ _ s
  exact wpAny_bind (wpAny_setField hx hdx hi (wpAny_throw h))

variable {env : Env} {nm q : Str} {C N : Addr} {bs bm bmB : List Value} {hdct : Bool} {sn : List Str} {sub : List Value} {ab : Bool} {col : Option Bool} {dd : Option Addr} {k0 k1 k2 k3 k5 : Option Value} {B Bn newId nid initId inN : String} {bmN : List Value}
theorem raiseStmt_in {x : Sem Value} {Q : Flow → Shared → Prop} (hbase : bm.contains (.type "BaseException") = true) (hh : A.handled = some (.ref e))
    (h : wpAny (md w) A x (fun v s₁ => ∃ ea t oe vs, v = .ref ea ∧ s₁.heap.get? C = some (excClassObj nm q C N bs bm hdct sn sub ab col dd k0 k1 k2 k3 k5 newId) ∧
      s₁.heap.get? ea = some { cls := .ref C, data := .fields #[.ref t, .none, .none, .none, .bool false, .none] } ∧ ea ≠ e ∧ s₁.heap.get? e = some oe ∧ oe.data = .fields vs ∧ vs[2]? = some .none ∧
      E (.ref ea) { s₁ with heap := s₁.heap.update ea (Obj.mapFields (·.setIfInBounds 2 (.ref e))) }) E s) :
    wpAny (md w) A (raiseStmt env (some x) none) Q E s := by
  have hcB : (Value.ref C :: bm).contains (.type "BaseException") = true := by rw [List.contains_cons, hbase, Bool.or_true]
  unfold raiseStmt
  refine wpAny_bind (wpAny_mono h (fun v s₁ h₁ => ?_) fun _ _ x => x)
  obtain ⟨ea, t, oe, vs, rfl, hC, hea, hne, heo, hd, h2, hE⟩ := h₁
  obtain ⟨hp, g, d, tk, os⟩ := s₁
  repeat (first | with_reducible refine wpAny_loadPart_at hea ?_ | with_reducible refine wpAny_loadPart_at hC ?_ | (with_reducible refine wpAny_isSubtype_exc hC ?_; rw [hcB]) | wp_step)
  exact raise_new_in hh hne heo hd h2 hea rfl (by simp) hE
end

section
variable {w : World} {A : Around} {env : Env} {σ : List (Str × D)} {l : List Env} {s : Shared} {e0 : Addr}
/-- raise DXFValueError(..) while another exception is handled -/
theorem raise_in {np cpos pos : Pos} {a : Expr} {d : D} (hh : A.handled = some (.ref e0)) (hx : env.kindOf "DXFValueError" = some .globalImplicit) (h : Ev w A env σ a d) (H : Holds w env σ s)
    (he : ∃ oe vs, s.heap.get? e0 = some oe ∧ oe.cls ≠ .none ∧ oe.data = .fields vs ∧ vs[2]? = some .none) (hst : noStar [a] = true := by rfl) {Q : Flow → Shared → Prop} :
    wpAny (md w) A (exec (.Raise (some (.Call (.Name "DXFValueError" np) [a] [] cpos)) none pos) env) Q
      (fun e s' => ∃ s₁ h' ea t, Ext [] s s₁ ∧ e = .ref ea ∧ s' = { s₁ with heap := h' } ∧ (∀ b o, s₁.heap.get? b = some o → h'.get? b = some o) ∧ s₁.heap.get? ea = none ∧ h'.get? ea = some { cls := .ref cErr, data := .fields #[.ref t, .none, .ref e0, .none, .bool false, .none] }) s := by
  obtain ⟨nm, q, N, bs, hdct, sn, sub, ab, col, dd, k0, k1, k2, k3, k5, hc, hN⟩ := cls44 w.params
  subst hN
  obtain ⟨c0, dd1, cd1, sl1, h31, hn31⟩ := cls31 w.params
  have hB := H.base
  obtain ⟨mN, hmN, hmi⟩ := ns_of (w := w) (N := 43) (by decide) (ns43 _)
  have hplain := star_false (pos := cpos) (env := env) hst
  rw [arm_exec_Raise]
  simp only [evalOpt, Option.map]
  refine wpAny_bind (wpAny_standAt (raiseStmt_in (C := 44) (nm := nm) (q := q) (N := 43) (bs := bs) (bm := [.ref 31, .type "ValueError", .type "Exception", .type "BaseException", .type "object"]) (hdct := hdct) (sn := sn) (sub := sub) (ab := ab) (col := col) (dd := dd) (k0 := k0) (k1 := k1) (k2 := k2) (k3 := k3) (k5 := k5) (newId := "Exception.__new__") (by decide +kernel) hh (wpAny_bind (wpAny_mono (wpAny_Call_ofName (wpAny_noE ((gl_main (A := A) (σ := σ) (pos := np) hx (k_g_err _) : Gl w A env σ _ _) s H) (E := fun _ _ => False) fun f s₁ q => ?_)) (fun v s₃ h₃ => wpAny_bind (wpAny_standAt (wpAny_pure h₃))) fun _ _ x => x.elim))))
  obtain ⟨rfl, rfl⟩ := q
  have e1 : backTo cpos (starEach [a] env) = (false, eval a env) :: backTo cpos (starEach [] env) := by
    unfold noStar at hst
    rw [List.all_cons, Bool.and_eq_true] at hst
    cases a <;> first | rfl | (simp at hst; done)
  have key : wpAny (md w) A (spliced (backTo cpos (starEach [a] env))) (fun vs s' => Ext [] s₁ s' ∧ Vals s'.heap [d] vs) noE s₁ := evs_run (evs1 h) hst H
  unfold callWith
  refine wpAny_bind (wpAny_holding (wpAny_mono (Q := fun (a : Args) s₂ => a.kw = [] ∧ Ext [] s₁ s₂ ∧ Vals s₂.heap [d] a.pos) (E := noE) ?_ (fun aa s₂ h₂ => wpAny_bind (wpAny_standAt ?_)) fun _ _ x => x.elim))
  · rw [e1] at key ⊢
    exact Calls.evalArgs_plain (wpAny_noE key fun vs s₂ z => ⟨rfl, z⟩)
  obtain ⟨apos, akw⟩ := aa
  obtain ⟨hkw, ex, hvs⟩ := h₂
  obtain rfl : akw = [] := hkw
  have B2 := hB.ext ex
  obtain ⟨m31, hm31, hi31⟩ := ns_of (w := w) (N := 30) (by decide) (ns30 _)
  have hlen : apos.length ≤ sizeLine := by
    have := hvs.length
    show apos.length ≤ 16777216
    simp only [List.length_cons, List.length_nil] at this; omega
  have hC := B2.top _ _ hc (by decide) (by decide)
  have T : OwnTail s₂.heap [.type "ValueError", .type "Exception", .type "BaseException", .type "object"] [.ref 31, .type "ValueError", .type "Exception", .type "BaseException", .type "object"] := .own (B2.top _ _ h31 (by decide) (by decide)) (by rw [hn31]; exact hm31 _ B2) hi31 .base
  have hN2 := hmN _ B2
  obtain ⟨oe, vs, heo, hec, hd, h2⟩ := he
  have heo2 := ex.at0 hB heo hec
  obtain ⟨hp, g, dr, tk, os⟩ := s₂
  simp only [hplain]
  refine wpAny_bind (wpAny_keeperOf_exc hC ?_)
  refine wpAny_bind (wpAny_call_exc_subU (hrest := hlen) PySem.F.excBase_Exception (by decide +kernel) PySem.F.excBase_ValueError T hC hN2 hmi fun h' ea hm => wpAny_bind (wpAny_holding (wpAny_point (wpAny_pure ?_))))
  obtain ⟨t, ht, _, _⟩ := hm.there
  have hne : ea ≠ e0 := fun z => by
    have := hm.new; rw [z] at this; rw [show hp.get? e0 = some oe from heo2] at this; cases this
  refine ⟨ea, t, oe, vs, rfl, hm.keeps _ _ hC, ht, hne, hm.keeps _ _ heo2, hd, h2, _, _, ea, t, ex, rfl, rfl, fun b o g => ?_, hm.new, ?_⟩
  · exact (Heap.get?_update_other _ _ (fun z => by rw [← z] at g; rw [hm.new] at g; cases g)).trans (hm.keeps _ _ g)
  · exact Heap.get?_update_self _ ht rfl
end
end Mine
end
section
open PySem PySem.W PyProof.Rows PySem.Builtin
set_option Elab.async false
set_option maxRecDepth 100000
namespace Mine

section
variable {w : World} {A : Around} {env : Env} {σ : List (Str × D)}

theorem tgo_list {elts : List Expr} {k : Nat} {pos : Pos} {I ax : Addr} {i : Nat} {s : Shared} {v : Value} (h : s.heap.IsListIter I ax i) : wpAny (md w) A (letOwnedTupleGo (.Tuple elts k pos) (.ref I) v) (fun _ s' => s' = s) noE s := by
  obtain ⟨o, g, hc, hd⟩ := h
  cases v with
  | ref a =>
    show wpAny (md w) A (load I >>= _) _ _ s
    refine wpAny_bind (wpAny_load g ?_)
    rw [hc, hd]
    simp
    exact wpAny_pure rfl
  | _ => exact wpAny_pure rfl

theorem src_listT {elts : List Expr} {k : Nat} {pos : Pos} {I ax : Addr} {z : Shared} {ds : List D} {vs : List Value} (hh : A.handled = none) (hI : nTop ≤ I) (hne : ax ≠ I) (hax : ax ≠ PH ∧ ax ≠ PL) (hz : z.heap.IsListIter I ax 0) (told : Told w z [I] ds vs) :
    Src false w A (.Tuple elts k pos) I z [I] [] ds (fun T i s => I ∉ T ∧ ax ∉ T ∧ s.heap.IsListIter I ax i ∧ SeqAt s.heap ax vs.toArray) (fun _ => True) where
  frame := (src_list (x := "x") (px := pos) hh hI hne hax hz told).frame
  self := (src_list (x := "x") (px := pos) hh hI hne hax hz told).self
  done := (src_list (x := "x") (px := pos) hh hI hne hax hz told).done
  item := fun T i s d hT _ ⟨h1, h2, h3, h4⟩ B e hd => by
    obtain ⟨v, hv, hval⟩ := told.get hT e hd
    refine pyNext_item h3 h4 (x := v) (by simpa using hv) fun h' hit' hs' => ⟨v, rfl, ?_⟩
    refine wpAny_noE (tgo_list hit') fun _ s'' q => ?_
    subst q
    have k : ∀ b o, b ∉ [I] → s.heap.get? b = some o → h'.get? b = some o := fun b o hb g => (hs'.2 b (fun q => hb (by simp [q]))).trans g
    have x := Ext.sets (t := s.toks) (S := [I]) (fun a ha => by rw [List.mem_singleton.mp ha]; exact hI) (fun a ha o g => (iter_free h3 a ha o g).1) k
    have st : Step false z [I] [] T s { s with heap := h', toks := s.toks } := ⟨[I], x, fun b hb => ⟨by rw [List.mem_singleton.mp hb]; exact h1, .inl hb, fun o g => .inl (iter_free h3 b hb o g).2⟩⟩
    refine ⟨fun s' y => ?_, ⟨h1, h2, hit', h4.at fun o g => k ax o (by simp [hne]) g⟩, st⟩
    obtain ⟨v', hv', hval'⟩ := told.get hT (ext_T (st.ext e) y fun i hi => .inl hi) hd
    rw [hv] at hv'; cases hv'; exact hval'
theorem iter_tagsT {elts : List Expr} {k : Nat} {pos : Pos} {e : Expr} {ds : List D} (hh : A.handled = none) (h : Ev w A env σ e (.tags ds)) : Iter w A env σ (.Tuple elts k pos) e ds := fun s H => by
  refine wpAny_noE (h s H) fun v s₁ q => ?_
  obtain ⟨e1, a, vs, n, dx, m, rfl, g, gd, hv⟩ := q
  refine pyIter_tags (H.base.ext e1) g gd ?_
  have B1 := H.base.ext e1
  have e2 : Ext [] s₁ { s₁ with heap := s₁.heap.push { cls := .type "list_iterator", data := .fields #[.ref a, .int 0 0] } } := Ext.push (t := s₁.toks)
  have hI : nTop ≤ s₁.heap.objs.size := B1.big
  have hne : a ≠ s₁.heap.objs.size := Nat.ne_of_lt (Heap.lt_size g)
  refine ⟨_, [s₁.heap.objs.size], _, _, rfl, src_listT hh hI hne (B1.notab g (by simp)) it_objs ⟨B1.ext e2, e2.vals0 B1 hv, fun b hb o g' => (iter_free it_objs b hb o g').2⟩, e1.trans e2, fun b hb => ?_, fun T s' hT e3 => ?_⟩
  · rw [List.mem_singleton.mp hb]
    refine ⟨H.base.fresh e1 (gone (Nat.le_refl _)), hI, fun o g' => ?_⟩
    obtain ⟨o', g'', c, d⟩ := it_objs (s₁ := s₁) (ax := a)
    rw [g''] at g'; cases g'
    exact ⟨by unfold infra; rw [d], fun v q => (by rw [d] at q; cases q), fun es ep q => (by rw [d] at q; cases q)⟩
  · have h2 := it_objs (s₁ := s₁) (ax := a)
    have k : ∀ b o, (s₁.heap.push { cls := .type "list_iterator", data := .fields #[.ref a, .int 0 0] }).get? b = some o → o.cls ≠ .none → s'.heap.get? b = some o := fun b o g' hc => e3.at0 (B1.ext e2) g' hc
    refine ⟨fun m => ?_, fun m => ?_, h2.at fun o g' => k _ o g' ?_, SeqAt.at ⟨_, _, Heap.get?_push_of_some _ g, rfl⟩ fun o g' => k _ o g' ?_⟩
    · obtain ⟨o', g'', _, d⟩ := h2
      rcases hT _ m _ g'' with ⟨es, ep, q⟩ | ⟨v, q⟩ <;> rw [d] at q <;> cases q
    · rcases hT _ m _ (Heap.get?_push_of_some _ g) with ⟨es, ep, q⟩ | ⟨v, q⟩ <;> cases q
    · obtain ⟨o', g'', c, d⟩ := h2
      rw [g''] at g'; cases g'; rw [c]; simp
    · rw [Heap.get?_push_of_some _ g] at g'; cases g'; simp
def isHH (c : Int) : Bool := [c == 5, c == 105].any id
def bindT (x y : Str) : D → List (Str × D)
  | .tag c v => [(y, .str v), (x, .int c)]
  | _ => []
theorem tst_hh {e1 e2 : Expr} {k1 k2 : Nat} {p1 p2 p3 p4 p5 : Pos} {c : Int} (h1 : Ev w A env σ e1 (.int c)) (h2 : Ev w A env σ e2 (.int c)) :
    Tst w A env σ (.BoolOp .Or [.Compare e1 [.Eq] [.Constant (.int 5) k1 p1] p2, .Compare e2 [.Eq] [.Constant (.int 105) k2 p3] p4] p5) (isHH c) :=
  tst_or ⟨_, _, rfl, tst_cmp h1 ev_int cmp_eq_int, fun _ => ⟨_, _, rfl, tst_cmp h2 ev_int cmp_eq_int, fun _ => rfl⟩⟩
/-- x, y = tag, as a statement -/
theorem stm_pair {x y : Str} {p1 p2 tp pos : Pos} {k kk : Nat} {r : Row} {e : Expr} {s : Shared} (rm : Room (k + 4) A) (kx : env.kindOf x = some .local) (ky : env.kindOf y = some .local) (hf : env.func.isSome = true) (h : Ev w A env σ e (tagD r)) (H : Holds w env σ s)
    (hs : swapsWithSole [.Tuple [.Name x p1, .Name y p2] kk tp] e pos.line env = pure false := by rfl) (hw : swappedStores [.Tuple [.Name x p1, .Name y p2] kk tp] e env = pure none := by rfl) :
    wpAny (md w) A (exec (.Assign [.Tuple [.Name x p1, .Name y p2] kk tp] e pos) env) (fun f s' => f = .next ∧ Holds w env ((y, .str r.2) :: (x, .int r.1) :: σ) s' ∧ Ext [env.locals] s s') noE s := by
  refine wpAny_Assign_stores (wpAny_noE (h s H) fun v s1 q => ?_) hs hw
  show wpAny (md w) A (assign (.Tuple [.Name x p1, .Name y p2] kk tp) env v) _ _ s1
  exact wpAny_noE (asg_tag rm kx ky hf q.2 (H.ext q.1)) fun _ s2 z => ⟨rfl, z.1, (q.1.wk0 z.2.own).trans z.2⟩
/-- try: st .., nothing raised -/
theorem try_pass {st : Stmt} {h₀ : ExceptHandler} {hs : List ExceptHandler} {pos : Pos} {rest : List Stmt} {R : Shared → Prop} {Q : Flow → Shared → Prop} {E : Value → Shared → Prop} {s : Shared} (h : wpAny (md w) A (exec st env) (fun f s' => f = .next ∧ R s') noE s) (k : ∀ s', R s' → wpAny (md w) A (execs rest env) Q E s') :
    wpAny (md w) A (execs (.Try [st] (h₀ :: hs) [] [] pos :: rest) env) Q E s := by
  refine wpAny_execs_cons (wpAny_Try_except (wpAny_execs_cons (wpAny_noE h fun f s1 q => ?_)))
  obtain ⟨rfl, q⟩ := q
  exact wpAny_execs_nil (wpAny_execs_nil (k s1 q))
theorem fn_handle1 {k : Nat} {rs : List Row} {r1 : Row} (hz : rs.length ≤ 100) (h1 : rs[1]? = some r1) (hy : isHH r1.1 = true) : Fn w (k + 5) 223 [tagsD rs] (.str r1.2) := by
  refine fn_pureB (ds' := [tagsD rs]) (fun P => by k_is) (by kernel_rfl) (by exact binds0 (one_arg fun v => rfl)) (by rfl) (by
    intro A L r s H
    have hlt : 1 < rs.length := (List.getElem?_eq_some_iff.mp h1).1
    refine try_pass (stm_pair r rfl rfl rfl (ev_item_tags (ev_name rfl) ev_int (by omega) (getTag h1) (by simp; omega)) H) fun s1 q => ?_
    obtain ⟨H1, e1⟩ := q
    refine wpAny_execs_cons (wpAny_If (wpAny_noE (tst_run (tst_hh (ev_name rfl) (ev_name rfl)) H1) fun c s2 q2 => ?_))
    obtain ⟨rfl, x2⟩ := q2
    rw [hy]
    refine wpAny_execs_cons (wpAny_Return_some (wpAny_noE (ev_run (ev_name (d := .str r1.2) rfl) (H1.ext x2)) fun v s3 q3 => ⟨v, rfl, ?_, q3.2⟩))
    exact ((e1.trans (x2.wk0 e1.own)).trans (q3.1.wk0 e1.own)).wk (fun i hi => by rw [List.mem_singleton.mp hi]; exact List.mem_cons_self ..) H.big)
def QH {w : World} {env : Env} {σ : List (Str × D)} {s : Shared} (_ : Holds w env σ s) (d : D) : Flow → Shared → Prop := fun f s' => ∃ v, f = .ret v ∧ Ext [env.locals] s s' ∧ Val s'.heap d v
theorem fn_handle2 {k : Nat} {rs : List Row} {r1 r0 : Row} {n : Nat} (hz : rs.length ≤ 100) (h1 : rs[1]? = some r1) (hn1 : isHH r1.1 = false) (hno : ∀ i, i < n → ∀ r, rs[i]? = some r → isHH r.1 = false) (h0 : rs[n]? = some r0) (hy : isHH r0.1 = true) : Fn w (k + 5) 223 [tagsD rs] (.str r0.2) := by
  refine fn_pureB (ds' := [tagsD rs]) (fun P => by k_is) (by kernel_rfl) (by exact binds0 (one_arg fun v => rfl)) (by rfl) (by
    intro A L r s H
    have hlt : 1 < rs.length := (List.getElem?_eq_some_iff.mp h1).1
    refine try_pass (stm_pair r rfl rfl rfl (ev_item_tags (ev_name rfl) ev_int (by omega) (getTag h1) (by simp; omega)) H) fun s1 q => ?_
    obtain ⟨H1, e1⟩ := q
    refine run_if (c := false) (tst_of (tst_hh (ev_name rfl) (ev_name rfl)) hn1) H1 (fun q => by cases q) fun _ s2 x2 H2 => ?_
    have H2' := H2.less (σ' := [("self", tagsD rs)]) (fun y d q => by
      rw [List.lookup_cons] at q
      split at q
      · rename_i z; rw [beq_iff_eq.mp z]; cases q; rfl
      · cases q)
    refine wpAny_execs_cons (wpAny_noE (for_hit (bind := bindT "code" "handle") (x0 := "self") (n := n) (Q := QH H2' (.str r0.2)) (getTag h0) (iter_tagsT r.handled (ev_name rfl)) rfl rfl (fun s v d hd hv H => ?_) (fun i d s hi hd H => ?_) s2 H2' (fun s3 e3 H3 => ?_)) fun f s4 q => ?_)
    · obtain ⟨r', _, rfl⟩ := List.mem_map.mp hd
      exact asg_tag r rfl rfl rfl hv H
    · rw [List.getElem?_map] at hd
      cases q : rs[i]? with
      | none => rw [q] at hd; cases hd
      | some r' =>
        rw [q] at hd; cases hd
        refine run_if (c := false) (tst_of (tst_hh (ev_name rfl) (ev_name rfl)) (hno i hi r' q)) H (fun q => by cases q) fun _ s2 e2 H2 => ?_
        exact wpAny_execs_nil ⟨e2.wk0 (fun i hi => H.big i (by rw [List.mem_singleton.mp hi]; exact List.mem_cons_self ..)), rfl, H2.less (less2 rfl rfl)⟩
    · refine wpAny_execs_cons (wpAny_If (wpAny_noE (tst_run (tst_of (tst_hh (ev_name rfl) (ev_name rfl)) hy) H3) fun c s4 q4 => ?_))
      obtain ⟨rfl, x4⟩ := q4
      refine wpAny_execs_cons (wpAny_Return_some (wpAny_noE (ev_run (ev_name (d := .str r0.2) rfl) (H3.ext x4)) fun v s5 q5 => ⟨v, rfl, v, rfl, ?_, q5.2⟩))
      exact (e3.trans (x4.wk0 e3.own)).trans (q5.1.wk0 e3.own)
    · obtain ⟨v, rfl, x4, hv⟩ := q
      refine ⟨v, rfl, ?_, hv⟩
      exact ((e1.trans (x2.wk0 e1.own)).trans x4).wk (fun i hi => by rw [List.mem_singleton.mp hi]; exact List.mem_cons_self ..) H.big)
end
end Mine
end
section
open PySem PySem.W PyProof.Rows PySem.Builtin
set_option Elab.async false
set_option maxRecDepth 100000
namespace Mine

section
variable {w : World} {A : Around} {env : Env} {σ : List (Str × D)} {l : List Env} {s s₀ s₁ : Shared} {E : Value → Shared → Prop} {a dx : Addr} {vs : List Value} {n m : Nat}

theorem tags_out {Q : Value → Shared → Prop} {i : Int} {t : PySem.Tok} (hh : A.handled = none) (B : Base w s) (g : s.heap.get? a = some (tagsO vs n dx)) (h0 : 0 ≤ i) (hi : vs.length ≤ i.toNat) (hz : i < 2 ^ 63)
    (hE : ∀ h' tk e, Heap.NewExc s.heap h' e "IndexError" → E (.ref e) { s with heap := h', toks := tk }) : wpAny (md w) A (call (.builtin "list.__getitem__") [.ref a, .int i t]) Q E s := by
  refine call_meth (nm := "__getitem__") B g slot_list_getitem.plain entry_list_getitem (by decide +kernel) (by decide +kernel) (args_list_getitem _ _) ?_
  show wpAny _ _ (Builtin.List.listSubscript? (.int i t) >>= _) _ _ s
  refine wpAny_bind (wpAny_listSubscript_int (fitsIndex_of h0 hz) ?_)
  clear hz
  obtain ⟨j, rfl⟩ := Int.eq_ofNat_of_zero_le h0
  have hx' : vs.toArray[j]? = none := by simpa using hi
  show wpAny _ _ ((seqItemAt a j >>= fun r => pure (r.map (j, ·))) >>= _) _ _ s
  refine wpAny_bind (wpAny_bind (wpAny_seqItemAt g rfl (wpAny_pure ?_)))
  rw [hx']
  have hh' : A.in1.handled = none := hh
  first
    | exact wpAny_bind (wpAny_rule (by exact_raiseError plainExc_IndexError hh hE))
    | exact wpAny_bind (wpAny_rule (wpAny_bind (by exact_raiseError plainExc_IndexError hh hE)))
    | exact wpAny_bind (wpAny_bind (wpAny_rule (by exact_raiseError plainExc_IndexError hh hE)))
    | exact wpAny_rule (by exact_raiseError plainExc_IndexError hh hE)

theorem ev_out {value : Expr} {pos p1 : Pos} {k : Nat} {ds : List D} {i : Nat} (hh : A.handled = none) (hv : Ev w A env σ value (.tags ds)) (hi : ds.length ≤ i) (hz : i < 1000) (H : Holds w env σ s) {Q : Value → Shared → Prop} :
    wpAny (md w) A (eval (.Subscript value (.Constant (.int i) k p1) pos) env) Q (fun e s' => ∃ s1 h' tk ea, Ext [] s s1 ∧ Heap.NewExc s1.heap h' ea "IndexError" ∧ e = .ref ea ∧ s' = { s1 with heap := h', toks := tk }) s := by
  refine Subscript_ (wpAny_noE (hv s H) fun u s₁ q1 => wpAny_noE ((ev_int : Ev w A env σ (.Constant (.int i) k p1) (.int i)) s₁ (H.ext q1.1)) fun v s₂ q2 => ?_)
  have B1 := H.base.ext q1.1
  have B2 := B1.ext q2.1
  obtain ⟨a, vs, n, dx, m, rfl, g, gd, hvs⟩ := q2.1.val0 B1 q1.2
  obtain ⟨t, rfl⟩ := q2.2
  have hl := hvs.length
  exact tail_any (wpAny_noE (inPy_tags B2 g gd) fun _ _ q => q) (getItem_tags B2 g gd (tags_out hh B2 g (by omega) (by omega) (by omega) fun h' tk e hx => ⟨s₂, h', tk, e, q1.1.trans q2.1, hx, rfl, rfl⟩)) rfl

theorem noted_upto {h : Heap} {tk : Nat} {e tb : Addr} {cls a0 c2 fl : Value} (K : Stk A l s) (n : Noted (frs l) s.heap h e tb cls a0 c2 fl) : Upto l s { s with heap := h, toks := tk } :=
  ⟨Ext.sets (fun a ha => (K.mem ha).1) (fun a ha o g => by
    obtain ⟨_, o', g', ⟨es, ep, d⟩, _⟩ := K.mem ha
    rw [g] at g'; cases g'; unfold free; rw [d]) fun b o hb g => n.keep b o g hb, n.slots⟩

theorem raised_of {A' : Around} {s9 : Shared} {h : Heap} {ea tb : Addr} {a0 c2 : Value} (K : Stk A l s) (e0 : Ext [] s s₀) (hnew : ∀ i ∈ own env, s.heap.get? i = none) (hf : env.frame = some env.locals) (hbig : ∀ i ∈ own env, nTop ≤ i) (up : Upto (env :: l) s₀ s9) (K9 : Stk A' (env :: l) s9)
    (n : Noted (frs (env :: l)) s9.heap h ea tb (.ref cErr) a0 c2 .none) : Raised l s { s9 with heap := h } (.ref ea) := by
  have upl : Upto l s s9 := upto_drop K e0 hnew hf ((Ext.refl s₀).wk0 hbig) up
  have fe : frs (env :: l) = env.locals :: frs l := by simp [frs, hf]
  have hfree : ∀ a ∈ frs (env :: l), ∀ o, s9.heap.get? a = some o → free o = true := fun a ha o g => by
    obtain ⟨_, o', g', ⟨es, ep, d⟩, _⟩ := K9.mem ha
    rw [g] at g'; cases g'; unfold free; rw [d]
  have tb' := tabs_hide (fun a ha => (K9.mem ha).1) hfree
  have hnone : ∀ {b : Addr}, s9.heap.get? b = none → (hideAll s9.heap (frs (env :: l))).get? b = none := fun {b} q => by
    cases z : (hideAll s9.heap (frs (env :: l))).get? b with
    | none => rfl
    | some o => have := of_hideAll _ z; rw [q] at this; cases this
  have fl := K9.funFrames (as := frs (env :: l)) fun a ha => ha
  obtain ⟨oe, vs, he, hc, hd, v0, v1, v2⟩ := n.exc
  obtain ⟨oT, ts, hT, hdT, t3⟩ := n.trace
  have kp : ∀ b o, s9.heap.get? b = some o → (∀ vs, o.data ≠ .fields vs) → ∃ o', h.get? b = some o' ∧ o'.data = o.data := fun b o g _ => by
    by_cases hb : b ∈ frs (env :: l)
    · obtain ⟨sl, g1⟩ := n.slots b hb o g; exact ⟨_, g1, rfl⟩
    · exact ⟨o, n.keep b o g hb, rfl⟩
  refine ⟨⟨ea, a0, hideAll s9.heap (frs (env :: l)), rfl, ⟨fun b o q => n.keep b o (of_hideAll _ q) fun m => ?_, hnone n.newE, (fl.of_keeps kp).2.2, oe, vs, tb, oT, ts, he, ⟨hc, v0⟩, hd, v1, hnone n.newT, n.ne, hT, hdT, t3⟩, ⟨fun b o g n1 n2 n3 => ?_, fun ps t => ?_, fun ps t => ?_⟩⟩, fun b hb o g => ?_, fun b hb => (K.mem hb).1, fun i x q => upl.ext.gens i x q (by simp), upl.ext.bare, upl.ext.os⟩
  · rw [hideAll_none _ m] at q; cases q
  · refine hideAll_get _ (upl.ext.keep b o g n1 n2 n3) fun m => ?_
    rw [fe] at m
    rcases List.mem_cons.mp m with q | q
    · rw [q, hnew _ (List.mem_cons_self ..)] at g; cases g
    · exact n1 q
  · obtain ⟨m, t'⟩ := upl.ext.tH ps t; exact ⟨m, tb'.1 _ t'⟩
  · obtain ⟨m, t'⟩ := upl.ext.tL ps t; exact ⟨m, tb'.2 _ t'⟩
  · obtain ⟨sl, g1⟩ := upl.slots b hb o g
    obtain ⟨sl2, g2⟩ := n.slots b (by rw [fe]; exact List.mem_cons_of_mem _ hb) _ g1
    exact ⟨sl2, g2⟩
theorem fnx_handle2 {k : Nat} {rs : List Row} {r1 : Row} (hz : rs.length ≤ 100) (h1 : rs[1]? = some r1) (hno : ∀ r ∈ rs, isHH r.1 = false) : FnX w (k + 5) 223 [tagsD rs] := by
  refine fn_raise (ds' := [tagsD rs]) (fun P => by k_is) (by kernel_rfl) (by exact binds0 (one_arg fun v => rfl)) (by rfl) (by
    intro A L l s r K H
    have hlt : 1 < rs.length := (List.getElem?_eq_some_iff.mp h1).1
    refine try_pass (stm_pair r rfl rfl rfl (ev_item_tags (ev_name rfl) ev_int (by omega) (getTag h1) (by simp; omega)) H) fun s1 q => ?_
    obtain ⟨H1, e1⟩ := q
    refine run_if (c := false) (tst_of (tst_hh (ev_name rfl) (ev_name rfl)) (hno _ (List.mem_of_getElem? h1))) H1 (fun q => by cases q) fun _ s2 x2 H2 => ?_
    have H2' := H2.less (σ' := [("self", tagsD rs)]) (fun y d q => by
      rw [List.lookup_cons] at q
      split at q
      · rename_i z; rw [beq_iff_eq.mp z]; cases q; rfl
      · cases q)
    refine run_for (bind := bindT "code" "handle") (x0 := "self") (P := fun _ => none) (iter_tagsT r.handled (ev_name rfl)) rfl rfl (fun s v d hd hv H => ?_) (fun s d hd H => ?_) (List.findSome?_eq_none_iff.mpr fun _ _ => rfl) s2 H2' (fun s3 e3 H3 => ?_)
    · obtain ⟨r', _, rfl⟩ := List.mem_map.mp hd
      exact asg_tag r rfl rfl rfl hv H
    · obtain ⟨r', hr', rfl⟩ := List.mem_map.mp hd
      refine run_if (c := false) (tst_of (tst_hh (ev_name rfl) (ev_name rfl)) (hno r' hr')) H (fun q => by cases q) fun _ s2 e2 H2 => ?_
      exact wpAny_execs_nil ⟨e2.wk0 (fun i hi => H.big i (by rw [List.mem_singleton.mp hi]; exact List.mem_cons_self ..)), rfl, H2.less (less2 rfl rfl)⟩
    · refine wpAny_mono (body_raise r.handled rfl ev_str H3) (fun _ _ q => q) fun x s5 q => Errs.after ?_ q
      exact ((e1.trans (x2.wk0 e1.own)).wk (fun i hi => by rw [List.mem_singleton.mp hi]; exact List.mem_cons_self ..) H.big).trans e3)
end
end Mine
end
section
open PySem PySem.W PyProof.Rows PySem.Builtin
set_option Elab.async false
set_option maxRecDepth 100000
namespace Mine
theorem k_g_ie (P : Params) : nsIn (KB P) mainGlobals "IndexError" = some none ∧ nsIn (KB P) builtinsNs "IndexError" = some (some (.type "IndexError")) := ⟨by kernel_rfl, by kernel_rfl⟩
theorem sub_ie1 : isSubtype (.type "IndexError") (.type "BaseException") = pure true := isSubtype_of_subB (by decide +kernel)
theorem sub_ie2 : isSubtype (.type ((Manifest.find? "IndexError").elim "type" fun x => x.metatype)) (.type "tuple") = pure false := isSubtype_of_subB (by decide +kernel)
theorem sub_ie3 : isSubtype (.type "IndexError") (.type "IndexError") = pure true := isSubtype_of_subB (by decide +kernel)

section
variable {w : World} {A : Around} {env : Env} {σ : List (Str × D)} {l : List Env} {s s₀ s₁ : Shared} {E : Value → Shared → Prop}
theorem fnx_handle0 {k : Nat} {rs : List Row} (hz : rs.length < 2) : FnX w (k + 5) 223 [tagsD rs] := by
  intro A s vs l r B K hv
  obtain ⟨v, _, rfl, hv1, hnil⟩ := hv
  rw [show _ = [] from hnil]
  refine fn_enter (k := k + 4) (ds := [tagsD rs]) (binds := [("self", v)]) B r (by k_is) (by kernel_rfl) (BindsTo.of_eq (by rfl)) ⟨v, [], rfl, hv1, rfl⟩ (fun L s₀ e hnew H r' => ?_) (hnd := by show (["self"] : List Str).Nodup; decide)
  have K0 : Stk A l s₀ := K.ext e (by simp)
  have K1 := K0.push H rfl rfl
  refine wpAny_execs_cons (wpAny_Try_except (wpAny_execs_cons (wpAny_Assign_stores (wpAny_mono (ev_out (i := 1) (Q := fun _ _ => False) r'.handled (ev_name rfl) (by simp; omega) (by omega) H) (fun _ _ q => q.elim) fun x s' q => ?_) rfl rfl)))
  obtain ⟨s1, h', tk, ea, e1, hx, rfl, rfl⟩ := q
  have H1 := H.ext e1
  have K2 := K1.ext e1 (by simp)
  obtain ⟨ob, t, hget, hcls, hd⟩ := hx.there
  refine note_new (h0 := s1.heap) (F := frs (envF _ _ L 223 _ :: l)) rfl K2.eq ((K2.funFrames fun a ha => ha).of_keeps fun b o g _ => ⟨o, hx.keeps b o g, rfl⟩) rfl hx.keeps hx.new hget hcls hd rfl rfl rfl fun h4 tb n4 => ?_
  refine set_flight (f := none) n4 fun h5 n5 => ?_
  have up5 : Upto _ s1 { s1 with heap := h5, toks := tk } := noted_upto K2 n5
  have H5 := H1.upto K2 up5 rfl
  refine wpAny_handleBy_cons (codeAny_handlers_test ?_) (by intro q; cases q)
  refine wpAny_noE ((gl_builtin rfl (k_g_ie _).1 (k_g_ie _).2 : Gl w _ _ _ (.Name "IndexError" _) (.type "IndexError")) _ H5) fun c s6 q => ?_
  obtain ⟨rfl, rfl⟩ := q
  obtain ⟨oe5, vs5, he5, hc5, hd5, v05, v15, v25⟩ := n5.exc
  refine wpAny_excMatches_type (X := "IndexError") (T := "IndexError") (b := true) ⟨oe5, he5, hc5⟩ sub_ie1 sub_ie2 sub_ie3 ?_
  refine codeAny_handlers_suite ?_
  refine set_flight (f := none) n5 fun h7 n7 => ?_
  have up7 : Upto _ s1 { s1 with heap := h7, toks := tk } := noted_upto K2 n7
  have H7 := H1.upto K2 up7 rfl
  obtain ⟨oe7, vs7, he7, hc7, hd7, v07, v17, v27⟩ := n7.exc
  refine wpAny_execs_cons (wpAny_mono (raise_in (Q := fun _ _ => False) rfl rfl ev_str H7 ⟨oe7, vs7, he7, by rw [hc7]; simp, hd7, v27⟩) (fun _ _ q => q.elim) fun x s8 q => ?_)
  obtain ⟨s9, h', ea2, t2, e9, rfl, rfl, hk9, hn9, ht9⟩ := q
  have up9 : Upto _ s1 s9 := up7.trans (Upto.of_ext (K2.upto up7) e9)
  have K9 := K2.upto up9
  refine note_new (h0 := s9.heap) (F := frs (envF _ _ L 223 _ :: l)) rfl K9.eq ((K9.funFrames fun a ha => ha).of_keeps fun b o g _ => ⟨o, hk9 b o g, rfl⟩) rfl hk9 hn9 ht9 rfl rfl rfl rfl rfl fun h10 tb2 n10 => ?_
  refine came_back rfl n10 fun h11 n11 => ?_
  unfold leaving
  refine wpAny_bind (note_again rfl n11 ?_)
  refine set_flight (f := none) n11 fun h12 n12 => ?_
  exact ⟨_, rfl, raised_of (s9 := s9) K e hnew rfl H.big ((Upto.of_ext K1 e1).trans up9) K9 n12⟩
end
end Mine
end
section
open PySem PySem.W PyProof.Rows PySem.Builtin
set_option Elab.async false
set_option maxRecDepth 100000
namespace Mine

theorem codeAmong_more {pos : Pos} {a b : Int} {c : Value} : ∀ (l : List Value), TriplesOk l → ∀ cv, codeAmong pos (l ++ [rawInt a, rawInt b, c]) = some cv → codeAmong pos l = some cv ∨ cv = c
  | [], _, cv, h => by
    right
    simp only [List.nil_append, rawInt, codeAmong] at h
    split at h
    · exact (Option.some.inj h).symm
    · cases h
  | .int _ _ :: .int _ _ :: x :: rest, ht, cv, h => by
    simp only [List.cons_append, codeAmong] at h ⊢
    split at h
    · rename_i q; left; rw [if_pos q]; exact h
    · rename_i q
      rw [if_neg q]
      exact codeAmong_more rest ht cv h
theorem TabI.inj {h : Heap} {c P : Addr} {q : Str} {ps ps' : Array Value} (t : TabI h c P q ps) (t' : TabI h c P q ps') : ps' = ps := by
  have h1 := t.tab
  rw [t'.tab] at h1
  have h2 := Option.some.inj h1
  simp only [X.tableObj, Obj.mk.injEq, Data.fields.injEq, true_and, and_true] at h2
  exact h2
theorem TabI.extBut {h h' : Heap} {c P a : Addr} {q : Str} {ps qs : Array Value} (t : TabI h c P q ps) (hx : Heap.ExtBut a h h') (hc : c ≠ a) (hP : P ≠ a) (ha : h.get? a = some (X.tableObj qs)) : TabI h' c P q ps := by
  refine ⟨t.code.extBut hx hc hP, hx _ _ hP t.tab, fun pos cv e => ?_⟩
  obtain ⟨c', o, e1, e2, e3, r⟩ := t.codes pos cv e
  refine ⟨c', o, e1, hx _ _ (fun z => ?_) e2, e3, r⟩
  rw [z, ha] at e2; cases e2; cases e3
theorem TabI.grown {h h' : Heap} {c P c' P' : Addr} {q : Str} {ps : Array Value} {a b : Int} (t : TabI h c P q ps) (hx : Heap.ExtBut P h h') (hcode : h'.IsCode c P (ps ++ #[rawInt a, rawInt b, .ref c'])) (hrec : h'.CodeRec (.ref c') q)
    (htab : h'.TableAt c P (ps ++ #[rawInt a, rawInt b, .ref c'])) (hcls : h'.TableAt c' P' #[]) : TabI h' c P q (ps ++ #[rawInt a, rawInt b, .ref c']) := by
  refine ⟨hcode, htab.2, fun pos cv e => ?_⟩
  have htr : TriplesOk ps.toList := by
    obtain ⟨o, vs, file, tf, flags, tg, inF, text, tt, op, ho, hd, h11, h2, h7, h9, h10, hop, hpd, htr, hne⟩ := t.code
    exact htr
  have e' : codeAmong pos (ps.toList ++ [rawInt a, rawInt b, .ref c']) = some cv := by simpa using e
  rcases codeAmong_more _ htr cv e' with z | z
  · obtain ⟨c₁, o, e1, e2, e3, r⟩ := t.codes pos cv z
    refine ⟨c₁, o, e1, hx _ _ (fun z => ?_) e2, e3, r⟩
    rw [z, t.tab] at e2; cases e2; cases e3
  · obtain ⟨c₂, o, vs, tk, f1, f2, f3, f4⟩ := hrec
    cases f1
    obtain ⟨⟨oc, vc, hoc, hcc, _⟩, _⟩ := hcls
    rw [f2] at hoc; cases hoc
    exact ⟨c', o, z, f2, hcc, vs, tk, f3, f4⟩

theorem k_243 (P : Params) : ∃ o vs, (hd.heap_39 P).lookup 243 = some o ∧ o.cls = .type "code" ∧ o.data = .fields vs ∧ vs[11]? = some (.ref PH) := ⟨_, _, by k_is, rfl, rfl, rfl⟩
theorem k_387 (P : Params) : ∃ o vs, (hd.heap_39 P).lookup 387 = some o ∧ o.cls = .type "code" ∧ o.data = .fields vs ∧ vs[11]? = some (.ref PL) := ⟨_, _, by k_is, rfl, rfl, rfl⟩
section
variable {w : World} {A : Around} {E : Value → Shared → Prop} {s : Shared}
theorem Base.tabH (B : Base w s) {ps : Array Value} (t : TabI s.heap 243 PH qH ps) : s.heap.TableAt 243 PH ps := by
  obtain ⟨o, vs, h1, h2, h3, h4⟩ := k_243 w.params
  exact ⟨⟨o, vs, B.top _ _ h1 (by decide) (by decide), h2, h3, h4⟩, t.tab⟩
theorem Base.tabL (B : Base w s) {ps : Array Value} (t : TabI s.heap 387 PL qL ps) : s.heap.TableAt 387 PL ps := by
  obtain ⟨o, vs, h1, h2, h3, h4⟩ := k_387 w.params
  exact ⟨⟨o, vs, B.top _ _ h1 (by decide) (by decide), h2, h3, h4⟩, t.tab⟩
theorem Ext.tabH {h' : Heap} {tk : Nat} {ps more : Array Value} (t : TabI s.heap 243 PH qH ps) (hx : Heap.ExtBut PH s.heap h') (t' : TabI h' 243 PH qH (ps ++ more)) : Ext [] s { s with heap := h', toks := tk } :=
  ⟨(fun _ h => by cases h), fun b o e _ n _ => hx b o n e, fun ps' x => ⟨more, by rw [t.inj x]; exact t'⟩, fun ps' x => ⟨#[], by simpa using x.extBut hx (by decide) (by decide) t.tab⟩, fun _ _ e _ => e, fun x => x, rfl⟩
theorem Ext.tabL {h' : Heap} {tk : Nat} {ps more : Array Value} (t : TabI s.heap 387 PL qL ps) (hx : Heap.ExtBut PL s.heap h') (t' : TabI h' 387 PL qL (ps ++ more)) : Ext [] s { s with heap := h', toks := tk } :=
  ⟨(fun _ h => by cases h), fun b o e _ _ n => hx b o n e, fun ps' x => ⟨#[], by simpa using x.extBut hx (by decide) (by decide) t.tab⟩, fun ps' x => ⟨more, by rw [t.inj x]; exact t'⟩, fun _ _ e _ => e, fun x => x, rfl⟩
theorem gen_code {env : Env} {pos : Pos} {scope : Scope} (hc : env.code = .ref 243) (B : Base w s) : wpAny (md w) A (genexprCode env pos qH scope) (fun _ s' => Ext [] s s') noE s := by
  obtain ⟨ps, t⟩ := B.tH
  cases hf : codeAmong pos ps.toList with
  | some cv => exact wpAny_genexprCode_hit hc t.code hf (Ext.refl s)
  | none =>
    refine wpAny_genexprCodeX hc t.code (B.tabH t) hf fun c' h' tk hx hsz hlt hcode hrec htab hnew => ?_
    obtain ⟨P', _, _, hcls⟩ := hnew
    exact Ext.tabH t hx (t.grown hx hcode hrec htab hcls)
theorem k_bi (P : Params) : nsIn (KB P) mainGlobals "__builtins__" = some (some (.ref 4)) := by kernel_rfl
theorem k_name (P : Params) : ∃ v, nsIn (KB P) mainGlobals "__name__" = some (some v) := by
  have h : ((nsIn (KB P) mainGlobals "__name__").bind id).isSome = true := by kernel_rfl
  cases q : nsIn (KB P) mainGlobals "__name__" with
  | none => rw [q] at h; cases h
  | some x => cases x with
    | none => rw [q] at h; cases h
    | some v => exact ⟨v, rfl⟩
theorem k_bm (P : Params) : ∃ o, (hd.heap_39 P).lookup 4 = some o ∧ o.cls = .type "module" ∧ o.dict = some builtinsNs ∧ o.data = .plain := ⟨_, by k_is, rfl, rfl, rfl⟩
theorem bi_for {running : Addr} {Q : Addr → Shared → Prop} (B : Base w s) (h : Q builtinsNs s) : wpAny (md w) A (builtinsFor mainGlobals running) Q E s := by
  obtain ⟨o, h1, h2, h3, h4⟩ := k_bm w.params
  unfold builtinsFor
  refine wpAny_bind ((looks_nsIn B.KB (k_bi _)).here ?_)
  dsimp only
  rw [if_neg (by decide)]
  refine wpAny_bind (wpAny_load (B.top _ _ h1 (by decide) (by decide)) ?_)
  rw [h4, h3]
  simp only [h2]
  exact wpAny_pure h
end
end Mine
end
section
open PySem PySem.W PyProof.Rows PySem.Builtin
set_option Elab.async false
set_option maxRecDepth 100000
namespace Mine

section
variable {w : World} {A : Around} {env : Env} {σ : List (Str × D)} {s : Shared} {E : Value → Shared → Prop}

/-- f(e), whatever e comes to -/
theorem callName1 {x : Str} {px pos : Pos} {f : Value} {e : Expr} {R : Value → Shared → Prop} {Q : Value → Shared → Prop} (hg : Gl w A env σ (.Name x px) f) (hk : Callee w f) (H : Holds w env σ s) (he : wpAny (md w) A (eval e env) R noE s)
    (hc : ∀ v s', R v s' → Base w s' ∧ wpAny (md w) A (call f [v]) Q E s') (hst : noStar [e] = true := by rfl) : wpAny (md w) A (eval (.Call (.Name x px) [e] [] pos) env) Q E s := by
  rw [eval_Call_Name]
  refine wpAny_bind (wpAny_noE (hg s H) fun u s' q => ?_)
  obtain ⟨rfl, rfl⟩ := q
  have e1 : backTo pos (starEach [e] env) = (false, eval e env) :: backTo pos (starEach [] env) := by
    unfold noStar at hst
    rw [List.all_cons, Bool.and_eq_true] at hst
    cases e <;> first | rfl | (simp at hst; done)
  refine callWith_of (P := (KB w.params).In) (by rw [star_false hst]; rfl) hk ?_
  have key : wpAny (md w) A (spliced (backTo pos (starEach [e] env))) (fun vs s' => (KB w.params).In s'.heap ∧ wpAny (md w) A (call u vs) Q E s') E s' := by
    refine wpAny_items_cons (wpAny_noE he fun v s₁ q => wpAny_items_nil ?_) ?_
    · obtain ⟨B, q⟩ := hc v s₁ q
      exact ⟨B.KB, q⟩
    · cases e <;> first | rfl | (simp [noStar] at hst)
  rw [e1] at key ⊢
  exact Calls.evalArgs_plain key

/-- any() of a generator that hands out bools -/
theorem any_gen {I : Addr} {g : Nat} {z : Shared} {S : List Addr} {bs : List Bool} {Fin : Shared → Prop} (hh : A.handled = none) (hroom : A.in1.depth < recursionLimit) (hI : nTop ≤ I) (hIS : I ∉ S) (hz : z.heap.IsGen I g) :
    ∀ (k i : Nat) (s : Shared), bs.length - i = k → i ≤ bs.length → GenSt false w A.in1 .next I g z S bs.length (fun j v => ∃ b, bs[j]? = some b ∧ v = .bool b) Fin [] i s → Base w s → ExtG (S ++ []) [g] z s →
    codeAny (md w) A (.builtin "any.loop" ⟨[.ref I], []⟩) (fun r s' => r = .ok (.ret (.bool ((bs.drop i).any id))) ∧ ExtG (S ++ []) [g] z s') s := by
  have hT : TokZ z [] := fun t h => by cases h
  have hTx : ∀ (s : Shared), ∀ t ∈ ([] : List Addr), ∃ o, s.heap.get? t = some o := fun _ t h => by cases h
  intro k
  induction k with
  | zero =>
    intro i s hk hi st B e
    have hin : i = bs.length := by omega
    subst hin
    refine codeAny_builtin F.entry_any_loop ?_
    rw [Around.under_plainId F.plain_any_loop _]
    show wpAny _ A.in1 (pyNext (.ref I) >>= _) _ _ s
    refine wpAny_bind (wpAny_noE (gen_done (.inl rfl) hh hroom hT (hTx s) st B e) fun r s' q => ?_)
    obtain ⟨rfl, y, _⟩ := q
    refine wpAny_bind (wpAny_rule (wpAny_pure ⟨?_, Step.ext e y⟩))
    simp
  | succ k ih =>
    intro i s hk hi st B e
    have hlt : i < bs.length := by omega
    have hd : bs.drop i = bs[i] :: bs.drop (i + 1) := List.drop_eq_getElem_cons hlt
    refine codeAny_builtin F.entry_any_loop ?_
    rw [Around.under_plainId F.plain_any_loop _]
    show wpAny _ A.in1 (pyNext (.ref I) >>= _) _ _ s
    refine wpAny_bind (wpAny_noE (gen_item (.inl rfl) hh hroom hI hIS hz hlt hT (hTx s) st B e) fun r s' q => ?_)
    obtain ⟨v, rfl, ⟨b, hb, rfl⟩, st', y⟩ := q
    have hbi : bs[i] = b := by rw [List.getElem?_eq_getElem hlt] at hb; exact Option.some.inj hb
    have e' := Step.ext e y
    have B' : Base w s' := by obtain ⟨W, y, _⟩ := y; exact B.ext y
    refine wpAny_bind (wpAny_holding (wpAny_truthy_bool ?_))
    refine wpAny_bind (wpAny_letGo ?_)
    rw [hd, hbi]
    cases b with
    | false =>
      simp only [Bool.false_eq_true, if_false]
      exact wpAny_pure ⟨plainId_quiet F.plain_any_loop _, ih (i + 1) _ (by omega) hlt st' B' e'⟩
    | true =>
      simp only [if_true]
      exact wpAny_bind (wpAny_rule (wpAny_pure ⟨rfl, e'⟩))
end
end Mine
end
section
open PySem PySem.W PyProof.Rows PySem.Builtin
set_option Elab.async false
set_option maxRecDepth 100000
namespace Mine

section
variable {w : World} {A : Around} {cenv : Env} {σ : List (Str × D)} {It a : Addr} {rs : List Row} {vs : List Value} {z : Shared} {g : Nat}

structure InGen (w : World) (cenv : Env) (σ : List (Str × D)) (It a : Addr) (rs : List Row) (vs : List Value) (i : Nat) (s : Shared) : Prop where
  holds : Holds w cenv ((".0", .raw (.ref It)) :: σ) s
  it : s.heap.IsListIter It a i
  at' : SeqAt s.heap a vs.toArray
  vals : Vals s.heap (rs.map tagD) vs
  exA : ∃ o, s.heap.get? a = some o ∧ o.cls ≠ .none
theorem InGen.inf {i : Nat} {s : Shared} (x : InGen w cenv σ It a rs vs i s) (h0 : cenv.kindOf ".0" = some .local) : ∀ b ∈ [cenv.locals, It], ∀ o, s.heap.get? b = some o → infra o = true := fun b hb o g => by
  rcases List.mem_cons.mp hb with q | q
  · obtain ⟨v, bd, _⟩ := x.holds.vals ".0" (.raw (.ref It)) (by rw [List.lookup_cons, beq_self_eq_true])
    rcases bd with ⟨_, m, ⟨o', es, ep, g', d', _, r'⟩, qm⟩ | ⟨k | k, _⟩
    · rw [q, g'] at g; cases g
      exact own_infra (x := ".0") (v := v) d' (by rw [r']; exact qm)
    · rw [h0] at k; cases k
    · rw [h0] at k; cases k
  · rw [List.mem_singleton.mp q] at g
    exact (iter_free x.it It (List.mem_singleton.mpr rfl) o g).2
theorem InGen.ext {i : Nat} {s s' : Shared} {G : List Nat} (x : InGen w cenv σ It a rs vs i s) (e : ExtG [] G s s') : InGen w cenv σ It a rs vs i s' := by
  have B := x.holds.base
  refine ⟨x.holds.ext e, ?_, ?_, e.vals0 B x.vals, let ⟨o, g, c⟩ := x.exA; ⟨o, e.at0 B g c, c⟩⟩
  · refine x.it.at fun o g => e.at0 B g ?_
    obtain ⟨o', g', c, _⟩ := x.it
    rw [g'] at g; cases g; rw [c]; simp
  · refine x.at'.at fun o g => ?_
    obtain ⟨o', g', c⟩ := x.exA
    rw [g'] at g; cases g
    exact e.at0 B g' c

theorem seg_genl {elt iter : Expr} {x : Str} {px : Pos} {scope : Scope} {pos : Pos} {p : Row → Bool} {Fin : Shared → Prop} (hFin : ∀ s, Fin s) (hx : cenv.kindOf x = some .local) (h0 : cenv.kindOf ".0" = some .local) (hx0 : x ≠ ".0") (hco : cenv.scope.isCoroutine = false)
    (hIt : nTop ≤ It) (hne : It ≠ cenv.locals) (hane : a ≠ It) (haL : ∀ s i, InGen w cenv σ It a rs vs i s → a ≠ cenv.locals) (hσ : σ.lookup x = none) (hσ0 : σ.lookup (".0" : Str) = none)
    (he : ∀ r ∈ rs, Ev w (A.over (.compLoop (.GeneratorExp elt [⟨.Name x px, iter, [], 0⟩] scope pos) 0 (.ref It) .none cenv) []) cenv ((x, tagD r) :: σ) elt (.bool (p r))) (hh : A.handled = none) :
    ∀ (k i : Nat) (s₀ s : Shared), rs.length - i = k → i ≤ rs.length → InGen w cenv σ It a rs vs i s → (∀ b ∈ [cenv.locals, It], ∀ o, s₀.heap.get? b = some o → infra o = true) → Ext [cenv.locals, It] s₀ s →
      Seg (md w) A (fun n s₀ r s₁ => r = .ok .next ∧ PR false z [cenv.locals, It] g [] Fin n s₀ s₁) (PY false w z [cenv.locals, It] g [] rs.length (fun j v => ∃ b, (rs.map p)[j]? = some b ∧ v = .bool b)) k s₀
        (.compLoop (.GeneratorExp elt [⟨.Name x px, iter, [], 0⟩] scope pos) 0 (.ref It) .none cenv)
        ((md w).den (.compLoop (.GeneratorExp elt [⟨.Name x px, iter, [], 0⟩] scope pos) 0 (.ref It) .none cenv)) [] s := by
  have hh' : (A.over (.compLoop (.GeneratorExp elt [⟨.Name x px, iter, [], 0⟩] scope pos) 0 (.ref It) .none cenv) []).handled = none := hh
  have stp : ∀ {s₀ s : Shared}, (∀ b ∈ [cenv.locals, It], ∀ o, s₀.heap.get? b = some o → infra o = true) → Ext [cenv.locals, It] s₀ s → Step false z [cenv.locals, It] [] [] s₀ s := fun hi e => ⟨_, e, fun b hb => ⟨by simp, .inl hb, fun o g => .inl (hi b hb o g)⟩⟩
  intro k
  induction k with
  | zero =>
    intro i s₀ s hk hi J hinf e
    have hin : i = rs.length := by omega
    subst hin
    show Seg _ A _ _ _ s₀ _ ((compTurn (.GeneratorExp elt [⟨.Name x px, iter, [], 0⟩] scope pos) 0 (.ref It) .none cenv).onRaise (leaving cenv)) [] s
    rw [compTurn_gen, Sem.onRaise_eq_wrap]
    refine seg_bind_wrap (wpAny_standAt ?_)
    have hnone : vs.toArray[rs.length]? = none := by have := J.vals.length; simp at this; simp [this]
    refine seg_bind_wrap (pyNext_end hh' J.it J.at' hnone fun h' hk => ?_)
    have ex : Ext [It] s { s with heap := h', toks := s.toks } := Ext.sets (fun a ha => by rw [List.mem_singleton.mp ha]; exact hIt) (fun a ha o g => (iter_free J.it a ha o g).1) (fun b o hb g => hk b o (fun q => hb (by simp [q])) g)
    exact seg_end (.ok .next) ⟨rfl, rfl, stp hinf (e.trans (ex.wk (fun i hi => List.mem_cons_of_mem _ hi) e.own)), fun s' _ => hFin s'⟩
  | succ k ih =>
    intro i s₀ s hk hi J hinf e
    have hlt : i < rs.length := by omega
    show Seg _ A _ _ _ s₀ _ ((compTurn (.GeneratorExp elt [⟨.Name x px, iter, [], 0⟩] scope pos) 0 (.ref It) .none cenv).onRaise (leaving cenv)) [] s
    rw [compTurn_gen, Sem.onRaise_eq_wrap]
    refine seg_bind_wrap (wpAny_standAt ?_)
    obtain ⟨v, hv, hval⟩ := J.vals.get (getTag (List.getElem?_eq_getElem hlt))
    refine seg_bind_wrap (pyNext_item J.it J.at' (x := v) (by simpa using hv) fun h' hit' hs' => ?_)
    have e1 : Ext [It] s { s with heap := h', toks := s.toks } := Ext.sets (fun a ha => by rw [List.mem_singleton.mp ha]; exact hIt) (fun a ha o g => (iter_free J.it a ha o g).1) (fun b o hb g => (hs'.2 b (fun q => hb (by simp [q]))).trans g)
    have B := J.holds.base
    have ap1 : ∀ d : D, ∀ b ∈ [It], ∀ o, s.heap.get? b = some o → apart o d := fun d b hb o g => .inl (iter_free J.it b hb o g).2
    have dull : Dull s [It] := fun b hb o g => by
      obtain ⟨o', g', c, d⟩ := J.it
      rw [List.mem_singleton.mp hb, g'] at g; cases g
      exact ⟨fun v q => (by rw [d] at q; cases q), fun es ep q => (by rw [d] at q; cases q)⟩
    have H1 := J.holds.extS e1 dull fun _ d _ => ap1 d
    have val1 : Vals h' (rs.map tagD) vs := e1.vals B (fun b hb o g => .inl (iter_free J.it b hb o g).2) J.vals
    have exA1 : ∃ o, h'.get? a = some o ∧ o.cls ≠ .none := let ⟨o, g, c⟩ := J.exA; ⟨o, (hs'.2 a hane).trans g, c⟩
    have J1 : InGen w cenv σ It a rs vs (i + 1) { s with heap := h', toks := s.toks } := ⟨H1, hit', J.at'.at fun o g => (hs'.2 a hane).trans g, val1, exA1⟩
    refine seg_bind_wrap (wpAny_of_eq (rfl : letOwnedTupleGo (.Name x px) (.ref It) v = pure ()) ?_)
    have hv1 : Val h' (tagD rs[i]) v := e1.val B (ap1 _) hval
    refine seg_bind_wrap (wpAny_assign_Name (H1.store (d := tagD rs[i]) hv1 (.inl hx) (.inr (.inr ⟨hx, fun s' y => ?_⟩)) fun s2 H2 e2 _ _ _ => ?_))
    · unfold place at y; rw [hx] at y
      exact y.val H1.base (fun b hb o g => .inl (J1.inf h0 b (by rw [List.mem_singleton.mp hb]; exact List.mem_cons_self ..) o g)) hv1
    have e2' : Ext [cenv.locals] { s with heap := h', toks := s.toks } s2 := by unfold place at e2; rw [hx] at e2; exact e2
    have hL := H1.big _ (List.mem_cons_self ..)
    have infL : ∀ b ∈ [cenv.locals], ∀ o, h'.get? b = some o → infra o = true := fun b hb o g => J1.inf h0 b (by rw [List.mem_singleton.mp hb]; exact List.mem_cons_self ..) o g
    have haL' := haL _ _ J
    have lessA : Holds w cenv ((".0", .raw (.ref It)) :: σ) s2 := H2.less fun y d q => by
      rw [List.lookup_cons] at q ⊢
      have : (y == x) = false := by
        rw [beq_eq_false_iff_ne]; intro z; subst z
        have h1 : (y == (".0" : Str)) = false := by rw [beq_eq_false_iff_ne]; exact hx0
        rw [h1] at q; rw [hσ] at q; cases q
      rw [this, List.lookup_cons]; exact q
    have J2 : InGen w cenv σ It a rs vs (i + 1) s2 := by
      refine ⟨lessA, J1.it.at fun o g => ?_, J1.at'.at fun o g => ?_, e2'.vals H1.base (fun b hb o g => .inl (infL b hb o g)) val1, let ⟨o, g, c⟩ := exA1; ⟨o, e2'.at H1.base g (by simpa using haL') c, c⟩⟩
      · refine e2'.at H1.base g (by simpa using hne) ?_
        obtain ⟨o', g', c, _⟩ := hit'
        rw [show h'.get? It = some o from g] at g'; cases g'; rw [c]; simp
      · obtain ⟨o', g', c⟩ := exA1
        have g2 : h'.get? a = some o := g
        rw [g'] at g2; cases g2
        exact e2'.at H1.base g (by simpa using haL') c
    have lessB : Holds w cenv ((x, tagD rs[i]) :: σ) s2 := H2.less fun y d q => by
      rw [List.lookup_cons] at q ⊢
      split at q
      · exact q
      · rw [List.lookup_cons]
        have : (y == (".0" : Str)) = false := by
          rw [beq_eq_false_iff_ne]; intro z; subst z; rw [hσ0] at q; cases q
        rw [this]; exact q
    refine seg_bind_wrap (wpAny_of_eq (a := true) (by rfl) ?_)
    simp only [if_true]
    have hy : ∀ v, yieldOut cenv v = yieldValue v := fun v => by simp only [yieldOut, hco, Bool.false_eq_true, if_false]
    simp only [hy]
    rw [Sem.bind_eq_wrap', Sem.bind_eq_wrap', Sem.wrap_wrap, Sem.wrap_wrap]
    refine seg_wrap (wpAny_noE (he _ (List.getElem_mem hlt) s2 lessB) fun y s4 q4 => ?_)
    obtain ⟨e4, hy4⟩ := q4
    have J4 := J2.ext e4
    have own2 : ∀ i ∈ [cenv.locals, It], nTop ≤ i := e.own
    have e14 : Ext [cenv.locals, It] s₀ s4 := ((e.trans (e1.wk (fun i hi => List.mem_cons_of_mem _ hi) own2)).trans (e2'.wk (fun i hi => by rw [List.mem_singleton.mp hi]; exact List.mem_cons_self ..) own2)).trans (e4.wk0 own2)
    have hki : rs.length - 1 - k = i := by omega
    refine seg_at (seg_yield rfl rfl rfl ⟨?_, stp hinf e14, fun s'' _ B'' _ e'' => ?_⟩)
    · rw [hki]
      exact ⟨p rs[i], by rw [List.getElem?_map, List.getElem?_eq_getElem hlt]; rfl, hy4⟩
    · have J5 := J4.ext e''
      exact seg_again rfl (ih (i + 1) s'' s'' (by omega) hlt J5 (J5.inf h0) ((Ext.refl s'').wk0 own2))
end
end Mine
end
section
open PySem PySem.W PyProof.Rows PySem.Builtin
set_option Elab.async false
set_option maxRecDepth 100000
namespace Mine

section
variable {w : World} {A : Around} {env : Env} {σ σ' : List (Str × D)} {s s3 s5 : Shared} {scope : Scope} {C : Addr} {code : Value}

theorem clos_free (ok : compOk scope env = true) {x : Str} (hf : scope.names.lookup x = some .free) : (env.kindOf x = some .cell ∨ env.kindOf x = some .free) ∧ (clos env.cells scope.names []).lookup x = env.cells.lookup x := by
  have hm : (x, NameKind.free) ∈ scope.names := mem_of_lookup hf
  have := List.all_eq_true.mp ok _ hm
  simp only [bne_self_eq_false, Bool.false_or, Bool.and_eq_true, Bool.or_eq_true, beq_iff_eq, Bool.not_eq_true'] at this
  refine ⟨this.1.1.1, ?_⟩
  obtain ⟨c, hc⟩ := Option.isSome_iff_exists.mp (clos_some (cells := env.cells) scope.names [] (.inr hm))
  have h' : ∀ p ∈ scope.names, p.2 = .free → (env.cells.lookup p.1).isSome = true := fun p hp hf => by
    have := List.all_eq_true.mp ok p hp
    rw [hf] at this
    simp only [bne_self_eq_false, Bool.false_or, Bool.and_eq_true] at this
    exact this.1.1.2
  rw [hc, clos_mem scope.names [] h' (fun _ _ q => by cases q) x c (mem_of_lookup hc)]
theorem clos_sub (ok : compOk scope env = true) : ∀ x c, (x, c) ∈ clos env.cells scope.names [] → env.cells.lookup x = some c := by
  have h' : ∀ p ∈ scope.names, p.2 = .free → (env.cells.lookup p.1).isSome = true := fun p hp hf => by
    have := List.all_eq_true.mp ok p hp
    rw [hf] at this
    simp only [bne_self_eq_false, Bool.false_or, Bool.and_eq_true] at this
    exact this.1.1.2
  exact clos_mem scope.names [] h' (fun _ _ q => by cases q)

/-- a generator expression's names -/
theorem holds_gen (H : Holds w env σ s3) (e : Ext [] s3 s5) (ok : compOk scope env = true) (hkind : scope.kind = .function) (hC : nTop ≤ C) {m : Str → Option Value} (hn : s5.heap.Ns C m) {It : Addr} (h0 : scope.names.lookup (".0" : Str) = some .local) (hm : m ".0" = some (.ref It))
    (hσ : ∀ y d, σ'.lookup y = some d → scope.names.lookup y = some .free ∧ σ.lookup y = some d) :
    Holds w (genEnv scope (clos env.cells scope.names []) C code builtinsNs env) ((".0", .raw (.ref It)) :: σ') s5 := by
  have H5 := H.ext e
  refine ⟨H5.base, fun i hi => ?_, hkind, H.gl, rfl, ⟨m, hn⟩, fun n c hc => ?_, fun o g => ?_, fun x y c h1 h2 => ?_, fun y d q => ?_⟩
  · rcases List.mem_cons.mp hi with q | q
    · rw [q]; exact hC
    · obtain ⟨p, hp, rfl⟩ := List.mem_map.mp q
      exact H.big _ (List.mem_cons_of_mem _ (List.mem_map.mpr ⟨_, mem_of_lookup (clos_sub ok p.1 p.2 hp), rfl⟩))
  · exact H5.cells n c (clos_sub ok n c (mem_of_lookup hc))
  · obtain ⟨o', es, ep, g', d', _, r'⟩ := hn
    have : s5.heap.get? C = some o := g
    rw [g'] at this; cases this
    exact .inl (own_infra (x := ".0") (v := .ref It) d' (by rw [r']; exact hm))
  · exact H5.inj x y c (clos_sub ok x c (mem_of_lookup h1)) (clos_sub ok y c (mem_of_lookup h2))
  · rw [List.lookup_cons] at q
    split at q
    · rename_i z
      cases q
      rw [beq_iff_eq.mp z]
      exact ⟨_, .inl ⟨h0, m, hn, hm⟩, rfl⟩
    · obtain ⟨hf, hd⟩ := hσ y d q
      obtain ⟨v, b, hv⟩ := H5.vals y d hd
      obtain ⟨k, hc⟩ := clos_free ok hf
      refine ⟨v, ?_, hv⟩
      rcases b with ⟨kl, _⟩ | ⟨_, c, h1, n1, q1⟩
      · rcases k with k | k <;> rw [kl] at k <;> cases k
      · exact .inr ⟨.inr hf, c, hc.trans h1, n1, q1⟩

/-- (elt for x in e), not yet run -/
theorem gen_make {k : Nat} {elt iter : Expr} {x : Str} {px pos : Pos} {rs : List Row} {p : Row → Bool} (r : Room (k + 4) A) (H : Holds w env σ s) (hi : Ev w A env σ iter (tagsD rs)) (ok : compOk scope env = true) (hkind : scope.kind = .function) (hco : scope.isCoroutine = false)
    (hcell : ∀ y ∈ scope.names, y.2 ≠ .cell) (h0 : scope.names.lookup (".0" : Str) = some .local) (hx : scope.names.lookup x = some .local) (hx0 : x ≠ ".0") (hcode : env.code = .ref 243) (hq : env.qual ++ ("<genexpr>" : Str) = qH)
    (hσ : ∀ y d, σ'.lookup y = some d → scope.names.lookup y = some .free ∧ σ.lookup y = some d) (hσx : σ'.lookup x = none) (hσ0 : σ'.lookup (".0" : Str) = none)
    (he : ∀ A' C code, Room k A' → ∀ r ∈ rs, Ev w A' (genEnv scope (clos env.cells scope.names []) C code builtinsNs env) ((x, tagD r) :: σ') elt (.bool (p r)))
    (hs : ∀ y, genFold iter env y = pure y := by intro _; rfl) :
    wpAny (md w) A (eval (.GeneratorExp elt [⟨.Name x px, iter, [], 0⟩] scope pos) env) (fun v s' => ∃ I g S, v = .ref I ∧ Ext [] s s' ∧ s'.heap.IsGen I g ∧ New s I ∧ s.gens[g]? = none ∧ I ∉ S ∧ (∀ b ∈ S, New s b) ∧
      GenSt false w A.in1 .next I g s' S rs.length (fun j v => ∃ b, (rs.map p)[j]? = some b ∧ v = .bool b) (fun _ => True) [] 0 s') noE s := by
  refine wpAny_GeneratorExp_make hco (closureFor_eq ok) hcell h0 hkind r.limit (wpAny_noE (hi s H) fun xv s₁ q => ?_) hs
  obtain ⟨e1, a, vs, n, dx, m, rfl, g, gd, hvs⟩ := q
  have B1 := H.base.ext e1
  refine pyIter_tags B1 g gd ?_
  have e2 : Ext [] s₁ { s₁ with heap := s₁.heap.push { cls := .type "list_iterator", data := .fields #[.ref a, .int 0 0] } } := Ext.push (t := s₁.toks)
  have B2 := B1.ext e2
  refine ⟨B2.nolimit, ?_⟩
  rw [hq]
  refine wpAny_noE (gen_code hcode B2) fun code s₃ e3 => ?_
  have B3 := B2.ext e3
  rw [H.gl]
  refine bi_for B3 ?_
  intro h' hns hs'
  have itl : s₁.heap.objs.size < s₃.heap.objs.size := by
    have : s₃.heap.get? s₁.heap.objs.size = some _ := e3.at0 B2 (Heap.get?_push_size _ rfl) (by simp)
    exact Heap.lt_size this
  have hsz : h'.objs.size = s₃.heap.objs.size + 1 := by rw [hs'.1, Heap.size_push]
  have keep5 : ∀ (o : Obj) b o', s₃.heap.get? b = some o' → (h'.push o).get? b = some o' := fun o b o' g => Heap.get?_push_of_some _ ((hs'.2 b (Nat.ne_of_lt (Heap.lt_size g))).trans (Heap.get?_push_of_some _ g))
  have e13 : Ext [] s s₃ := (e1.trans e2).trans e3
  have e5 : ∀ o gs tk, gs.bare = true → Ext [] s₃ { s₃ with gens := s₃.gens.push gs, toks := tk, heap := h'.push o } := fun o gs tk hb => Ext.newGen hb (keep5 o)
  have hC := B3.big
  have hgs : s.gens[s₃.gens.size]? = none := by
    cases q : s.gens[s₃.gens.size]? with
    | none => rfl
    | some x => have := e13.gens _ _ q (by simp); rw [Array.getElem?_eq_none (Nat.le_refl _)] at this; cases this
  have itl : s₁.heap.objs.size < s₃.heap.objs.size := itl
  have hItn : nTop ≤ s₁.heap.objs.size := B1.big
  have hnsC := hns
  have itA : ∀ o, (s₁.heap.push { cls := .type "list_iterator", data := .fields #[.ref a, .int 0 0] }).get? s₁.heap.objs.size = some o → o.cls ≠ .none := fun o g' => by
    rw [Heap.get?_push_size _ rfl] at g'; cases g'; simp
  have itat := it_objs (s₁ := s₁) (ax := a)
  have ga3 := e3.at0 B2 (Heap.get?_push_of_some _ g) (by simp)
  have fin : ∀ (s5 : Shared) (og : Obj), s5.heap = h'.push og → s5.heap.IsGen h'.objs.size s₃.gens.size → s5.gens[s₃.gens.size]? = some (.fresh (.compStart (.GeneratorExp elt [⟨.Name x px, iter, [], 0⟩] scope pos) 0 (.ref s₁.heap.objs.size) .none (genEnv scope (clos env.cells scope.names []) s₃.heap.objs.size code builtinsNs env))) → Ext [] s₃ s5 →
      ∃ I g S, Value.ref h'.objs.size = .ref I ∧ Ext [] s s5 ∧ s5.heap.IsGen I g ∧ New s I ∧ s.gens[g]? = none ∧ I ∉ S ∧ (∀ b ∈ S, New s b) ∧ GenSt false w A.in1 .next I g s5 S rs.length (fun j v => ∃ b, (rs.map p)[j]? = some b ∧ v = .bool b) (fun _ => True) [] 0 s5 := by
    intro s5 og hheap hgen hgens e35
    refine ⟨h'.objs.size, s₃.gens.size, [s₃.heap.objs.size, s₁.heap.objs.size], rfl, e13.trans e35, hgen, H.base.newer e13 ⟨gone (by omega), by omega⟩, hgs, ?_, fun b hb => ?_, ?_⟩
    · simp only [List.mem_cons, List.not_mem_nil, or_false, not_or]
      exact ⟨fun z => absurd (show (h'.objs.size : Nat) = s₃.heap.objs.size from z) (by omega), fun z => absurd (show (h'.objs.size : Nat) = s₁.heap.objs.size from z) (by omega)⟩
    · rcases List.mem_cons.mp hb with q | q
      · rw [q]; exact H.base.newer e13 ⟨gone (Nat.le_refl _), hC⟩
      · rw [List.mem_singleton.mp q]; exact H.base.newer e1 ⟨gone (Nat.le_refl _), B1.big⟩
    have Hg := holds_gen (code := code) (σ' := σ') H (e13.trans e35) ok hkind hC (by rw [hheap]; exact hnsC.push _) (It := s₁.heap.objs.size) h0 (by simp) hσ
    have ga5 := e35.at0 B3 ga3 (by simp)
    have J0 : InGen w (genEnv scope (clos env.cells scope.names []) s₃.heap.objs.size code builtinsNs env) σ' s₁.heap.objs.size a rs vs 0 s5 :=
      ⟨Hg, itat.at fun o g' => (e3.trans e35).at0 B2 g' (itA o g'), ⟨_, _, ga5, rfl⟩, ((e2.trans e3).trans e35).vals0 B1 hvs, ⟨_, ga5, by simp⟩⟩
    refine ⟨by simp, hgen, _, hgens, fun s'' _ B'' e1'' e2'' => ⟨rfl, ?_⟩⟩
    have J := J0.ext e2''
    have hane : a ≠ s₁.heap.objs.size := Nat.ne_of_lt (Heap.lt_size g)
    have haC : a ≠ s₃.heap.objs.size := Nat.ne_of_lt (Heap.lt_size ga3)
    have hk0 : (genEnv scope (clos env.cells scope.names []) s₃.heap.objs.size code builtinsNs env).kindOf ".0" = some .local := h0
    have own2 : ∀ i ∈ [s₃.heap.objs.size, s₁.heap.objs.size], nTop ≤ i := fun i hi => by
      rcases List.mem_cons.mp hi with q | q
      · rw [q]; exact hC
      · rw [List.mem_singleton.mp q]; exact hItn
    have loop := seg_genl (cenv := genEnv scope (clos env.cells scope.names []) s₃.heap.objs.size code builtinsNs env) (z := s5) (g := s₃.gens.size) (A := A.in1.in1) (iter := iter) (px := px) (scope := scope) (pos := pos) (p := p) (Fin := fun _ => True) (fun _ => trivial) (x := x) (elt := elt) hx hk0 hx0 hco hItn (Nat.ne_of_lt itl) hane
      (fun s i J => haC) hσx hσ0 (fun r' hr' => he _ _ _ (Room.over (k := k) ((r.in1 (k := k + 3)).in1.mono (by omega))) r' hr') r.handled rs.length 0 s'' s'' rfl (Nat.zero_le _) J (J.inf hk0) ((Ext.refl s'').wk0 own2)
    show Seg _ A.in1.in1 _ _ _ s'' _ ((compStart (.GeneratorExp elt [⟨.Name x px, iter, [], 0⟩] scope pos) 0 (.ref s₁.heap.objs.size) .none _).onRaise (leaving _)) [] s''
    unfold compStart
    rw [Sem.onRaise_eq_wrap]
    show Seg _ A.in1.in1 _ _ _ s'' _ ((ask >>= _).wrap _ _ _ _) [] s''
    refine seg_bind_wrap (wpAny_askSetting ?_)
    split
    · exact seg_again rfl loop
    · first
        | exact seg_bind_wrap (wpAny_rule (seg_bind_wrap (wpAny_standAt (seg_bind_wrap (wpAny_pyIter_listiter J.it (seg_again rfl loop))))))
        | (refine seg_bind_wrap (wpAny_rule ?_); show Seg _ A.in1.in1 _ _ _ s'' _ ((standAt iter.pos >>= _).wrap _ _ _ _) [] s''; exact seg_bind_wrap (wpAny_standAt (seg_bind_wrap (wpAny_pyIter_listiter J.it (seg_again rfl loop)))))
  exact fin _ _ rfl ⟨_, _, _, Heap.get?_push_size _ rfl, rfl, rfl, rfl⟩ (Array.getElem?_push_size ..) (e5 _ _ _ rfl)
end
end Mine
end
section
open PySem PySem.W PyProof.Rows PySem.Builtin
set_option Elab.async false
set_option maxRecDepth 100000
namespace Mine

section
variable {w : World} {A : Around} {env : Env} {σ : List (Str × D)} {s : Shared}
theorem call_any_gen {I : Addr} {g : Nat} {S : List Addr} {bs : List Bool} {s0 : Shared} (r : Room 3 A) (e0 : Ext [] s0 s) (B : Base w s) (hz : s.heap.IsGen I g) (hI : New s0 I) (hg : s0.gens[g]? = none) (hIS : I ∉ S) (hS : ∀ b ∈ S, New s0 b)
    (st : GenSt false w A.in1 .next I g s S bs.length (fun j v => ∃ b, bs[j]? = some b ∧ v = .bool b) (fun _ => True) [] 0 s) :
    wpAny (md w) A (call (.builtin "any") [.ref I]) (fun v s' => v = .bool (bs.any id) ∧ Ext [] s0 s') noE s := by
  refine call_function_tree F.kind_any F.plain_any F.entry_any (F.args_any1 _) ?_
  unfold Builtin.«any»
  refine wpAny_bind (m := oneArg "any" _) (wpAny_pure ?_)
  refine wpAny_bind (wpAny_pyIter_gen hz ?_)
  refine wpAny_pure ⟨plainId_quiet F.plain_any_loop _, codeAny_mono (any_gen r.handled (r.in1 (k := 2)).limit hI.2 hIS hz bs.length 0 s rfl (Nat.zero_le _) st B ((Ext.refl s).anyG.wk0 fun b hb => (hS b (by simpa using hb)).2)) fun rr s' q => ?_⟩
  obtain ⟨rfl, e⟩ := q
  refine ⟨by simp, ?_⟩
  have e1 : ExtG (S ++ []) [g] s0 s' := (e0.anyG.wk0 e.own).trans e
  exact (e1.drop (S' := []) (fun i hi => .inr (hS i (by simpa using hi)).1) (by simp)).dropG fun i hi => by rw [List.mem_singleton.mp hi]; exact hg
theorem fn_has_tag {k : Nat} {rs : List Row} {c : Int} : Fn w (k + 8) 244 [tagsD rs, .int c] (.bool (rs.any fun r => r.1 == c)) := by
  refine fn_pure (fun P => by k_is) (by kernel_rfl) (by exact two_arg fun v u => rfl) (by rfl) (by
    intro A L r
    refine body_ret fun s H => ?_
    refine callName1 (gl_builtin rfl (k_g_any _).1 (k_g_any _).2) callee_b H (gen_make (k := k + 3) (σ' := [("code", .int c)]) (p := fun r => r.1 == c) r H (ev_name rfl) rfl rfl rfl (by decide) rfl rfl (by decide) rfl (by kernel_rfl) ?_ rfl rfl ?_) (fun v s' q => ?_)
    · intro y d q
      rw [List.lookup_cons] at q
      split at q
      · rename_i z; rw [beq_iff_eq.mp z]; cases q; exact ⟨rfl, rfl⟩
      · cases q
    · intro A' C code rm r' _
      exact ev_cmp (ev_code rm (ev_name rfl)) (ev_name rfl) cmp_eq_int
    · obtain ⟨I, g, S, rfl, e, hgen, hI, hgs, hIS, hS, st⟩ := q
      have B' := H.base.ext e
      refine ⟨B', ?_⟩
      have hlen : rs.length = (rs.map fun r => r.1 == c).length := by simp
      rw [hlen] at st
      refine wpAny_noE (call_any_gen (r.mono (by omega)) e B' hgen hI hgs hIS hS st) fun v s'' q => ⟨q.2, ?_⟩
      show v = .bool _
      rw [q.1, List.any_map]; rfl)
end
end Mine
end
section
open PySem PySem.W PyProof.Rows PySem.Builtin
set_option Elab.async false
set_option maxRecDepth 100000
namespace Mine

section
variable {w : World} {A : Around} {env : Env} {σ : List (Str × D)} {s : Shared} {a : Addr} {vs : List Value} {n : Nat}
theorem mapSeq_list (f : Array Value → Array Value) (vs : List Value) (n : Nat) : ∃ n', Obj.mapSeq f (listO vs n) = listO (f vs.toArray).toList n' := by
  refine ⟨?_, ?_⟩
  rotate_left
  · unfold Obj.mapSeq listO; simp only [Array.toArray_toList]; rfl
theorem list_upd {f : Array Value → Array Value} {ws : List Value} {h : Heap} (g : h.get? a = some (listO vs n)) (e : (f vs.toArray).toList = ws) : ∃ n', (h.update a (Obj.mapSeq f)).get? a = some (listO ws n') := by
  obtain ⟨n', e'⟩ := mapSeq_list f vs n
  refine ⟨n', ?_⟩
  rw [← e, ← e']
  exact Heap.get?_update_self _ g (by rw [e']; rfl)
theorem list_chg {s₂ : Shared} {ws : List Value} {n' : Nat} {us : List D} (B : Base w s) (g : s.heap.get? a = some (listO vs n)) (e : Ext [a] s s₂) (g2 : s₂.heap.get? a = some (listO ws n')) (hws : Vals s.heap us ws) (fl : ∀ d ∈ us, flat d = true) :
    Chg w (.type "list") a (.list us) s s₂ := by
  refine ⟨⟨s, Ext.refl s, e, fun o q => ?_⟩, a, ws, n', rfl, g2, e.vals B (fun b hb o q => ?_) hws⟩
  · rw [g] at q; cases q; exact ⟨rfl, (fun _ q => by cases q), (fun _ _ q => by cases q)⟩
  · rw [List.mem_singleton.mp hb, g] at q; cases q
    exact Soft.apartL (.inr (.inl rfl)) fl
/-- x.append(e), x a list -/
theorem ev_lappend {o e : Expr} {apos pos : Pos} {ts : List D} {d : D} {pl : Sem Bool} (hn : nTop ≤ a) (ho : Ev w A env σ o (.at a (.list ts))) (h1 : Ev w A env σ e d) (hz : ts.length ≤ 1000) (fl : ∀ d' ∈ ts ++ [d], flat d' = true) (H : Holds w env σ s)
    (he : eval (.Call (.Attribute o "append" apos) [e] [] pos) env = (do
      let ov ← eval o env
      standAt apos.atName
      let (f, first) ← holding [ov] (getMethod ov "append" pl)
      callWith pos f first (backTo pos (starEach [e] env)) (backToKw pos (keywordEach [] env))) := by rfl) (hst : noStar [e] = true := by rfl) :
    wpAny (md w) A (eval (.Call (.Attribute o "append" apos) [e] [] pos) env) (fun v s' => v = .none ∧ Chg w (.type "list") a (.list (ts ++ [d])) s s') noE s := by
  refine eval_meth (wpAny_noE (ho s H) fun v s₁ q1 => ?_) he
  obtain ⟨x1, rfl, b, us, n, q, g, hus⟩ := q1
  cases q
  refine Calls.getMethod_list_append g rfl rfl ?_
  refine callW callee_b (evs1 h1) (H.ext x1) hst fun vs s₂ e2 H' hv1 => ?_
  obtain ⟨u, r, rfl, hu, hr⟩ := hv1
  rw [show r = [] from hr]
  have g2 := e2.at0 (H.base.ext x1) g (by simp)
  have hus2 := e2.vals0 (H.base.ext x1) hus
  have hl := hus.length
  refine wpAny_list_append_plain (items := us.toArray) ⟨n, g2⟩ (fun h' hp sb => ?_) (by show us.toArray.size ≤ 16777216; simp; omega)
  obtain ⟨n', g'⟩ := hp
  exact ⟨rfl, (list_chg H'.base g2 (Ext.set (t := s₂.toks) hn g2 rfl sb) (by simpa using g') (hus2.snoc hu) fl).after (x1.trans e2)⟩
theorem list_set {Q : Unit → Shared → Prop} {i : Int} {t : PySem.Tok} {x : Value} (g : s.heap.get? a = some (listO vs n)) (h0 : 0 ≤ i) (hi : i.toNat < vs.length) (hz : vs.length ≤ 1000)
    (h : ∀ h' n', h'.get? a = some (listO (vs.set i.toNat x) n') → Heap.SameBut a s.heap h' → Q () { s with heap := h' }) : wpAny (md w) A (setItem (.ref a) (.int i t) x) Q noE s := by
  have hfit : i < 2 ^ 63 := by omega
  have hT : s.TypeIs (.ref a) "list" := ⟨_, g, rfl⟩
  unfold setItem
  try with_reducible refine wpAny_holding ?_
  first | refine wpAny_bind (wpAny_pure ?_) | skip
  refine wpAny_bind (wpAny_sequenceKey hT (by decide) ?_)
  refine wpAny_bind (wpAny_callSpecial?_slot (name := Str.ofString "__setitem__") hT slot_list_setitem
    (wpAny_call_entry slot_list_setitem hT entry_list_setitem ?_ (args_list_setitem _ _ _)))
  show wpAny _ _ (Builtin.List.listSubscript? (.int i t) >>= _) _ _ s
  refine wpAny_bind (wpAny_listSubscript_int (fitsIndex_of h0 hfit) ?_)
  clear hfit
  obtain ⟨j, rfl⟩ := Int.eq_ofNat_of_zero_le h0
  have hj : j < vs.length := by simpa using hi
  show wpAny _ _ ((seqItemAt a j >>= fun r => pure (r.map (j, ·))) >>= _) _ _ s
  refine wpAny_bind (wpAny_bind (wpAny_seqItemAt g rfl (wpAny_pure ?_)))
  rw [show vs.toArray[j]? = some vs[j] by simp [hj]]
  obtain ⟨n', fin⟩ := list_upd (f := fun y => y.setIfInBounds j x) (ws := vs.set j x) g (by simp)
  show wpAny _ _ (setSeqItemAt a j x >>= _) _ _ s
  refine wpAny_bind (wpAny_setSeqItemAt g rfl ?_)
  have k := h _ n' fin (Heap.SameBut.update ..)
  first
    | exact wpAny_bind (wpAny_pure (wpAny_pure ⟨.none, rfl, wpAny_pure k⟩))
    | exact wpAny_pure ⟨.none, rfl, wpAny_pure k⟩
/-- x[i] = e, x a list: the object part -/
theorem set_list {ts : List D} {i : Nat} {d : D} {v : Value} {t : PySem.Tok} (hn : nTop ≤ a) (B : Base w s) (ha : Val s.heap (.list ts) (.ref a)) (hv : Val s.heap d v) (hi : i < ts.length) (hz : ts.length ≤ 1000) (fl : ∀ d' ∈ ts.set i d, flat d' = true) :
    wpAny (md w) A (setItem (.ref a) (.int (i : Int) t) v) (fun _ s' => Chg w (.type "list") a (.list (ts.set i d)) s s') noE s := by
  obtain ⟨b, us, n, q, g, hus⟩ := ha
  cases q
  have hl := hus.length
  refine list_set g (by omega) (by simp; omega) (by omega) fun h' n' g' sb => ?_
  rw [Int.toNat_natCast] at g'
  exact list_chg B g (Ext.set (t := s.toks) hn g rfl sb) g' (set_vals hus hv) fl
end
end Mine
end
section
open PySem PySem.W PyProof.Rows PySem.Builtin
set_option Elab.async false
set_option maxRecDepth 100000
namespace Mine

abbrev loopH (env : Env) : Value → Sem Fin := fun e => (do noteFrame e env; theTreesLotGoes e : Sem Unit).wrap (fun _ => .raise e) .raise id id
abbrev loopK (target : Expr) (it : Value) (body : List Stmt) (env : Env) : Flow → Sem Fin := fun f => match f with
  | .next | .cont => .pure (.again (.forLoop target it body [] env))
  | .brk => .pure (.done .next)
  | .ret v => .pure (.done (.ret v))
abbrev forK (K : Flow → Sem Fin) (H : Value → Sem Fin) (gd : Bool → Bool) (lv : List Value → List Value) (env : Env) : Result → Sem Fin := fun r =>
  ((match r with | .ok f => (.pure f : Sem Flow) | .error e => .raise e).onRaise fun (x : Value) => do
        if (← field x 1) == Value.none then unsupported "frame.own-activation:exception-without-traceback"
        setFlight x env.frame).wrap K H gd lv

section
variable {w : World} {A : Around} {R : GenEnd} {Y : Protocol} {n : Nat} {s₀ : Shared} {c : Code} {fs : List PySem.Frame} {s : Shared} {env : Env}
  {K : Flow → Sem Fin} {H : Value → Sem Fin} {gd : Bool → Bool} {lv : List Value → List Value}
/-- a statement that hands nothing out -/
theorem seg_stm {st : Stmt} {rest : List Stmt} {Q : Shared → Prop} (h : wpAny (md w) (A.over c fs) (exec st env) (fun f s' => f = .next ∧ Q s') noE s) (k : ∀ s', Q s' → Seg (md w) A R Y n s₀ c ((execs rest env).wrap K H gd lv) fs s') :
    Seg (md w) A R Y n s₀ c ((execs (st :: rest) env).wrap K H gd lv) fs s := by
  refine seg_execs_cons (seg_wrap (wpAny_mono h (fun f s' q => ?_) fun _ _ x => x.elim))
  obtain ⟨rfl, q⟩ := q
  exact k s' q
theorem seg_If' {test : Expr} {body orelse : List Stmt} {pos : Pos} (h : wpAny (md w) (A.over c fs) (isTrue test env (eval test env)) (fun b s₁ => Seg (md w) A R Y n s₀ c ((execs (if b then body else orelse) env).wrap K H gd lv) fs s₁) noE s) :
    Seg (md w) A R Y n s₀ c ((exec (.If test body orelse pos) env).wrap K H gd lv) fs s := by
  rw [exec_If]
  refine seg_bind_wrap (wpAny_standAt ?_)
  refine seg_bind_wrap (wpAny_mono h (fun b s₁ h₁ => ?_) fun _ _ x => x.elim)
  cases b <;> exact h₁
theorem seg_For' {target iter : Expr} {body : List Stmt} {pos : Pos} (h : wpAny (md w) (A.over c fs) (eval iter env) (fun x s₁ => wpAny (md w) (A.over c fs) (pyIter x) (fun it s₂ => ∀ p, Seg (md w) A R Y n s₀ (.forLoop target it body [] env) ((md w).den (.forLoop target it body [] env)) (.ret (forK K H gd lv env) none (gd false) (lv []) c p [] :: fs) s₂) noE s₁) noE s)
    (hs : ∀ x, foldedSetIterable iter env x = pure x := by intro _; rfl) :
    Seg (md w) A R Y n s₀ c ((exec (.For target iter body [] pos) env).wrap K H gd lv) fs s := by
  rw [exec_For]
  refine seg_bind_wrap (wpAny_standAt ?_)
  refine seg_bind_wrap (wpAny_mono h (fun x s₁ h₁ => ?_) fun _ _ x => x.elim)
  refine seg_bind_wrap (wpAny_of_eq (hs x) ?_)
  refine seg_bind_wrap (wpAny_standAt ?_)
  refine seg_bind_wrap (wpAny_holding (wpAny_mono h₁ (fun it s₂ h₂ => ?_) fun _ _ x => x.elim))
  exact seg_call h₂
theorem seg_turn {target : Expr} {it : Value} {body : List Stmt} (h : wpAny (md w) (A.over (.forLoop target it body [] env) fs) (pyNext it) (fun r s₁ => match r with
      | none => Seg (md w) A R Y n s₀ (.forLoop target it body [] env) (.pure (.again (.block [] env))) fs s₁
      | some v => wpAny (md w) (A.over (.forLoop target it body [] env) fs) (letOwnedTupleGo target it v) (fun _ s₁' => wpAny (md w) (A.over (.forLoop target it body [] env) fs) (assign target env v) (fun _ s₂ =>
          Seg (md w) A R Y n s₀ (.forLoop target it body [] env) ((execs body env).wrap (loopK target it body env) (loopH env) id id) fs s₂) noE s₁') noE s₁) noE s) :
    Seg (md w) A R Y n s₀ (.forLoop target it body [] env) ((md w).den (.forLoop target it body [] env)) fs s := by
  show Seg _ A R Y n s₀ _ ((forTurn target it body [] env).onRaise (fun x => do noteFrame x env; theTreesLotGoes x)) fs s
  unfold forTurn
  rw [Sem.onRaise_eq_wrap]
  refine seg_bind_wrap (wpAny_standAt ?_)
  refine seg_bind_wrap (wpAny_onRaise (wpAny_mono h (fun r s₁ h₁ => ?_) fun _ _ x => x.elim))
  cases r with
  | none => exact h₁
  | some v =>
    refine seg_bind_wrap (wpAny_mono h₁ (fun _ s₁' h₂ => ?_) fun _ _ x => x.elim)
    refine seg_bind_wrap (wpAny_mono h₂ (fun _ s₂ h₃ => ?_) fun _ _ x => x.elim)
    rw [Sem.bind_eq_wrap', Sem.wrap_wrap]
    rw [Sem.wrap_congr (execs body env) _ _ (K' := loopK target it body env) (H' := loopH env) (fun f => by cases f <;> rfl)
        (fun e => by first | exact Sem.bind_eq_wrap _ _ | (show (do noteFrame e env; theTreesLotGoes e : Sem Unit).bind (fun _ => .raise e) = _; rw [Sem.bind_eq_wrap]))]
    exact h₃
theorem seg_for_end {target : Expr} {it : Value} {body : List Stmt} {p : Pos} {kp : List Value} {g : Bool} {l : List Value} (h : Seg (md w) A R Y n s₀ c (K .next) fs s) :
    Seg (md w) A R Y n s₀ (.forLoop target it body [] env) (.pure (.again (.block [] env))) (.ret (forK K H gd lv env) none g l c p kp :: fs) s := by
  refine seg_again rfl ?_
  show Seg (md w) A R Y n s₀ (.block [] env) (leafOf (.ok .next)) _ s
  exact seg_leaf (.ok .next) h
end
end Mine
end
section
open PySem PySem.W PyProof.Rows PySem.Builtin
set_option Elab.async false
set_option maxRecDepth 100000
namespace Mine

/-- the things of some rows -/
def remV (p : Row → Bool) : List Row → List Value → List Value
  | r :: rs, v :: vs => if p r then v :: remV p rs vs else remV p rs vs
  | _, _ => []
theorem remV_vals {h : Heap} {p : Row → Bool} : ∀ {rs : List Row} {vs : List Value}, Vals h (rs.map tagD) vs → Vals h ((rs.filter p).map tagD) (remV p rs vs)
  | [], _, _ => rfl
  | r :: rs, _, ⟨v, us, e, hv, hr⟩ => by
    subst e
    have ih := remV_vals (p := p) hr
    rw [remV, List.filter_cons]
    split
    · exact ⟨v, _, rfl, hv, ih⟩
    · exact ih
theorem remV_append {p : Row → Bool} : ∀ {as bs : List Row} {us ws : List Value}, as.length = us.length → remV p (as ++ bs) (us ++ ws) = remV p as us ++ remV p bs ws
  | [], bs, us, ws, hl => by
    have : us = [] := List.length_eq_zero_iff.mp hl.symm
    subst this; rfl
  | a :: as, bs, [], ws, hl => by cases hl
  | a :: as, bs, u :: us, ws, hl => by
    have ih := remV_append (p := p) (as := as) (bs := bs) (us := us) (ws := ws) (by simpa using hl)
    simp only [List.cons_append, remV]
    split
    · rw [ih]; rfl
    · exact ih
theorem remV_length {p : Row → Bool} : ∀ {rs : List Row} {vs : List Value}, rs.length = vs.length → (remV p rs vs).length = (rs.filter p).length
  | [], vs, hl => rfl
  | r :: rs, [], hl => by cases hl
  | r :: rs, v :: vs, hl => by
    have ih := remV_length (p := p) (rs := rs) (vs := vs) (by simpa using hl)
    rw [remV, List.filter_cons]
    split
    · rw [List.length_cons, List.length_cons, ih]
    · exact ih
theorem remV_snoc {p : Row → Bool} {rs : List Row} {vs : List Value} {i : Nat} {r : Row} {v : Value} (hl : rs.length = vs.length) (hr : rs[i]? = some r) (hv : vs[i]? = some v) :
    remV p (rs.take (i + 1)) (vs.take (i + 1)) = remV p (rs.take i) (vs.take i) ++ if p r then [v] else [] := by
  rw [List.take_add_one, List.take_add_one, hr, hv, remV_append (by simp [hl])]
  congr 1
theorem remV_at {p : Row → Bool} {rs : List Row} {vs : List Value} {i : Nat} {r : Row} {v : Value} (hl : rs.length = vs.length) (hr : rs[i]? = some r) (hv : vs[i]? = some v) (hp : p r = true) :
    (remV p rs vs)[((rs.take i).filter p).length]? = some v := by
  have hlt : i < rs.length := (List.getElem?_eq_some_iff.mp hr).1
  have hlt' : i < vs.length := by omega
  have e1 : rs = rs.take i ++ r :: rs.drop (i + 1) := by
    have := List.take_append_drop i rs
    rw [List.drop_eq_getElem_cons hlt] at this
    rw [List.getElem?_eq_getElem hlt] at hr
    rw [← Option.some.inj hr]; exact this.symm
  have e2 : vs = vs.take i ++ v :: vs.drop (i + 1) := by
    have := List.take_append_drop i vs
    rw [List.drop_eq_getElem_cons hlt'] at this
    rw [List.getElem?_eq_getElem hlt'] at hv
    rw [← Option.some.inj hv]; exact this.symm
  have e3 : remV p rs vs = remV p (rs.take i) (vs.take i) ++ v :: remV p (rs.drop (i + 1)) (vs.drop (i + 1)) := by
    have e4 : remV p rs vs = remV p (rs.take i ++ r :: rs.drop (i + 1)) (vs.take i ++ v :: vs.drop (i + 1)) := by rw [← e1, ← e2]
    rw [e4, remV_append (by simp [hl])]
    congr 1
    rw [remV, if_pos hp]
  rw [e3, List.getElem?_append_right (by rw [remV_length (by simp [hl])]; exact Nat.le_refl _), remV_length (by simp [hl]), Nat.sub_self]
  rfl
theorem filt_split {p : Row → Bool} {rs : List Row} {i : Nat} {r : Row} (hr : rs[i]? = some r) : ((rs.drop i).filter p).length = (if p r then 1 else 0) + ((rs.drop (i + 1)).filter p).length ∧ (rs.filter p).length = ((rs.take i).filter p).length + ((rs.drop i).filter p).length := by
  have hlt : i < rs.length := (List.getElem?_eq_some_iff.mp hr).1
  rw [List.getElem?_eq_getElem hlt] at hr
  refine ⟨?_, ?_⟩
  · rw [List.drop_eq_getElem_cons hlt, Option.some.inj hr, List.filter_cons]
    split <;> simp <;> omega
  · rw [← List.length_append, ← List.filter_append, List.take_append_drop]

section
variable {w : World} {A : Around} {env : Env} {σ : List (Str × D)} {s s' z : Shared} {T : List Addr} {g : Nat} {aT aR aS It dx : Addr} {n m : Nat} {vs : List Value} {cs : List Int} {i : Nat} {ws : List Value}

/-- in the midst of pop_tags -/
structure InPop (w : World) (env : Env) (z : Shared) (T : List Addr) (g : Nat) (aT aR aS It dx : Addr) (n m : Nat) (vs : List Value) (cs : List Int) (i : Nat) (ws : List Value) (s : Shared) : Prop where
  base : Base w s
  ez : ExtG ([env.locals, aT] ++ T) [g] z s
  bSelf : Bound env s "self" (.ref aT)
  bRem : Bound env s "remaining" (.ref aR)
  bCodes : Bound env s "codes" (.ref aS)
  it : s.heap.IsListIter It aT i
  tags : s.heap.get? aT = some (tagsO vs n dx)
  gdx : s.heap.get? dx = some (dictO m)
  set : ∃ es ep t, s.heap.get? aS = some (setO false es ep t) ∧ GoodSet es t cs
  rem : ∃ n', s.heap.get? aR = some (listO ws n')
/-- the things of its own -/
structure PopOwn (w : World) (env : Env) (σ : List (Str × D)) (z : Shared) (T : List Addr) (aT aR aS It dx : Addr) (n m : Nat) (vs : List Value) (rs : List Row) : Prop where
  hz : Holds w env σ z
  cells : env.cells = []
  func : env.func.isSome = true
  infL : ∀ o, z.heap.get? env.locals = some o → infra o = true
  kSelf : env.kindOf "self" = some .local
  kRem : env.kindOf "remaining" = some .local
  kCodes : env.kindOf "codes" = some .local
  kTag : env.kindOf "tag" = some .local
  tok : TokZ z T
  tags : z.heap.get? aT = some (tagsO vs n dx)
  gdx : z.heap.get? dx = some (dictO m)
  vals : Vals z.heap (rs.map tagD) vs
  nt : ∀ b ∈ [env.locals, aT, aR, It], nTop ≤ b
  nT : ∀ b ∈ [env.locals, aT, aR, aS, It, dx], b ∉ T
  nd : [env.locals, aT, aR, aS, It, dx].Nodup
  newR : z.heap.get? aR = none
  newI : z.heap.get? It = none

theorem Bound.at_local {x : Str} {v : Value} {W : List Addr} {G : List Nat} (b : Bound env s x v) (k : env.kindOf x = some .local) (e : ExtG W G s s') (hn : nTop ≤ env.locals) (hW : env.locals ∉ W) : Bound env s' x v := by
  rcases b with ⟨_, m, h, q⟩ | ⟨k' | k', _⟩
  · exact .inl ⟨k, m, e.ns hn hW h, q⟩
  · rw [k] at k'; cases k'
  · rw [k] at k'; cases k'
theorem PopOwn.valsAt {rs : List Row} (O : PopOwn w env σ z T aT aR aS It dx n m vs rs) {s : Shared} {ds : List D} {us : List Value} (e : ExtG ([env.locals, aT] ++ T) [g] z s) (hv : Vals z.heap ds us) (fl : ∀ d ∈ ds, flat d = true) : Vals s.heap ds us := by
  refine e.vals O.hz.base (fun a ha o q => ?_) hv
  refine Soft.apartL ?_ fl
  rcases List.mem_append.mp ha with h | h
  · rcases List.mem_cons.mp h with h | h
    · rw [h] at q; exact .inl (O.infL o q)
    · rw [List.mem_singleton.mp h, O.tags] at q; cases q; exact .inr (.inr (.inl rfl))
  · exact .inl ((O.tok a h).2 o q)
theorem InPop.ext {G : List Nat} {rs : List Row} (J : InPop w env z T g aT aR aS It dx n m vs cs i ws s) (O : PopOwn w env σ z T aT aR aS It dx n m vs rs) (hG : ∀ x ∈ G, x = g) {W : List Addr} (e : ExtG W G s s')
    (hW : ∀ b ∈ W, b ∈ [env.locals, It, aR] ∨ b ∈ T) {i' : Nat} {ws' : List Value} (hb : env.locals ∈ W → Bound env s' "self" (.ref aT) ∧ Bound env s' "remaining" (.ref aR) ∧ Bound env s' "codes" (.ref aS)) (hi : (It ∉ W ∧ i' = i) ∨ s'.heap.IsListIter It aT i')
    (hr : (aR ∉ W ∧ ws' = ws) ∨ ∃ n', s'.heap.get? aR = some (listO ws' n')) : InPop w env z T g aT aR aS It dx n m vs cs i' ws' s' := by
  have nd := O.nd
  simp only [List.nodup_cons, List.mem_cons, List.not_mem_nil, or_false, not_or, List.nodup_nil, and_true, not_false_eq_true] at nd
  obtain ⟨⟨l1, l2, l3, l4, l5⟩, ⟨t1, t2, t3, t4⟩, ⟨r1, r2, r3⟩, ⟨s1, s2⟩, i1⟩ := nd
  have out : ∀ {b : Addr}, b ∈ [env.locals, aT, aR, aS, It, dx] → b ≠ env.locals → b ≠ It → b ≠ aR → b ∉ W := fun {b} hm h1 h2 h3 q => by
    rcases hW b q with q | q
    · simp only [List.mem_cons, List.not_mem_nil, or_false] at q
      rcases q with q | q | q
      · exact h1 q
      · exact h2 q
      · exact h3 q
    · exact O.nT b hm q
  have nL : nTop ≤ env.locals := O.nt _ (by simp)
  have bd : ∀ {x : Str} {v : Value}, env.kindOf x = some .local → Bound env s x v → env.locals ∉ W → Bound env s' x v := fun k b h => b.at_local k e nL h
  have eT : ExtG ([env.locals, aT] ++ T) [g] z s' := by
    have own' : ∀ i ∈ [env.locals, aT] ++ T ++ W, nTop ≤ i := fun i hi => (List.mem_append.mp hi).elim (J.ez.own i) (e.own i)
    refine ((J.ez.wk (fun i hi => List.mem_append_left _ hi) own').trans ((e.wkG (fun x hx => by rw [hG x hx]; exact List.mem_singleton.mpr rfl)).wk (fun i hi => List.mem_append_right _ hi) own')).drop (fun i hi => ?_) J.ez.own
    rcases List.mem_append.mp hi with q | q
    · exact .inl q
    · rcases hW i q with q | q
      · simp only [List.mem_cons, List.not_mem_nil, or_false] at q
        rcases q with q | q | q
        · exact .inl (by rw [q]; simp)
        · exact .inr (by rw [q]; exact O.newI)
        · exact .inr (by rw [q]; exact O.newR)
      · exact .inl (List.mem_append_right _ q)
  refine ⟨J.base.ext e, eT, ?_, ?_, ?_, ?_, e.at J.base J.tags (out (by simp) (Ne.symm l1) t3 t1) (by simp), e.at J.base J.gdx (out (by simp) (Ne.symm l5) (Ne.symm i1) (Ne.symm r3)) (by simp), ?_, ?_⟩
  · by_cases h : env.locals ∈ W
    · exact (hb h).1
    · exact bd O.kSelf J.bSelf h
  · by_cases h : env.locals ∈ W
    · exact (hb h).2.1
    · exact bd O.kRem J.bRem h
  · by_cases h : env.locals ∈ W
    · exact (hb h).2.2
    · exact bd O.kCodes J.bCodes h
  · rcases hi with ⟨h, rfl⟩ | h
    · refine J.it.at fun o q => e.at J.base q h ?_
      obtain ⟨o', q', c, _⟩ := J.it
      rw [q'] at q; cases q; rw [c]; simp
    · exact h
  · obtain ⟨es, ep, t, q, r⟩ := J.set
    exact ⟨es, ep, t, e.at J.base q (out (by simp) (Ne.symm l3) s1 (Ne.symm r1)) (by simp), r⟩
  · rcases hr with ⟨h, rfl⟩ | h
    · obtain ⟨n', q⟩ := J.rem
      exact ⟨n', e.at J.base q h (by simp)⟩
    · exact h
theorem InPop.holds {rs : List Row} {ds : List D} (J : InPop w env z T g aT aR aS It dx n m vs cs i ws s) (O : PopOwn w env σ z T aT aR aS It dx n m vs rs) (hws : Vals s.heap ds ws) :
    Holds w env [("remaining", .at aR (.list ds)), ("codes", .set false cs), ("self", .at aT (tagsD rs))] s := by
  have hns : ∃ mm, s.heap.Ns env.locals mm ∧ mm "self" = some (.ref aT) := by
    rcases J.bSelf with ⟨_, mm, h, q⟩ | ⟨k | k, _⟩
    · exact ⟨mm, h, q⟩
    · rw [O.kSelf] at k; cases k
    · rw [O.kSelf] at k; cases k
  obtain ⟨mm, hns, hself⟩ := hns
  refine ⟨J.base, O.hz.big, O.hz.fn, O.hz.gl, O.hz.bi, ⟨mm, hns⟩, fun x c hc => ?_, fun o q => ?_, O.hz.inj, fun x d q => ?_⟩
  · rw [O.cells] at hc; cases hc
  · obtain ⟨o', es, ep, g', d', _, r'⟩ := hns
    rw [g'] at q; cases q
    exact .inl (own_infra (x := "self") (v := .ref aT) d' (by rw [r']; exact hself))
  · simp only [List.lookup_cons, List.lookup_nil] at q
    split at q
    · rename_i h; cases q; rw [beq_iff_eq.mp h]
      obtain ⟨n', q⟩ := J.rem
      exact ⟨_, J.bRem, rfl, aR, ws, n', rfl, q, hws⟩
    · split at q
      · rename_i h; cases q; rw [beq_iff_eq.mp h]
        obtain ⟨es, ep, t, q, r⟩ := J.set
        exact ⟨_, J.bCodes, aS, es, ep, t, rfl, q, r⟩
      · split at q
        · rename_i h; cases q; rw [beq_iff_eq.mp h]
          exact ⟨_, J.bSelf, rfl, aT, vs, n, dx, m, rfl, J.tags, J.gdx, O.valsAt J.ez O.vals (flat_tags _)⟩
        · cases q
end
end Mine
end
section
open PySem PySem.W PyProof.Rows PySem.Builtin
set_option Elab.async false
set_option maxRecDepth 100000
namespace Mine

section
variable {w : World} {A : Around} {env : Env} {σ : List (Str × D)} {s s' z : Shared} {T : List Addr} {g : Nat} {aT aR aS It dx a : Addr} {n m : Nat} {vs : List Value} {cs : List Int} {i : Nat} {ws : List Value} {N' : Nat}

/-- x.append(e): the very values -/
theorem raw_lappend {o e : Expr} {apos pos : Pos} {v : Value} {pl : Sem Bool} (hn : nTop ≤ a) (ho : Ev w A env σ o (.raw (.ref a))) (h1 : Ev w A env σ e (.raw v)) (H : Holds w env σ s) (g : s.heap.get? a = some (listO ws n)) (hz : ws.length ≤ 1000)
    (he : eval (.Call (.Attribute o "append" apos) [e] [] pos) env = (do
      let ov ← eval o env
      standAt apos.atName
      let (f, first) ← holding [ov] (getMethod ov "append" pl)
      callWith pos f first (backTo pos (starEach [e] env)) (backToKw pos (keywordEach [] env))) := by rfl) (hst : noStar [e] = true := by rfl) :
    wpAny (md w) A (eval (.Call (.Attribute o "append" apos) [e] [] pos) env) (fun u s' => u = .none ∧ Ext [a] s s' ∧ ∃ n', s'.heap.get? a = some (listO (ws ++ [v]) n')) noE s := by
  refine eval_meth (wpAny_noE (ho s H) fun v s₁ q1 => ?_) he
  obtain ⟨x1, rfl⟩ := q1
  have g1 := x1.at0 H.base g (by simp)
  refine Calls.getMethod_list_append g1 rfl rfl ?_
  refine callW callee_b (evs1 h1) (H.ext x1) hst fun vs s₂ e2 H' hv1 => ?_
  obtain ⟨u, r, rfl, rfl, hr⟩ := hv1
  rw [show r = [] from hr]
  have g2 := e2.at0 (H.base.ext x1) g1 (by simp)
  refine wpAny_list_append_plain (items := ws.toArray) ⟨n, g2⟩ (fun h' hp sb => ?_) (by show ws.toArray.size ≤ 16777216; simp; omega)
  obtain ⟨n', g'⟩ := hp
  have ex : Ext [a] s₂ { s₂ with heap := h' } := Ext.set (t := s₂.toks) hn g2 rfl sb
  exact ⟨rfl, ((x1.trans e2).wk0 ex.own).trans ex, n', by simpa using g'⟩

/-- what may be changed since a station -/
structure Since (w : World) (env : Env) (z : Shared) (T : List Addr) (aT aR It : Addr) (s₀ s : Shared) : Prop where
  ext : Ext [env.locals, It, aR] s₀ s
  soft : ∀ b ∈ [env.locals, It, aR], ∀ o, s₀.heap.get? b = some o → Soft o
theorem Since.step {rs : List Row} (O : PopOwn w env σ z T aT aR aS It dx n m vs rs) {s₀ s : Shared} (x : Since w env z T aT aR It s₀ s) : Step true z [env.locals, aT] [] T s₀ s :=
  ⟨_, x.ext, fun b hb => ⟨O.nT b (by simp only [List.mem_cons, List.not_mem_nil, or_false] at hb ⊢; rcases hb with q | q | q <;> simp [q]), by
    simp only [List.mem_cons, List.not_mem_nil, or_false] at hb
    rcases hb with q | q | q
    · exact .inl (by rw [q]; simp)
    · exact .inr (by rw [q]; exact O.newI)
    · exact .inr (by rw [q]; exact O.newR), fun o h => .inr ⟨rfl, x.soft b hb o h⟩⟩⟩
theorem Since.more {s₀ s s' : Shared} (x : Since w env z T aT aR It s₀ s) (e : Ext [env.locals, It, aR] s s') : Since w env z T aT aR It s₀ s' := ⟨x.ext.trans e, x.soft⟩
theorem InPop.softs {rs : List Row} (J : InPop w env z T g aT aR aS It dx n m vs cs i ws s) (O : PopOwn w env σ z T aT aR aS It dx n m vs rs) : ∀ b ∈ [env.locals, It, aR], ∀ o, s.heap.get? b = some o → Soft o := fun b hb o q => by
  simp only [List.mem_cons, List.not_mem_nil, or_false] at hb
  rcases hb with h | h | h
  · have H := J.holds (ds := []) O
    rcases J.bSelf with ⟨_, mm, ⟨o', es, ep, g', d', _, r'⟩, q'⟩ | ⟨k | k, _⟩
    · rw [h, g'] at q; cases q
      exact .inl (own_infra (x := "self") (v := .ref aT) d' (by rw [r']; exact q'))
    · rw [O.kSelf] at k; cases k
    · rw [O.kSelf] at k; cases k
  · rw [h] at q
    exact .inl (iter_free J.it It (List.mem_singleton.mpr rfl) o q).2
  · obtain ⟨n', q'⟩ := J.rem
    rw [h, q'] at q; cases q
    exact .inr (.inl rfl)

abbrev popBody (p1 p2 p3 p4 p5 p6 p7 pc : Pos) (st : Stmt) : List Stmt :=
  [.If (.Compare (.Attribute (.Name "tag" p1) "code" p2) [.In] [.Name "codes" p3] p4) [.Expr (.Yield (some (.Name "tag" p5)) p6) p7] [st] pc]

theorem seg_pop {k : Nat} {rs : List Row} {p0 p1 p2 p3 p4 p5 p6 p7 pc : Pos} {st : Stmt} {c : Code} {K : Flow → Sem Fin} {H : Value → Sem Fin} {gd : Bool → Bool} {lv : List Value → List Value} {Fin : Shared → Prop} {pp : Pos} (O : PopOwn w env σ z T aT aR aS It dx n m vs rs) (hz : rs.length ≤ 100) (hgd : gd false = false) (hlv : lv [] = [])
    (hco : env.scope.isCoroutine = false) (hint : interactive env = false) (hN : (rs.filter fun r => cs.any (· == r.1)).length = N')
    (rm : Room (k + 2) (A.over (.forLoop (.Name "tag" p0) (.ref It) (popBody p1 p2 p3 p4 p5 p6 p7 pc st) [] env) [.ret (forK K H gd lv env) none false [] c pp []]))
    (hst : ∀ s v us j, Holds w env [("tag", .raw v), ("remaining", .raw (.ref aR))] s → s.heap.get? aR = some (listO us j) → us.length ≤ 1000 →
      wpAny (md w) (A.over (.forLoop (.Name "tag" p0) (.ref It) (popBody p1 p2 p3 p4 p5 p6 p7 pc st) [] env) [.ret (forK K H gd lv env) none false [] c pp []]) (exec st env) (fun f s' => f = .next ∧ Ext [aR] s s' ∧ ∃ n', s'.heap.get? aR = some (listO (us ++ [v]) n')) noE s)
    (fin : ∀ s₀ s j, Holds w env [("remaining", .raw (.ref aR)), ("self", .raw (.ref aT))] s → Val s.heap (tagsD rs) (.ref aT) → s.heap.get? aT = some (tagsO vs n dx) → s.heap.get? dx = some (dictO m) → s.heap.get? aR = some (listO (remV (fun r => !cs.any (· == r.1)) rs vs) j) → Since w env z T aT aR It s₀ s →
      Seg (md w) A (fun n s₀ r s₁ => r = .ok (.ret .none) ∧ PR true z [env.locals, aT] g T Fin n s₀ s₁) (PY true w z [env.locals, aT] g T N' (fun j v => (remV (fun r => cs.any (· == r.1)) rs vs)[j]? = some v)) 0 s₀ c (K .next) [] s) :
    ∀ (j i : Nat) (s₀ s : Shared), rs.length - i = j → i ≤ rs.length → InPop w env z T g aT aR aS It dx n m vs cs i (remV (fun r => !cs.any (· == r.1)) (rs.take i) (vs.take i)) s → Since w env z T aT aR It s₀ s →
      Seg (md w) A (fun n s₀ r s₁ => r = .ok (.ret .none) ∧ PR true z [env.locals, aT] g T Fin n s₀ s₁) (PY true w z [env.locals, aT] g T N' (fun j v => (remV (fun r => cs.any (· == r.1)) rs vs)[j]? = some v)) ((rs.drop i).filter fun r => cs.any (· == r.1)).length s₀
        (.forLoop (.Name "tag" p0) (.ref It) (popBody p1 p2 p3 p4 p5 p6 p7 pc st) [] env)
        ((md w).den (.forLoop (.Name "tag" p0) (.ref It) (popBody p1 p2 p3 p4 p5 p6 p7 pc st) [] env))
        [.ret (forK K H gd lv env) none (gd false) (lv []) c pp []] s := by
  have hlen : rs.length = vs.length := by have := O.vals.length; simp at this; omega
  rw [hgd, hlv]
  intro j
  induction j with
  | zero =>
    intro i s₀ s hj hi J x
    have hin : i = rs.length := by omega
    subst hin
    have hnone : vs.toArray[rs.length]? = none := by simp [hlen]
    have hh := rm.handled
    refine seg_turn (pyNext_end hh J.it ⟨_, _, J.tags, rfl⟩ hnone fun h' hk => ?_)
    have nIt : nTop ≤ It := O.nt _ (by simp)
    have ex : Ext [It] s { s with heap := h', toks := s.toks } := Ext.sets (fun a ha => by rw [List.mem_singleton.mp ha]; exact nIt) (fun a ha o g => (iter_free J.it a ha o g).1) (fun b o hb g => hk b o (fun q => hb (by simp [q])) g)
    rw [List.take_length, List.take_of_length_le (by omega)] at J
    have H0 := J.holds O (O.valsAt J.ez (remV_vals (p := fun r => !cs.any (· == r.1)) O.vals) (flat_tags _))
    have Hraw : Holds w env [("remaining", .raw (.ref aR)), ("self", .raw (.ref aT))] s := by
      refine ⟨H0.base, H0.big, H0.fn, H0.gl, H0.bi, H0.ns, H0.cells, fun o g => ?_, H0.inj, fun y d q => ?_⟩
      · rcases H0.lone o g with q | q | ⟨_, q, _⟩
        · exact .inl q
        · exact .inr (.inl q)
        · have := O.func; rw [q] at this; cases this
      · simp only [List.lookup_cons, List.lookup_nil] at q
        split at q
        · rename_i h; cases q; rw [beq_iff_eq.mp h]; exact ⟨_, J.bRem, rfl⟩
        · split at q
          · rename_i h; cases q; rw [beq_iff_eq.mp h]; exact ⟨_, J.bSelf, rfl⟩
          · cases q
    have nd := O.nd
    simp only [List.nodup_cons, List.mem_cons, List.not_mem_nil, or_false, not_or, List.nodup_nil, and_true, not_false_eq_true] at nd
    obtain ⟨⟨l1, l2, l3, l4, l5⟩, ⟨t1, t2, t3, t4⟩, ⟨r1, r2, r3⟩, ⟨s1, s2⟩, i1⟩ := nd
    have dull : Dull s [It] := fun b hb o g => by
      obtain ⟨o', g', c, d⟩ := J.it
      rw [List.mem_singleton.mp hb, g'] at g; cases g
      exact ⟨fun v q => (by rw [d] at q; cases q), fun es ep q => (by rw [d] at q; cases q)⟩
    have H1 := Hraw.extS ex dull fun _ d _ b hb o g => .inl (iter_free J.it b hb o g).2
    obtain ⟨jr, gr⟩ := J.rem
    have vT : Val s.heap (tagsD rs) (.ref aT) := ⟨aT, vs, n, dx, m, rfl, J.tags, J.gdx, O.valsAt J.ez O.vals (flat_tags _)⟩
    rw [List.drop_length]
    exact seg_for_end (fin s₀ _ jr H1 (ex.val J.base (fun b hb o g => .inl (iter_free J.it b hb o g).2) vT) (ex.at J.base J.tags (by simpa using t3) (by simp)) (ex.at J.base J.gdx (by simpa using Ne.symm i1) (by simp)) (ex.at J.base gr (by simpa using r2) (by simp)) (x.more (ex.wk (fun b hb => by simp only [List.mem_singleton] at hb; simp [hb]) x.ext.own)))
  | succ j ih =>
    intro i s₀ s hj hi J x
    have hlt : i < rs.length := by omega
    have hlt' : i < vs.length := by omega
    have hr : rs[i]? = some rs[i] := List.getElem?_eq_getElem hlt
    have hv : vs[i]? = some vs[i] := List.getElem?_eq_getElem hlt'
    have nd := O.nd
    simp only [List.nodup_cons, List.mem_cons, List.not_mem_nil, or_false, not_or, List.nodup_nil, and_true, not_false_eq_true] at nd
    obtain ⟨⟨l1, l2, l3, l4, l5⟩, ⟨t1, t2, t3, t4⟩, ⟨r1, r2, r3⟩, ⟨s1, s2⟩, i1⟩ := nd
    have vtake : Vals z.heap (((rs.take i).filter fun r => !cs.any (· == r.1)).map tagD) (remV (fun r => !cs.any (· == r.1)) (rs.take i) (vs.take i)) := remV_vals (by rw [List.map_take]; exact O.vals.take i)
    refine seg_turn (pyNext_item J.it ⟨_, _, J.tags, rfl⟩ (x := vs[i]) (by simp [hlt']) fun h' hit' hs' => ?_)
    refine wpAny_of_eq rfl ?_
    have nIt : nTop ≤ It := O.nt _ (by simp)
    have e1 : Ext [It] s { s with heap := h', toks := s.toks } := Ext.sets (fun a ha => by rw [List.mem_singleton.mp ha]; exact nIt) (fun a ha o g => (iter_free J.it a ha o g).1) (fun b o hb g => (hs'.2 b (fun q => hb (by simp [q]))).trans g)
    have J1 := J.ext O (G := []) (by simp) e1 (fun b hb => .inl (by simp only [List.mem_singleton] at hb; simp [hb])) (fun q => absurd (List.mem_singleton.mp q) l4) (i' := i + 1) (.inr hit') (.inl ⟨by simpa using r2, rfl⟩)
    have x1 := x.more (e1.wk (fun b hb => by simp only [List.mem_singleton] at hb; simp [hb]) x.ext.own)
    have H1 := J1.holds O (O.valsAt J1.ez vtake (flat_tags _))
    obtain ⟨v', hv', hval⟩ := (O.valsAt J1.ez O.vals (flat_tags _)).get (getTag hr)
    rw [hv] at hv'; cases hv'
    refine wpAny_assign_Name (H1.store (d := tagD rs[i]) hval (.inl O.kTag) (.inl O.func) fun s2 H2 e2 _ btag keepb => ?_)
    have e2' : Ext [env.locals] { s with heap := h', toks := s.toks } s2 := by unfold place at e2; rw [O.kTag] at e2; exact e2
    have J2 := J1.ext O (G := []) (by simp) e2' (fun b hb => .inl (by simp only [List.mem_singleton] at hb; simp [hb])) (fun _ => ⟨keepb _ _ (by decide) J1.bSelf, keepb _ _ (by decide) J1.bRem, keepb _ _ (by decide) J1.bCodes⟩) (i' := i + 1) (.inl ⟨by simpa using Ne.symm l4, rfl⟩) (.inl ⟨by simpa using Ne.symm l2, rfl⟩)
    have x2 := x1.more (e2'.wk (fun b hb => by simp only [List.mem_singleton] at hb; simp [hb]) x.ext.own)
    refine seg_execs_cons (seg_If' (wpAny_noE (tst_run (tst_cmp (ev_code rm (ev_name rfl)) (ev_name rfl) cmp_in_set) H2) fun b s3 q => ?_))
    obtain ⟨rfl, e3⟩ := q
    have J3 := J2.ext O (G := []) (by simp) e3 (by simp) (by simp) (i' := i + 1) (.inl ⟨by simp, rfl⟩) (.inl ⟨by simp, rfl⟩)
    have x3 := x2.more (e3.wk0 x.ext.own)
    have btag3 := btag.ext O.hz.big e3
    have hsp := filt_split (p := fun r => cs.any (· == r.1)) hr
    have hsn := remV_snoc (p := fun r => !cs.any (· == r.1)) hlen hr hv
    cases hq : cs.any (· == rs[i].1) with
    | true =>
      simp only [hq, if_true] at hsp
      simp only [hq, Bool.not_true, Bool.false_eq_true, if_false, List.append_nil] at hsn
      rw [hsp.1, Nat.add_comm]
      simp only [if_true]
      refine seg_execs_cons (seg_Expr_Yield rfl rfl rfl (wpAny_Name (btag3.load O.hz.fn (fun kap hk => ⟨?_, x3.step O, fun s'' hT B'' ez'' e'' => hk .none s'' ?_⟩)) (by decide)) hco hint)
      · have : N' - 1 - ((rs.drop (i + 1)).filter fun r => cs.any (· == r.1)).length = ((rs.take i).filter fun r => cs.any (· == r.1)).length := by omega
        rw [this]
        exact remV_at hlen hr hv hq
      · have J5 := J3.ext O (G := [g]) (by simp) e'' (fun b hb => .inr hb) (fun q => absurd q (O.nT _ (by simp))) (i' := i + 1) (.inl ⟨O.nT _ (by simp), rfl⟩) (.inl ⟨O.nT _ (by simp), rfl⟩)
        rw [← hsn] at J5
        exact seg_again rfl (ih (i + 1) s'' s'' (by omega) hlt J5 ⟨(Ext.refl s'').wk0 x.ext.own, J5.softs O⟩)
    | false =>
      simp only [hq, Bool.false_eq_true, if_false, Nat.zero_add] at hsp
      simp only [hq, Bool.not_false, if_true] at hsn
      rw [hsp.1]
      simp only [Bool.false_eq_true, if_false]
      have Hraw : Holds w env [("tag", .raw vs[i]), ("remaining", .raw (.ref aR))] s3 := by
        have H3 := J3.holds O (O.valsAt J3.ez vtake (flat_tags _))
        refine ⟨H3.base, H3.big, H3.fn, H3.gl, H3.bi, H3.ns, H3.cells, fun o g => ?_, H3.inj, fun y d q => ?_⟩
        · rcases H3.lone o g with q | q | ⟨_, q, _⟩
          · exact .inl q
          · exact .inr (.inl q)
          · have := O.func; rw [q] at this; cases this
        · simp only [List.lookup_cons, List.lookup_nil] at q
          split at q
          · rename_i h; cases q; rw [beq_iff_eq.mp h]; exact ⟨_, btag3, rfl⟩
          · split at q
            · rename_i h; cases q; rw [beq_iff_eq.mp h]; exact ⟨_, J3.bRem, rfl⟩
            · cases q
      obtain ⟨nr, gr⟩ := J3.rem
      have hwl : (remV (fun r => !cs.any (· == r.1)) (rs.take i) (vs.take i)).length ≤ 1000 := by
        rw [remV_length (by simp [hlen])]
        have := List.length_filter_le (fun r : Row => !cs.any (· == r.1)) (rs.take i)
        simp at this ⊢; omega
      refine seg_stm (Q := fun s' => Ext [aR] s3 s' ∧ ∃ n', s'.heap.get? aR = some (listO (remV (fun r => !cs.any (· == r.1)) (rs.take i) (vs.take i) ++ [vs[i]]) n')) (hst s3 _ _ _ Hraw gr hwl) fun s4 q => ?_
      obtain ⟨e4, q4⟩ := q
      have J4 := J3.ext O (G := []) (by simp) e4 (fun b hb => .inl (by simp only [List.mem_singleton] at hb; simp [hb])) (fun q => absurd (List.mem_singleton.mp q) l2) (i' := i + 1) (.inl ⟨by simpa using Ne.symm r2, rfl⟩) (.inr q4)
      have x4 := x3.more (e4.wk (fun b hb => by simp only [List.mem_singleton] at hb; simp [hb]) x.ext.own)
      rw [← hsn] at J4
      exact seg_again rfl (ih (i + 1) s₀ s4 (by omega) hlt J4 x4)

/-- x.clear(), x.extend(e): the very values -/
theorem raw_clear {o : Expr} {apos pos : Pos} {us : List Value} {ts : List D} {pl : Sem Bool} (hn : nTop ≤ a) (ho : Ev w A env σ o (.raw (.ref a))) (H : Holds w env σ s) (hv : Val s.heap (.tags ts) (.ref a)) (g : s.heap.get? a = some (tagsO us n dx)) (hz : us.length ≤ 1000)
    (he : eval (.Call (.Attribute o "clear" apos) [] [] pos) env = (do
      let ov ← eval o env
      standAt apos.atName
      let (f, first) ← holding [ov] (getMethod ov "clear" pl)
      callWith pos f first (backTo pos (starEach [] env)) (backToKw pos (keywordEach [] env))) := by rfl) :
    wpAny (md w) A (eval (.Call (.Attribute o "clear" apos) [] [] pos) env) (fun v s' => v = .none ∧ Ext [a] s s' ∧ ∃ n', s'.heap.get? a = some (tagsO [] n' dx)) noE s := by
  refine eval_meth (wpAny_noE (ho s H) fun v s₁ q1 => ?_) he
  obtain ⟨x1, rfl⟩ := q1
  refine tmeth (m_clear w) (H.base.ext x1) (x1.val0 H.base hv) ?_
  refine callW callee_b (ds := []) rfl (H.ext x1) rfl fun vs s₂ e2 H' hv1 => ?_
  rw [show vs = [] from hv1]
  have g2 := (x1.trans e2).at0 H.base g (by simp)
  refine tags_clear H'.base g2 hz fun h' n' g' sb => ?_
  have ex : Ext [a] s₂ { s₂ with heap := h' } := Ext.set (t := s₂.toks) hn g2 rfl sb
  exact ⟨rfl, ((x1.trans e2).wk0 ex.own).trans ex, n', g'⟩
theorem raw_extend {o e : Expr} {apos pos : Pos} {us ws : List Value} {ts : List D} {b : Addr} {j : Nat} {pl : Sem Bool} (hn : nTop ≤ a) (ho : Ev w A env σ o (.raw (.ref a))) (h1 : Ev w A env σ e (.raw (.ref b))) (H : Holds w env σ s) (hv : Val s.heap (.tags ts) (.ref a)) (g : s.heap.get? a = some (tagsO us n dx)) (gb : s.heap.get? b = some (listO ws j)) (hz : us.length + ws.length ≤ 1000)
    (he : eval (.Call (.Attribute o "extend" apos) [e] [] pos) env = (do
      let ov ← eval o env
      standAt apos.atName
      let (f, first) ← holding [ov] (getMethod ov "extend" pl)
      callWith pos f first (backTo pos (starEach [e] env)) (backToKw pos (keywordEach [] env))) := by rfl) (hst : noStar [e] = true := by rfl) :
    wpAny (md w) A (eval (.Call (.Attribute o "extend" apos) [e] [] pos) env) (fun v s' => v = .none ∧ Ext [a] s s' ∧ ∃ n', s'.heap.get? a = some (tagsO (us ++ ws) n' dx)) noE s := by
  refine eval_meth (wpAny_noE (ho s H) fun v s₁ q1 => ?_) he
  obtain ⟨x1, rfl⟩ := q1
  refine tmeth (m_extend w) (H.base.ext x1) (x1.val0 H.base hv) ?_
  refine callW callee_b (evs1 h1) (H.ext x1) hst fun vs s₂ e2 H' hv1 => ?_
  obtain ⟨u, r, rfl, rfl, hr⟩ := hv1
  rw [show r = [] from hr]
  have g2 := (x1.trans e2).at0 H.base g (by simp)
  have gb2 := (x1.trans e2).at0 H.base gb (by simp)
  refine tags_extend H'.base g2 gb2 (by omega) fun h' n' g' sb => ?_
  have ex : Ext [a] s₂ { s₂ with heap := h' } := Ext.set (t := s₂.toks) hn g2 rfl sb
  exact ⟨rfl, ((x1.trans e2).wk0 ex.own).trans ex, n', g'⟩
end
end Mine
end
section
open PySem PySem.W PyProof.Rows PySem.Builtin
set_option Elab.async false
set_option maxRecDepth 100000
namespace Mine

section
variable {w : World} {A : Around} {env : Env} {σ : List (Str × D)} {s : Shared} {ns : List Int}
theorem make_setF {v : Value} {s : Shared} (hh : A.handled = none) (B : Base w s) (hv : Val s.heap (.list (ns.map .int)) v) (hz : ns.length ≤ 50) : wpAny (md w) A (call (.type "set") [v]) (fun u s' => Ok s (.set false ns) u s' ∧ ∃ a, u = .ref a ∧ New s a) noE s := by
  obtain ⟨b, vs, n, rfl, g, hvs⟩ := hv
  have hl := hvs.length
  rw [List.length_map] at hl
  refine call_set_list hh ⟨_, g, rfl, n, rfl⟩ (by simpa using ints_are hvs) (by unfold scanBound; simp; omega) fun h' tk hS k => ?_
  have e : Ext [] s { s with heap := h', toks := tk } := Ext.grow fun b o g => k b o (Heap.lt_size g) g
  obtain ⟨o, es, ep, t, ho, ⟨c1, c2, c3⟩, hd, hel, hmem, hb, hf, hn⟩ := hS
  obtain ⟨oc, od, dt, sl⟩ := o
  dsimp only at c1 c2 c3 hd
  subst c1 c2 c3 hd
  refine ⟨⟨e, _, es, ep, t, rfl, ho, fun e he => ⟨let ⟨k, a, b⟩ := (hel e he).1; ⟨k, a, b⟩, (hel e he).2⟩, fun k => ?_, ?_, hf⟩, _, rfl, gone (Nat.le_refl _), B.big⟩
  · refine Iff.trans ?_ (hmem k)
    show _ ↔ ((firstMet (fun i => ns.getD i 0) vs.toArray.size).any fun x => x == k) = true
    rw [firstMet_any]
    rw [show vs.toArray.size = ns.length by simp [hl], getD_ints]
  · have := firstMet_length_le (fun i => ns.getD i 0) vs.toArray.size
    have h2 : vs.toArray.size = ns.length := by simp [hl]
    omega
theorem evF_set {px pos : Pos} {e : Expr} (hh : A.handled = none) (hx : env.kindOf "set" = some .globalImplicit) (h1 : Ev w A env σ e (.list (ns.map .int))) (hz : ns.length ≤ 50) (hst : noStar [e] = true := by rfl) :
    EvF w A env σ (.Call (.Name "set" px) [e] [] pos) (.set false ns) := fun s H =>
  callName (gl_builtin hx (k_g_set _).1 (k_g_set _).2) callee_t (ds := [.list (ns.map .int)]) ⟨_, _, rfl, h1, rfl⟩ H (fun vs s' e H' hv => by
    obtain ⟨v1, r1, rfl, a1, hr⟩ := hv
    rw [show r1 = [] from hr]
    refine wpAny_noE (make_setF hh H'.base a1 hz) fun v s'' z => ?_
    obtain ⟨z, a, rfl, hn⟩ := z
    exact ⟨⟨e.trans z.1, z.2⟩, a, rfl, H.base.newer e hn⟩) hst
theorem stm_assignF {x : Str} {px pos : Pos} {e : Expr} {d : D} (h : EvF w A env σ e d) (H : Holds w env σ s)
    (hk : env.kindOf x = some .local ∨ (env.kindOf x = some .cell ∧ (env.cells.lookup x).isSome = true) := by first | exact .inl rfl | exact .inr ⟨rfl, rfl⟩) (hf : env.func.isSome = true := by rfl)
    (hs : swapsWith e (some (.Name x px)) pos.line env = pure false := by rfl) : wpAny (md w) A (exec (.Assign [.Name x px] e pos) env) (fun f s' => f = .next ∧ ∃ b, New s b ∧ Ext (own env) s s' ∧ Holds w env ((x, .at b d) :: σ) s') noE s := by
  refine wpAny_Assign_Name (wpAny_noE (h s H) fun v s₁ q => ?_) hs
  obtain ⟨⟨e1, hv⟩, b, rfl, hb⟩ := q
  exact (H.ext e1).store (d := .at b d) ⟨rfl, hv⟩ hk (.inl hf) fun s₂ H₂ e _ _ _ => ⟨rfl, b, hb, (e1.wk0 H.big).trans (e.wk (fun i hi => place_own i hi) H.big), H₂⟩
end
end Mine
end
section
open PySem PySem.W PyProof.Rows PySem.Builtin
set_option Elab.async false
set_option maxRecDepth 100000
namespace Mine

abbrev popV (cs : List Int) (rs : List Row) (vs : List Value) : Nat → Value → Prop := fun j v => (remV (fun r => cs.any (· == r.1)) rs vs)[j]? = some v
abbrev popFin (cs : List Int) (rs : List Row) (vs : List Value) (aT dx : Addr) (m : Nat) : Shared → Prop := fun s => (∃ n', s.heap.get? aT = some (tagsO (remV (fun r => !cs.any (· == r.1)) rs vs) n' dx)) ∧ s.heap.get? dx = some (dictO m)
section
variable {w : World} {A : Around} {s : Shared} {aT : Addr}
theorem stm_expr {env : Env} {e : Expr} {pos : Pos} {R : Shared → Prop} (h : wpAny (md w) A (eval e env) (fun v s' => v = .none ∧ R s') noE s) (hi : interactive env = false := by rfl) (hs : swapsWith e none pos.line env = pure false := by rfl) :
    wpAny (md w) A (exec (.Expr e pos) env) (fun f s' => f = .next ∧ R s') noE s :=
  wpAny_Expr (wpAny_noE h fun v s' q => by obtain ⟨rfl, q⟩ := q; exact ⟨rfl, q⟩) hi hs
theorem pop_call {k : Nat} {rs : List Row} {cs : List Int} {vs0 : List Value} (hn : nTop ≤ aT) (hz : rs.length ≤ 100) (hc : cs.length ≤ 50) (rm : Room (k + 4) A) (B : Base w s) (hv : Vals s.heap [.at aT (tagsD rs), .list (cs.map .int)] vs0) :
    wpAny (md w) A (call (.ref 299) vs0) (fun x z => ∃ I g L vs n dx m, x = .ref I ∧ Ext [] s z ∧ z.heap.IsGen I g ∧ New s I ∧ New s L ∧ s.gens[g]? = none ∧ z.heap.get? aT = some (tagsO vs n dx) ∧ z.heap.get? dx = some (dictO m) ∧ Vals z.heap (rs.map tagD) vs ∧ (∀ b ∈ [L, aT], ∀ o, z.heap.get? b = some o → ∀ v, o.data ≠ .cell v) ∧ (∀ o, z.heap.get? L = some o → infra o = true) ∧
      ∀ A', Room (k + 4) A' → ∀ x px, Src true w A' (.Name x px) I z [L, aT] [g] ((rs.filter fun r => cs.any (· == r.1)).map tagD) (GenSt true w A' (.ret .none) I g z [L, aT] (rs.filter fun r => cs.any (· == r.1)).length (popV cs rs vs) (popFin cs rs vs aT dx m)) (popFin cs rs vs aT dx m) ∧
        ∀ T, (∀ t ∈ T, z.heap.get? t = none ∧ nTop ≤ t) → ∀ s', Ext [] z s' → GenSt true w A' (.ret .none) I g z [L, aT] (rs.filter fun r => cs.any (· == r.1)).length (popV cs rs vs) (popFin cs rs vs aT dx m) T 0 s') noE s := by
  refine wpAny_call ?_
  obtain ⟨v1, _, rfl, hv1, v2, _, rfl, hv2, hnil⟩ := hv
  rw [show _ = [] from hnil]
  refine gen_enter (k := k + 3) (ds := [.at aT (tagsD rs), .list (cs.map .int)]) (binds := [("self", v1), ("codes", v2)]) B (rm.mono (by omega)) (by k_is) (by kernel_rfl) (BindsTo.of_eq (by rfl)) ⟨v1, [v2], rfl, hv1, v2, [], rfl, hv2, rfl⟩ (fun L s₁ I g e hnew H hg hgs hgn hI hIL => ?_) (hnd := by show (["self", "codes"] : List Str).Nodup; decide)
  have hLn : nTop ≤ L := H.big L (List.mem_cons_self ..)
  obtain ⟨u, bSelf, hu1, hu2⟩ := H.vals "self" (.at aT (tagsD rs)) rfl
  subst hu1
  obtain ⟨_, vs, n, dx, m, q, gt, gd, hvs⟩ := hu2
  cases q
  obtain ⟨mm, hns, hself⟩ : ∃ mm, s₁.heap.Ns L mm ∧ mm "self" = some (.ref aT) := by
    rcases bSelf with ⟨_, mm, h, q⟩ | ⟨k | k, _⟩
    · exact ⟨mm, h, q⟩
    · cases k
    · cases k
  have gL : ∃ o, s₁.heap.get? L = some o ∧ infra o = true ∧ ∃ es ep, o.data = .dict es ep := by
    obtain ⟨o, es, ep, g', d', _, r'⟩ := hns
    exact ⟨o, g', own_infra (x := "self") (v := .ref aT) d' (by rw [r']; exact hself), es, ep, d'⟩
  obtain ⟨oL, gL, iL, esL, epL, dL⟩ := gL
  have hl := hvs.length
  rw [List.length_map] at hl
  refine ⟨I, g, L, vs, n, dx, m, rfl, e, hg, hI, ⟨hnew L (List.mem_cons_self ..), hLn⟩, hgn, gt, gd, hvs, fun b hb o q v => ?_, fun o q => by rw [gL] at q; cases q; exact iL, fun A' rm' x px => ⟨gen_src (.inr rfl) rm'.handled rm'.limit hI.2 ?_ hg (by simp) (fun T s' j d v hT ez hd hV => ?_), fun T hT s' e' => ?_⟩⟩
  · rcases List.mem_cons.mp hb with h | h
    · rw [h, gL] at q; cases q; rw [dL]; exact fun z => by cases z
    · rw [List.mem_singleton.mp h, gt] at q; cases q; exact fun z => by cases z
  · simp only [List.mem_cons, List.not_mem_nil, or_false, not_or]
    refine ⟨hIL, fun z => ?_⟩
    obtain ⟨o, _, _, ho, hc, _⟩ := hg
    rw [z, gt] at ho; cases ho; cases hc
  · have vz : Vals s'.heap ((rs.filter fun r => cs.any (· == r.1)).map tagD) (remV (fun r => cs.any (· == r.1)) rs vs) := by
      refine ez.vals H.base (fun a ha o q => ?_) (remV_vals hvs)
      refine Soft.apartL ?_ (flat_tags _)
      rcases List.mem_append.mp ha with h | h
      · rcases List.mem_cons.mp h with h | h
        · rw [h, gL] at q; cases q; exact .inl iL
        · rw [List.mem_singleton.mp h, gt] at q; cases q; exact .inr (.inr (.inl rfl))
      · exact .inl ((hT a h).2 o q)
    obtain ⟨v', h1, h2⟩ := vz.get hd
    rw [show (remV (fun r => cs.any (· == r.1)) rs vs)[j]? = some v from hV] at h1
    cases h1; exact h2
  refine ⟨fun q => ?_, IsGen_keep hg e' hI.2 (by simp), _, e'.gens _ _ hgs (by simp), fun s2 hTx B2 ez e2 => ⟨rfl, ?_⟩⟩
  · obtain ⟨o, _, _, ho, _⟩ := hg
    rw [(hT I q).1] at ho; cases ho
  have ez2 : ExtG [] [g] s₁ s2 := (((e'.anyG (G := [g])).wk0 e2.own).trans e2).drop (fun i hi => .inr (hT i hi).1) (by simp)
  have H2 := H.ext ez2
  refine seg_func ?_
  refine seg_stm (stm_assignF (evF_list (es := []) (ds := []) rfl) H2) fun s3 q3 => ?_
  obtain ⟨aR, nR, e3, H3⟩ := q3
  refine seg_stm (stm_assignF (evF_set rm'.handled rfl (ev_name rfl) hc) H3) fun s4 q4 => ?_
  obtain ⟨aS, nS, e4, H4⟩ := q4
  refine seg_execs_cons (seg_For' (wpAny_noE (ev_run (ev_name (d := .at aT (tagsD rs)) rfl) H4) fun xv s5 q5 => ?_))
  obtain ⟨e5, rfl, vs', hq⟩ := q5
  have e25 : Ext [L] s2 s5 := by
    have e3' : Ext [L] s2 s3 := e3
    have e4' : Ext [L] s3 s4 := e4
    exact (e3'.trans e4').trans (e5.wk0 e3'.own)
  have aL : aT ≠ L := fun z => by
    rw [z, gL] at gt; cases gt; cases iL
  have dxL : dx ≠ L := fun z => by
    rw [z, gL] at gd; cases gd; cases iL
  have aD : aT ≠ dx := fun z => by
    rw [z, gd] at gt; cases gt
  have gt2 := ez2.at0 H.base gt (by simp)
  have gd2 := ez2.at0 H.base gd (by simp)
  have gt5 := e25.at B2 gt2 (by simpa using aL) (by simp)
  have gd5 := e25.at B2 gd2 (by simpa using dxL) (by simp)
  have B5 := B2.ext e25
  refine pyIter_tags B5 gt5 gd5 ?_
  intro p
  have e6 : Ext [] s5 { s5 with heap := s5.heap.push { cls := .type "list_iterator", data := .fields #[.ref aT, .int 0 0] } } := Ext.push (t := s5.toks)
  have B6 := B5.ext e6
  have e3' : Ext [L] s2 s3 := e3
  have e4' : Ext [L] s3 s4 := e4
  have B3 := B2.ext e3'
  have B4 := B3.ext e4'
  have gt3 := e3'.at B2 gt2 (by simpa using aL) (by simp)
  have gd3 := e3'.at B2 gd2 (by simpa using dxL) (by simp)
  obtain ⟨uR, bR, huR, hR⟩ := H4.vals "remaining" (.at aR (.list [])) rfl
  subst huR
  obtain ⟨_, usR, jR, qR, gR4, hvR⟩ := hR
  cases qR
  rw [show usR = [] from hvR] at gR4
  obtain ⟨uS, bS, huS, hS⟩ := H4.vals "codes" (.at aS (.set false cs)) rfl
  subst huS
  obtain ⟨_, esS, epS, tS, qS, gS4, goodS⟩ := hS
  cases qS
  obtain ⟨uT, bT, huT, hT4⟩ := H4.vals "self" (.at aT (tagsD rs)) rfl
  subst huT
  obtain ⟨oL4, gL4⟩ : ∃ o, s4.heap.get? L = some o := by
    obtain ⟨mm, o, es, ep, g', _⟩ := H4.ns
    exact ⟨o, g'⟩
  have gR3 : ∃ o, s3.heap.get? aR = some o := by
    obtain ⟨u, _, hu, _, us, j, q, g3, _⟩ := H3.vals "remaining" (.at aR (.list [])) rfl
    subst hu; cases q
    exact ⟨_, g3⟩
  have gR5 := e5.at0 B4 gR4 (by simp)
  have gS5 := e5.at0 B4 gS4 (by simp)
  have gL5 : ∃ o, s5.heap.get? L = some o := ⟨oL4, e5.keep L oL4 gL4 (by simp) (nTop_PH hLn) (nTop_PL hLn)⟩
  have gL2 : s2.heap.get? L = some oL := ez2.keep L oL gL (by simp) (nTop_PH hLn) (nTop_PL hLn)
  have hIt : nTop ≤ s5.heap.objs.size := B5.big
  have neI : ∀ {b : Addr} {o : Obj}, s5.heap.get? b = some o → b ≠ s5.heap.objs.size := fun h => Nat.ne_of_lt (Heap.lt_size h)
  have neR : ∀ {b : Addr} {o : Obj}, s2.heap.get? b = some o → b ≠ aR := fun h q => by rw [q, nR.1] at h; cases h
  have neS : ∀ {b : Addr} {o : Obj}, s3.heap.get? b = some o → b ≠ aS := fun h q => by rw [q, nS.1] at h; cases h
  have gL3 : ∃ o, s3.heap.get? L = some o := by
    obtain ⟨mm, o, es, ep, g', _⟩ := H3.ns
    exact ⟨o, g'⟩
  have TL : ∀ t ∈ T, t ≠ L := fun t ht q => by rw [← q, (hT t ht).1] at gL; cases gL
  have Tk : ∀ t ∈ T, ∃ o, s3.heap.get? t = some o := fun t ht => by
    obtain ⟨o, h⟩ := hTx t ht
    exact ⟨o, e3'.keep t o h (by simpa using TL t ht) (nTop_PH (hT t ht).2) (nTop_PL (hT t ht).2)⟩
  have Tk5 : ∀ t ∈ T, ∃ o, s5.heap.get? t = some o := fun t ht => by
    obtain ⟨o, h⟩ := hTx t ht
    exact ⟨o, e25.keep t o h (by simpa using TL t ht) (nTop_PH (hT t ht).2) (nTop_PL (hT t ht).2)⟩
  have absent : ∀ {b : Addr}, nTop ≤ b → b ≠ L → s5.heap.get? b = none → s₁.heap.get? b = none := fun {b} hb hbL h => by
    cases q : s₁.heap.get? b with
    | none => rfl
    | some o =>
      have h2 := ez2.keep b o q (by simp) (nTop_PH hb) (nTop_PL hb)
      have h5 := e25.keep b o h2 (by simpa using hbL) (nTop_PH hb) (nTop_PL hb)
      rw [h] at h5; cases h5
  obtain ⟨oL3, hoL3⟩ := gL3
  obtain ⟨oR3, hoR3⟩ := gR3
  obtain ⟨oL5, hoL5⟩ := gL5
  have O : PopOwn w (envF _ _ L 299 _) _ s₁ T aT aR aS s5.heap.objs.size dx n m vs rs := {
    hz := H
    cells := rfl
    func := rfl
    infL := fun o q => by
      have q' : s₁.heap.get? L = some o := q
      rw [gL] at q'; cases q'; exact iL
    kSelf := rfl
    kRem := rfl
    kCodes := rfl
    kTag := rfl
    tok := fun t ht => ⟨(hT t ht).2, fun o q => by rw [(hT t ht).1] at q; cases q⟩
    tags := gt
    gdx := gd
    vals := hvs
    nt := fun b hb => by
      simp only [List.mem_cons, List.not_mem_nil, or_false] at hb
      rcases hb with q | q | q | q
      · rw [q]; exact hLn
      · rw [q]; exact hn
      · rw [q]; exact nR.2
      · rw [q]; exact hIt
    nT := fun b hb => by
      simp only [List.mem_cons, List.not_mem_nil, or_false] at hb
      rcases hb with q | q | q | q | q | q
      · rw [q]; exact fun ht => TL L ht rfl
      · rw [q]; exact fun ht => by rw [(hT aT ht).1] at gt; cases gt
      · rw [q]; exact fun ht => by obtain ⟨o, h⟩ := hTx aR ht; rw [nR.1] at h; cases h
      · rw [q]; exact fun ht => by obtain ⟨o, h⟩ := Tk aS ht; rw [nS.1] at h; cases h
      · rw [q]; exact fun ht => by obtain ⟨o, h⟩ := Tk5 _ ht; exact absurd (Heap.lt_size h) (Nat.lt_irrefl _)
      · rw [q]; exact fun ht => by rw [(hT dx ht).1] at gd; cases gd
    nd := by
      simp only [List.nodup_cons, List.mem_cons, List.not_mem_nil, or_false, not_or, List.nodup_nil, and_true, not_false_eq_true]
      exact ⟨⟨Ne.symm aL, neR gL2, neS hoL3, neI hoL5, Ne.symm dxL⟩, ⟨neR gt2, neS gt3, neI gt5, aD⟩, ⟨neS hoR3, neI gR5, Ne.symm (neR gd2)⟩, ⟨neI gS5, Ne.symm (neS gd3)⟩, Ne.symm (neI gd5)⟩
    newR := by
      cases q : s₁.heap.get? aR with
      | none => rfl
      | some o => have h2 := ez2.keep aR o q (by simp) (nTop_PH nR.2) (nTop_PL nR.2); rw [nR.1] at h2; cases h2
    newI := absent hIt (Ne.symm (neI hoL5)) (gone (Nat.le_refl _)) }
  have e2L : Ext [L] s2 { s5 with heap := s5.heap.push { cls := .type "list_iterator", data := .fields #[.ref aT, .int 0 0] } } := e25.trans (e6.wk0 e25.own)
  have e46 := e5.trans e6
  have J0 : InPop w (envF _ _ L 299 _) s₁ T g aT aR aS s5.heap.objs.size dx n m vs cs 0 [] { s5 with heap := s5.heap.push { cls := .type "list_iterator", data := .fields #[.ref aT, .int 0 0] } } := {
    base := B6
    ez := by
      have own' : ∀ i ∈ [L, aT] ++ T, nTop ≤ i := fun i hi => by
        rcases List.mem_append.mp hi with q | q
        · rcases List.mem_cons.mp q with q | q
          · rw [q]; exact hLn
          · rw [List.mem_singleton.mp q]; exact hn
        · exact (hT i q).2
      exact (ez2.wk0 own').trans (e2L.anyG.wk (fun i hi => by rw [List.mem_singleton.mp hi]; simp) own')
    bSelf := bT.ext H4.big e46
    bRem := bR.ext H4.big e46
    bCodes := bS.ext H4.big e46
    it := it_objs
    tags := Heap.get?_push_of_some _ gt5
    gdx := Heap.get?_push_of_some _ gd5
    set := ⟨esS, epS, tS, Heap.get?_push_of_some _ gS5, goodS⟩
    rem := ⟨jR, Heap.get?_push_of_some _ gR5⟩ }
  refine seg_pop (k := k) O hz rfl rfl rfl rfl rfl ((rm'.in1 (k := k + 3)).over (k := k + 2)) (fun s' v us j H' g' hu => ?_) (fun s₀ s7 j7 H7 v7 gt7 gd7 gr7 x7 => ?_) rs.length 0 s2 _ rfl (Nat.zero_le _) J0 ?_
  · exact stm_expr (raw_lappend nR.2 (ev_name rfl) (ev_name rfl) H' g' hu)
  · refine seg_stm (stm_expr (raw_clear hn (ev_name rfl) H7 v7 gt7 (by omega))) fun s8 q8 => ?_
    obtain ⟨e78, n8, gt8⟩ := q8
    have nd := O.nd
    simp only [List.nodup_cons, List.mem_cons, List.not_mem_nil, or_false, not_or, List.nodup_nil, and_true, not_false_eq_true] at nd
    obtain ⟨⟨l1, l2, l3, l4, l5⟩, ⟨t1, t2, t3, t4⟩, _⟩ := nd
    have gd8 := e78.at H7.base gd7 (by simpa using Ne.symm t4) (by simp)
    have gr8 := e78.at H7.base gr7 (by simpa using Ne.symm t1) (by simp)
    have H8 : Holds w _ [("remaining", .raw (.ref aR)), ("self", .raw (.ref aT))] s8 := H7.extS e78 (fun b hb o q => by
      rw [List.mem_singleton.mp hb, gt7] at q; cases q
      exact ⟨fun v q => (by cases q), fun es ep q => (by cases q)⟩) (fun y d q b hb o g => by
      simp only [List.lookup_cons, List.lookup_nil] at q
      split at q
      · cases q; exact .inr rfl
      · split at q
        · cases q; exact .inr rfl
        · cases q)
    have v8 : Val s8.heap (.tags []) (.ref aT) := ⟨aT, [], n8, dx, m, rfl, gt8, gd8, rfl⟩
    have hrl : (remV (fun r => !cs.any (· == r.1)) rs vs).length ≤ 100 := by
      rw [remV_length (by omega)]
      exact Nat.le_trans (List.length_filter_le ..) hz
    refine seg_stm (stm_expr (raw_extend hn (ev_name rfl) (ev_name rfl) H8 v8 gt8 gr8 (by simp; omega))) fun s9 q9 => ?_
    obtain ⟨e89, n9, gt9⟩ := q9
    have e79 : Ext [aT] s7 s9 := e78.trans e89
    have gd9 := e89.at H8.base gd8 (by simpa using Ne.symm t4) (by simp)
    have own4 : ∀ i ∈ [L, s5.heap.objs.size, aR, aT], nTop ≤ i := fun i hi => by
      simp only [List.mem_cons, List.not_mem_nil, or_false] at hi
      rcases hi with q | q | q | q
      · rw [q]; exact hLn
      · rw [q]; exact hIt
      · rw [q]; exact nR.2
      · rw [q]; exact hn
    have st : Step true s₁ [L, aT] [] T s₀ s9 := by
      refine ⟨[L, s5.heap.objs.size, aR, aT], (x7.ext.wk (fun i hi => by
        simp only [List.mem_cons, List.not_mem_nil, or_false] at hi ⊢
        rcases hi with q | q | q <;> simp [q]) own4).trans (e79.wk (fun i hi => by rw [List.mem_singleton.mp hi]; simp) own4), fun b hb => ?_⟩
      have hb' : b ∈ [L, s5.heap.objs.size, aR] ∨ b = aT := by
        simp only [List.mem_cons, List.not_mem_nil, or_false] at hb ⊢
        rcases hb with q | q | q | q <;> simp [q]
      rcases hb' with hb' | rfl
      · obtain ⟨W, _, hW⟩ := x7.step O
        refine ⟨O.nT b (by simp only [List.mem_cons, List.not_mem_nil, or_false] at hb' ⊢; rcases hb' with q | q | q <;> simp [q]), ?_, fun o h => .inr ⟨rfl, x7.soft b hb' o h⟩⟩
        simp only [List.mem_cons, List.not_mem_nil, or_false] at hb'
        rcases hb' with q | q | q
        · exact .inl (by rw [q]; simp)
        · exact .inr (by rw [q]; exact O.newI)
        · exact .inr (by rw [q]; exact O.newR)
      · refine ⟨O.nT _ (by simp), .inl (by simp), fun o h => .inr ⟨rfl, ?_⟩⟩
        have h7 := x7.ext.keep b o h (by simp only [List.mem_cons, List.not_mem_nil, or_false, not_or]; exact ⟨Ne.symm l1, t3, t1⟩) (nTop_PH hn) (nTop_PL hn)
        rw [h7] at gt7; cases gt7
        exact .inr (.inr (.inl rfl))
    have B9 : Base w s9 := H7.base.ext e79
    refine seg_end (.ok (.ret .none)) ⟨rfl, rfl, st, fun s' e' => ⟨⟨n9, ?_⟩, e'.at0 B9 gd9 (by simp)⟩⟩
    have := e'.at0 B9 gt9 (by simp)
    rwa [List.nil_append] at this
  · have own3 : ∀ i ∈ [L, s5.heap.objs.size, aR], nTop ≤ i := fun i hi => by
      simp only [List.mem_cons, List.not_mem_nil, or_false] at hi
      rcases hi with q | q | q
      · rw [q]; exact hLn
      · rw [q]; exact hIt
      · rw [q]; exact nR.2
    refine ⟨e2L.wk (fun i hi => by rw [List.mem_singleton.mp hi]; simp) own3, fun b hb o q => ?_⟩
    simp only [List.mem_cons, List.not_mem_nil, or_false] at hb
    rcases hb with h | h | h
    · rw [h, gL2] at q; cases q; exact .inl iL
    · rw [h] at q
      have := e25.keep _ o q (by simpa using Ne.symm (neI hoL5)) (nTop_PH hIt) (nTop_PL hIt)
      exact absurd (Heap.lt_size this) (Nat.lt_irrefl _)
    · rw [h, nR.1] at q; cases q
end
end Mine
end
section
open PySem PySem.W PyProof.Rows PySem.Builtin
set_option Elab.async false
set_option maxRecDepth 100000
namespace Mine
theorem m_pop (w : World) : TMeth w "pop_tags" (.ref 299) (.type "function") := ⟨by kernel_rfl, by kernel_rfl, rfl⟩
theorem k_keep_pop (P : Params) : keepIn (KB P) (.ref 299) = true := by kernel_rfl
def outRow : D → Option D
  | .tag c y => some (rowD (c, y))
  | _ => none
theorem outRow_map : ∀ (rs : List Row), (rs.map tagD).filterMap outRow = rs.map rowD
  | [] => rfl
  | r :: rs => by rw [List.map_cons, List.map_cons, ← outRow_map rs]; rfl
section
variable {w : World} {A : Around} {env : Env} {σ : List (Str × D)} {s : Shared} {aT : Addr}
/-- [(x.code, x.value) for x in o.pop_tags(e)] -/
theorem ev_pop {k : Nat} {elt o e : Expr} {apos cpos px pos : Pos} {x : Str} {scope : Scope} {rs : List Row} {cs : List Int} {pl : Sem Bool} (rm : Room (k + 4) A) (hn : nTop ≤ aT) (hz : rs.length ≤ 100) (hc : cs.length ≤ 50) (ho : Ev w A env σ o (.at aT (tagsD rs))) (h1 : Ev w A env σ e (.list (cs.map .int))) (H : Holds w env σ s)
    (elts : ∀ C r, Ev w A (envK scope C env) [(x, tagD r)] elt (rowD r))
    (he : eval (.Call (.Attribute o "pop_tags" apos) [e] [] cpos) env = (do
      let ov ← eval o env
      standAt apos.atName
      let (f, first) ← holding [ov] (getMethod ov "pop_tags" pl)
      callWith cpos f first (backTo cpos (starEach [e] env)) (backToKw cpos (keywordEach [] env))) := by rfl) (hst : noStar [e] = true := by rfl)
    (hx : scope.names.lookup x = some .local := by rfl) (ok : compOk scope env = true := by rfl) (kind : scope.kind = .function := by rfl)
    (hs : ∀ x, foldedSetIterable (.Call (.Attribute o "pop_tags" apos) [e] [] cpos) env x = pure x := by intro _; rfl) :
    wpAny (md w) A (eval (.ListComp elt [⟨.Name x px, .Call (.Attribute o "pop_tags" apos) [e] [] cpos, [], 0⟩] scope pos) env)
      (fun v s' => ∃ b, v = .ref b ∧ New s b ∧ Val s'.heap (.list ((rs.filter fun r => cs.any (· == r.1)).map rowD)) v ∧ Chg w (.ref cTags) aT (tagsD (rs.filter fun r => !cs.any (· == r.1))) s s') noE s := by
  rw [eval_ListComp]
  refine wpAny_comprehension_free (use := none) rfl hs (closureFor_eq ok) kind (comp_names ok) (eval_meth (wpAny_noE (ho s H) fun v s₁ q1 => tmeth (m_pop w) (H.base.ext q1.1) q1.2.2 ?_) he)
  obtain ⟨x1, rfl, hv⟩ := q1
  refine callW (callee_K (k_keep_pop _)) (evs1 h1) (H.ext x1) hst fun vs0 s₂ e2 H' hvs0 => ?_
  refine wpAny_noE (pop_call hn hz hc rm H'.base ⟨.ref aT, vs0, rfl, ⟨rfl, e2.val0 (H.base.ext x1) hv⟩, hvs0⟩) fun xv z q => ?_
  obtain ⟨I, g, L, vs, n, dx, m, rfl, e3, hg, hI, hL, hgn, gt, gd, hvs, hcell, hinf, ready⟩ := q
  refine wpAny_pyIter_gen hg ?_
  have ez : Ext [] s z := (x1.trans e2).trans e3
  have Bz := H.base.ext ez
  have Hz : Holds w env [] z := (H.ext ez).less fun y d q => by cases q
  obtain ⟨src, rdy⟩ := ready A rm x px
  have c : CompH w A env [] scope (.Name x px) [] elt ((rs.filter fun r => cs.any (· == r.1)).map tagD) (fun d => [(x, d)]) outRow true := by
    refine comp_name ok kind (fun y d q => by cases q) hx (by have := List.length_filter_le (fun r : Row => cs.any (· == r.1)) rs; simp; omega) (fun C d hd => ?_) (fun C d e hd he => ?_) (fun d hd e he => ?_)
    · obtain ⟨r, _, rfl⟩ := List.mem_map.mp hd
      exact rfl
    · obtain ⟨r, _, rfl⟩ := List.mem_map.mp hd
      cases he
      exact elts C r
    · obtain ⟨r, _, rfl⟩ := List.mem_map.mp hd
      cases he
      rfl
  have tn : ∀ t ∈ tempo scope z.heap.objs.size env, z.heap.get? t = none ∧ nTop ≤ t := fun t ht => ⟨gone (tempo_new t ht), Nat.le_trans Bz.big (tempo_new t ht)⟩
  refine comp_core (RR := fun acc C => compPost (md w) A noE none _ acc C) Hz c src hcell (fun a ha o g y d q => by cases q) (fun a ha => ?_) (fun s' e' => rdy _ tn s' e') ?_
  · rcases List.mem_cons.mp ha with q | q
    · rw [q]; exact hL.2
    · rw [List.mem_singleton.mp q]; exact hn
  intro s' vs' j _ hacc _ hv' k' fin
  obtain ⟨mm, hns⟩ := k'.ns
  refine ⟨mm, hns, fun h' hs' => ?_⟩
  obtain ⟨⟨n', gt'⟩, gd'⟩ := fin
  have hC : nTop ≤ z.heap.objs.size + 1 := Nat.le_trans Bz.big (Nat.le_succ _)
  have eC : Ext [z.heap.objs.size + 1] s' { s' with heap := h', toks := s'.toks } := by
    obtain ⟨oc, es, ep, gc, dc, _⟩ := hns
    exact Ext.set hC gc (by unfold free; rw [dc]) hs'
  have hCT : z.heap.objs.size + 1 ∈ tempo scope z.heap.objs.size env := List.mem_cons_of_mem _ (List.mem_cons_self ..)
  have eZ : ExtG ([L, aT] ++ tempo scope z.heap.objs.size env) [g] z { s' with heap := h', toks := s'.toks } := ext_T k'.ext eC fun i hi => .inl (by rw [List.mem_singleton.mp hi]; exact hCT)
  have fresh : ∀ a, z.heap.get? a = none → s.heap.get? a = none := fun a ha => H.base.fresh ez ha
  have e12 := x1.trans e2
  have hgs : s.gens[g]? = none := by
    cases q : s.gens[g]? with
    | none => rfl
    | some y => have := e12.gens _ _ q (by simp); rw [hgn] at this; cases this
  have eS : Ext [aT] s { s' with heap := h', toks := s'.toks } := by
    refine (((ez.anyG.wk0 eZ.own).trans eZ).drop (fun i hi => ?_) (fun i hi => by rw [List.mem_singleton.mp hi]; exact hn)).dropG fun i hi => by rw [List.mem_singleton.mp hi]; exact hgs
    rcases List.mem_append.mp hi with q | q
    · rcases List.mem_cons.mp q with q | q
      · exact .inr (by rw [q]; exact (H.base.newer e12 hL).1)
      · exact .inl q
    · exact .inr (fresh _ (gone (tempo_new i q)))
  have neC : ∀ {b : Addr} {o : Obj}, z.heap.get? b = some o → b ≠ z.heap.objs.size + 1 := fun h => Nat.ne_of_lt (Nat.lt_succ_of_lt (Heap.lt_size h))
  refine ⟨z.heap.objs.size, rfl, H.base.newer ez ⟨gone (Nat.le_refl _), Bz.big⟩, ?_, ⟨⟨s, Ext.refl s, eS, fun o g0 => ?_⟩, ?_⟩⟩
  · have hv2 := hv' h' hs'
    rw [outRow_map] at hv2
    exact ⟨_, vs', j, rfl, (hs'.2 _ (Nat.ne_of_lt (Nat.lt_succ_self _))).trans hacc, hv2⟩
  · have := ez.keep aT o g0 (by simp) (nTop_PH hn) (nTop_PL hn)
    rw [gt] at this; cases this
    exact ⟨rfl, (fun _ q => by cases q), (fun _ _ q => by cases q)⟩
  · refine ⟨aT, remV (fun r => !cs.any (· == r.1)) rs vs, n', dx, m, rfl, (hs'.2 _ (neC gt)).trans gt', (hs'.2 _ (neC gd)).trans gd', eZ.vals Bz (fun a ha o q => ?_) (remV_vals hvs)⟩
    refine Soft.apartL ?_ (flat_tags _)
    rcases List.mem_append.mp ha with h | h
    · rcases List.mem_cons.mp h with h | h
      · rw [h] at q; exact .inl (hinf o q)
      · rw [List.mem_singleton.mp h, gt] at q; cases q; exact .inr (.inr (.inl rfl))
    · rw [(tn a h).1] at q; cases q
end
end Mine
end
section
open PySem PySem.W PyProof.Rows PySem.Builtin
set_option Elab.async false
set_option maxRecDepth 100000
namespace Mine

abbrev lamFd (params : Arguments) (body : Expr) (scope : Scope) (cl : List (Str × Addr)) (pm cv ct : Value) : FuncData :=
  { name := "<lambda>", qualname := qL, params, body := .expr body, scope, globals := mainGlobals, closure := cl, defaults := .none, kwdefaults := .none, doc := .none, pyModule := pm, annotations := none, code := cv, closureTuple := ct, builtins := builtinsNs }
abbrev lamO (fd : FuncData) : Obj := ⟨.type "function", none, .func fd, #[]⟩
def CodeOk (h : Heap) (cv : Value) : Prop := ∃ c o vs t, cv = .ref c ∧ h.get? c = some o ∧ o.cls = .type "code" ∧ o.data = .fields vs ∧ vs[1]? = some (.str qL t)
section
variable {w : World} {A : Around} {env : Env} {σ : List (Str × D)} {s s' : Shared}
theorem CodeOk.ext {cv : Value} (x : CodeOk s.heap cv) (B : Base w s) (e : Ext [] s s') : CodeOk s'.heap cv := by
  obtain ⟨c, o, vs, t, h1, h2, h3, h4⟩ := x
  exact ⟨c, o, vs, t, h1, e.at0 B h2 (by rw [h3]; simp), h3, h4⟩
theorem fun_code {pos : Pos} {fl : Nat} {name : Str} {params : Arguments} {scope : Scope} {body : FuncBody} (hc : env.code = .ref 387) (B : Base w s) : wpAny (md w) A (functionCode env pos fl name qL params scope body) (fun cv s' => Ext [] s s' ∧ CodeOk s'.heap cv) noE s := by
  obtain ⟨ps, t⟩ := B.tL
  cases hf : codeAmong pos ps.toList with
  | some cv =>
    refine wpAny_functionCode_hit hc t.code hf ⟨Ext.refl s, ?_⟩
    obtain ⟨c', o, e1, e2, e3, vs, tt, e4, e5⟩ := t.codes pos cv hf
    exact ⟨c', o, vs, tt, e1, e2, e3, e4, e5⟩
  | none =>
    refine wpAny_functionCodeX hc t.code (B.tabL t) hf fun c' h' tk hx hsz hlt hcode hrec htab hnew => ?_
    obtain ⟨P', _, _, hcls⟩ := hnew
    refine ⟨Ext.tabL t hx (t.grown hx hcode hrec htab hcls), ?_⟩
    obtain ⟨c₂, o, vs, tk', f1, f2, f3, f4⟩ := hrec
    cases f1
    obtain ⟨⟨oc, vc, hoc, hcc, _⟩, _⟩ := hcls
    rw [f2] at hoc; cases hoc
    exact ⟨_, o, vs, tk', rfl, f2, hcc, f3, f4⟩
/-- lambda: .., made -/
theorem lam_make {params : Arguments} {body : Expr} {scope : Scope} {pos : Pos} (H : Holds w env σ s) (hcode : env.code = .ref 387) (hq : env.qual ++ ("<lambda>" : Str) = qL) (ok : compOk scope env = true) (hdef : defaultsOf params env = ([], []) := by rfl) :
    wpAny (md w) A (eval (.Lambda params body scope pos) env) (fun v s' => ∃ f pm cv ct, v = .ref f ∧ New s f ∧ Ext [] s s' ∧ s'.heap.get? f = some (lamO (lamFd params body scope (clos env.cells scope.names []) pm cv ct)) ∧ CodeOk s'.heap cv) noE s := by
  rw [arm_eval_Lambda, hdef]
  show wpAny _ A (do let dv ← evalAll []; let kdv ← holding dv (evalAllOpt []); makeFunction "<lambda>" (env.qual ++ "<lambda>") params (.expr body) scope env dv kdv [] pos pos.line) _ _ s
  refine wpAny_bind (wpAny_pure (wpAny_bind (wpAny_holding (wpAny_pure ?_))))
  rw [hq, makeFunction_eq]
  simp only [List.zip_nil_right, List.filterMap_nil, List.isEmpty_nil, if_true, pure_bind]
  unfold makeTail
  rw [closureFor_eq ok, H.gl]
  refine wpAny_bind (wpAny_pure ?_)
  have e0 : Ext [] s s := Ext.refl s
  have e0' : ∀ o, Ext [] s { s with heap := s.heap.push o } := fun o => Ext.push (t := s.toks)
  obtain ⟨nm, hnm⟩ := k_name w.params
  have fin : ∀ {s1 s2 : Shared} {cv ctv : Value}, Ext [] s s1 → Ext [] s1 s2 → CodeOk s2.heap cv → wpAny (md w) A (newObj (.type "function") (.func (lamFd params body scope (clos env.cells scope.names []) nm cv ctv))) (fun v s' => ∃ f pm cv ct, v = .ref f ∧ New s f ∧ Ext [] s s' ∧ s'.heap.get? f = some (lamO (lamFd params body scope (clos env.cells scope.names []) pm cv ct)) ∧ CodeOk s'.heap cv) noE s2 := fun {s1 s2 cv ctv} e1 e2 c2 => by
    have B2 := (H.base.ext e1).ext e2
    refine wpAny_newObj_type ?_ (by size_fits)
    have e3 : ∀ o, Ext [] s2 { s2 with heap := s2.heap.push o } := fun o => Ext.push (t := s2.toks)
    exact ⟨_, _, cv, ctv, rfl, H.base.newer (e1.trans e2) ⟨gone (Nat.le_refl _), B2.big⟩, (e1.trans e2).trans (e3 _), Heap.get?_push_size _ rfl, c2.ext B2 (e3 _)⟩
  cases hcl : (clos env.cells scope.names []).isEmpty with
  | true =>
    simp only [if_true]
    refine wpAny_bind (wpAny_pure ?_)
    refine wpAny_bind (wpAny_noE (fun_code hcode (H.base.ext e0)) fun cv s2 q2 => ?_)
    obtain ⟨e2, c2⟩ := q2
    have B2 := (H.base.ext e0).ext e2
    refine wpAny_bind (bi_for B2 ?_)
    refine wpAny_bind ((looks_nsIn B2.KB hnm).here ?_)
    exact wpAny_bind (wpAny_pure (fin e0 e2 c2))
  | false =>
    simp only [Bool.false_eq_true, if_false]
    refine wpAny_bind (wpAny_newTextTuple ?_)
    refine wpAny_bind (wpAny_noE (fun_code hcode (H.base.ext (e0' _))) fun cv s2 q2 => ?_)
    obtain ⟨e2, c2⟩ := q2
    have B2 := (H.base.ext (e0' _)).ext e2
    refine wpAny_bind (bi_for B2 ?_)
    refine wpAny_bind ((looks_nsIn B2.KB hnm).here ?_)
    exact wpAny_bind (wpAny_pure (fin (e0' _) e2 c2))
end
end Mine
end
section
open PySem PySem.W PyProof.Rows PySem.Builtin
set_option Elab.async false
set_option maxRecDepth 100000
namespace Mine

/-- a lambda's block -/
abbrev envL (scope : Scope) (L f : Addr) (cl : List (Str × Addr)) (cv : Value) : Env := newEnv scope L mainGlobals cl (qL ++ ".<locals>.") (some f) cv none builtinsNs
section
variable {w : World} {A : Around} {env : Env} {σ σ' : List (Str × D)} {s s₀ s' s1 : Shared} {l : List Env} {k : Nat}

theorem code_expr {e : Expr} {env : Env} {R : Result → Shared → Prop}
    (h : wpAny (md w) (A.deeper env) (eval e env) (fun v s' => R (.ok (.ret v)) s')
      (fun e' s' => wpAny (md w) (A.deeper env) (leaving env e') (fun _ s'' => R (.error e') s'') (fun e'' s'' => R (.error e'') s'') s') s) :
    codeAny (md w) A (.expr e env) R s := by
  refine codeAny_of_tree ?_
  show wpAny _ (A.deeper env) (do point; ret (← (eval e env).onRaise (leaving env))) _ _ s
  exact wpAny_bind (wpAny_point (wpAny_bind (wpAny_onRaise (wpAny_mono h (fun v s' h' => wpAny_pure h') fun _ _ h' => h'))))

theorem newEnv0 {M : Model} {E : Value → Shared → Prop} {scope : Scope} {globals : Addr} {closure : List (Str × Addr)} {qual : Str} {func : Option Addr} {code : Value} {builtins : Addr} {Q : Env → Shared → Prop} (hc : ∀ x ∈ scope.names, x.2 ≠ .cell)
    (hQ : Q (newEnv scope s.heap.objs.size globals closure qual func code none builtins) { s with heap := s.heap.push { cls := .type "frame", data := .dict #[] } }) :
    wpAny M A (newFunctionEnv scope globals closure [] qual func code none builtins) Q E s := by
  simp only [newFunctionEnv, Option.isSome_none, Bool.false_eq_true, if_false]
  refine wpAny_bind (wpAny_alloc ?_)
  rw [forIn_yield_id closure (fun x hx c => by
      obtain ⟨name, kind⟩ := x
      have : (kind == NameKind.cell) = false := by simpa using hc _ hx
      simp only [this, Bool.false_eq_true, if_false])]
  refine wpAny_bind (wpAny_pure (wpAny_bind ?_))
  rw [List.forIn_nil]
  exact wpAny_pure (wpAny_pure hQ)
theorem lam_enter {f : Addr} {params : Arguments} {body : Expr} {scope : Scope} {cl : List (Str × Addr)} {pm cv ct : Value} {R : Result → Shared → Prop} (B : Base w s) (r : Room (k + 1) A) (hf : s.heap.get? f = some (lamO (lamFd params body scope cl pm cv ct))) (hc : CodeOk s.heap cv)
    (hbind : bindArgs (lamFd params body scope cl pm cv ct) ⟨[], []⟩ = pure []) (hcell : ∀ x ∈ scope.names, x.2 ≠ .cell) (hco : scope.isCoroutine = false) (hgen : scope.isGenerator = false)
    (h : ∀ L s₀, Ext [] s s₀ → New s L → s₀.heap.get? L = some ⟨.type "frame", none, .dict #[] 0, #[]⟩ → Room k (A.deeper (envL scope L f cl cv)) →
      wpAny (md w) (A.deeper (envL scope L f cl cv)) (eval body (envL scope L f cl cv)) (fun v s' => R (.ok (.ret v)) s')
        (fun e' s' => wpAny (md w) (A.deeper (envL scope L f cl cv)) (leaving (envL scope L f cl cv) e') (fun _ s'' => R (.error e') s'') (fun e'' s'' => R (.error e'') s'') s') s₀) :
    codeAny (md w) A (.call (.ref f) ⟨[], []⟩) R s := by
  refine codeAny_of_tree ?_
  show wpAny _ A.in1 (callAny (.ref f) ⟨[], []⟩) _ _ s
  simp only [callAny]
  refine wpAny_bind (wpAny_load hf ?_)
  obtain ⟨c, oc, vs, tq, rfl, hoc, _, hdc, hq⟩ := hc
  simp only [callFunction, hco, hgen]
  refine wpAny_bind (m := field (.ref c) 1) (wpAny_field hoc hdc hq (wpAny_bind (wpAny_pure ?_)))
  rw [hbind]
  refine wpAny_bind (wpAny_pure ?_)
  refine wpAny_bind (newEnv0 hcell ?_)
  have e0 : ∀ o, Ext [] s { s with heap := s.heap.push o } := fun o => Ext.push (t := s.toks)
  refine wpAny_bind (wpAny_enterFrame ((B.ext (e0 _)).nolimit) r.limit ?_)
  exact wpAny_pure ⟨rfl, code_expr (h s.heap.objs.size _ (e0 _) ⟨gone (Nat.le_refl _), B.big⟩ (Heap.get?_push_size _ rfl) (r.deeper _))⟩

/-- a lambda's names -/
theorem holds_lam {scope : Scope} {L f : Addr} {cv : Value} (H : Holds w env σ s₀) (ok : compOk scope env = true) (hk : scope.kind = .function) (hL : nTop ≤ L) (gL : s₀.heap.get? L = some ⟨.type "frame", none, .dict #[] 0, #[]⟩)
    (hσ : ∀ y d, σ'.lookup y = some d → scope.names.lookup y = some .free ∧ σ.lookup y = some d) :
    Holds w (envL scope L f (clos env.cells scope.names []) cv) σ' s₀ := by
  refine ⟨H.base, fun i hi => ?_, hk, rfl, rfl, ⟨fun _ => none, _, #[], 0, gL, rfl, (by intro e he; simp at he), fun _ => rfl⟩, fun n c hc => H.cells n c (clos_sub ok n c (mem_of_lookup hc)), fun o g => ?_, fun x y c h1 h2 => H.inj x y c (clos_sub ok x c (mem_of_lookup h1)) (clos_sub ok y c (mem_of_lookup h2)), fun y d q => ?_⟩
  · rcases List.mem_cons.mp hi with q | q
    · rw [q]; exact hL
    · obtain ⟨p, hp, rfl⟩ := List.mem_map.mp q
      exact H.big _ (List.mem_cons_of_mem _ (List.mem_map.mpr ⟨_, mem_of_lookup (clos_sub ok p.1 p.2 hp), rfl⟩))
  · have : s₀.heap.get? L = some o := g
    rw [gL] at this; cases this
    exact .inr (.inl rfl)
  · obtain ⟨hf, hd⟩ := hσ y d q
    obtain ⟨v, b, hv⟩ := H.vals y d hd
    obtain ⟨k, hc⟩ := clos_free ok hf
    refine ⟨v, ?_, hv⟩
    rcases b with ⟨kl, _⟩ | ⟨_, c, h1, n1, q1⟩
    · rcases k with k | k <;> rw [kl] at k <;> cases k
    · exact .inr ⟨.inr hf, c, hc.trans h1, n1, q1⟩

/-- a block left by an exception from within -/
theorem leave_on {e : Value} {Q : Unit → Shared → Prop} {E : Value → Shared → Prop} (K : Stk A l s) (e0 : Ext [] s s1) (hnew : s.heap.get? env.locals = none) (hf : env.frame = some env.locals) (K1 : Stk (A.deeper env) (env :: l) s1) (x : Raised (env :: l) s1 s' e)
    (h : ∀ s'', Raised l s s'' e → Q () s'') : wpAny (md w) (A.deeper env) (leaving env e) Q E s' := by
  have hbig : ∀ b ∈ frs l, nTop ≤ b := fun b hb => (K.mem hb).1
  have fe : frs (env :: l) = env.locals :: frs l := by simp [frs, hf]
  have nf : ∀ b ∈ frs l, ∀ o, s1.heap.get? b = some o → ∀ vs, o.data ≠ .fields vs := fun b hb o g vs q => by
    obtain ⟨_, o', g', ⟨es, ep, d⟩, _⟩ := K1.mem (by rw [fe]; exact List.mem_cons_of_mem _ hb)
    rw [g] at g'; cases g'; rw [d] at q; cases q
  obtain ⟨ea, a0, Bs, rfl, fl, un⟩ := x.fly
  refine wpAny_leaves_onW K1.eq hf fl fun h'' x1 x4 => ?_
  refine h _ ⟨⟨ea, a0, Bs, rfl, x1, ⟨fun b o g n1 n2 n3 => ?_, fun ps t => ?_, fun ps t => ?_⟩⟩, fun b hb o g => ?_, hbig, fun i y q => x.gens i y (e0.gens i y q (by simp)), fun z => x.bare (e0.bare z), x.os.trans e0.os⟩
  · refine un.keep b o (e0.keep b o g (by simp) n2 n3) (fun m => ?_) n2 n3
    rw [fe] at m
    rcases List.mem_cons.mp m with q | q
    · rw [q, hnew] at g; cases g
    · exact n1 q
  · obtain ⟨m, t'⟩ := e0.tH ps t
    obtain ⟨m', t''⟩ := un.tH _ t'
    exact ⟨m ++ m', by rw [← Array.append_assoc]; exact t''⟩
  · obtain ⟨m, t'⟩ := e0.tL ps t
    obtain ⟨m', t''⟩ := un.tL _ t'
    exact ⟨m ++ m', by rw [← Array.append_assoc]; exact t''⟩
  · have g1 := e0.keep b o g (by simp) (nTop_PH (hbig b hb)) (nTop_PL (hbig b hb))
    obtain ⟨sl, g2⟩ := x.slots b (by rw [fe]; exact List.mem_cons_of_mem _ hb) o g1
    obtain ⟨sl2, g3⟩ := x4 b _ g2 (nf b hb o g1)
    exact ⟨sl2, g3⟩
end
end Mine
end
section
open PySem PySem.W PyProof.Rows PySem.Builtin
set_option Elab.async false
set_option maxRecDepth 100000
namespace Mine
theorem k_g_first (P : Params) : nsIn (KB P) mainGlobals "_law_first" = some (some (.ref 383)) := by kernel_rfl
theorem k_keep_first (P : Params) : keepIn (KB P) (.ref 383) = true := by kernel_rfl
section
variable {w : World} {A : Around} {env : Env} {σ σ' : List (Str × D)} {s s₀ s' s1 : Shared} {l : List Env} {k : Nat} {f : Addr} {fd : FuncData} {S : List Addr} {d : D} {K : Shared → Prop}

/-- what a call of a made lambda comes to -/
def CallsOk (w : World) (k : Nat) (f : Addr) (s : Shared) (S : List Addr) (d : D) (K : Shared → Prop) : Prop :=
  ∀ A' s', Room k A' → Ext [] s s' → codeAny (md w) A' (.call (.ref f) ⟨[], []⟩) (fun r s'' => ∃ u, r = .ok (.ret u) ∧ Val s''.heap d u ∧ Ext S s' s'' ∧ K s'') s'
def CallsX (w : World) (k : Nat) (f : Addr) (s : Shared) : Prop :=
  ∀ A' l' s', Room k A' → Stk A' l' s' → Ext [] s s' → codeAny (md w) A' (.call (.ref f) ⟨[], []⟩) (fun r s'' => ∃ e, r = .error e ∧ Raised l' s' s'' e) s'

theorem lam_ok {params : Arguments} {body : Expr} {scope : Scope} {pm cv ct : Value} (H : Holds w env σ s) (ok : compOk scope env = true) (hk : scope.kind = .function) (hco : scope.isCoroutine = false) (hgen : scope.isGenerator = false) (hcell : ∀ x ∈ scope.names, x.2 ≠ .cell)
    (hf : s.heap.get? f = some (lamO (lamFd params body scope (clos env.cells scope.names []) pm cv ct))) (hc : CodeOk s.heap cv) (hbind : bindArgs (lamFd params body scope (clos env.cells scope.names []) pm cv ct) ⟨[], []⟩ = pure [])
    (hσ : ∀ y d, σ'.lookup y = some d → scope.names.lookup y = some .free ∧ σ.lookup y = some d)
    (h : ∀ A' L s0, Room k A' → Holds w (envL scope L f (clos env.cells scope.names []) cv) σ' s0 → wpAny (md w) A' (eval body (envL scope L f (clos env.cells scope.names []) cv)) (fun v s'' => Val s''.heap d v ∧ Ext S s0 s'' ∧ K s'') noE s0) : CallsOk w (k + 1) f s S d K := by
  intro A' s' r e
  refine lam_enter (H.base.ext e) r (e.at0 H.base hf (by simp)) (hc.ext H.base e) hbind hcell hco hgen fun L s₀ e0 hL gL r' => ?_
  refine wpAny_mono (h _ L s₀ r' (holds_lam (H.ext (e.trans e0)) ok hk hL.2 gL hσ)) (fun v s'' q => ?_) fun _ _ q => q.elim
  exact ⟨v, rfl, q.1, (e0.wk0 q.2.1.own).trans q.2.1, q.2.2⟩
theorem lam_raise {params : Arguments} {body : Expr} {scope : Scope} {pm cv ct : Value} (H : Holds w env σ s) (ok : compOk scope env = true) (hk : scope.kind = .function) (hco : scope.isCoroutine = false) (hgen : scope.isGenerator = false) (hcell : ∀ x ∈ scope.names, x.2 ≠ .cell)
    (hf : s.heap.get? f = some (lamO (lamFd params body scope (clos env.cells scope.names []) pm cv ct))) (hc : CodeOk s.heap cv) (hbind : bindArgs (lamFd params body scope (clos env.cells scope.names []) pm cv ct) ⟨[], []⟩ = pure [])
    (hσ : ∀ y d, σ'.lookup y = some d → scope.names.lookup y = some .free ∧ σ.lookup y = some d)
    (h : ∀ A' L l' s0, Room k A' → Stk A' (envL scope L f (clos env.cells scope.names []) cv :: l') s0 → Holds w (envL scope L f (clos env.cells scope.names []) cv) σ' s0 →
      wpAny (md w) A' (eval body (envL scope L f (clos env.cells scope.names []) cv)) (fun _ _ => False) (fun e s'' => ∃ s₁, Ext [] s0 s₁ ∧ Raised (envL scope L f (clos env.cells scope.names []) cv :: l') s₁ s'' e) s0) : CallsX w (k + 1) f s := by
  intro A' l' s' r K' e
  refine lam_enter (H.base.ext e) r (e.at0 H.base hf (by simp)) (hc.ext H.base e) hbind hcell hco hgen fun L s₀ e0 hL gL r' => ?_
  have H0 := holds_lam (f := f) (cv := cv) (H.ext (e.trans e0)) ok hk hL.2 gL hσ
  have K0 := (K'.ext e0 (by simp)).push H0 rfl rfl
  refine wpAny_mono (h _ L l' s₀ r' K0 H0) (fun _ _ q => q.elim) fun x s'' q => ?_
  obtain ⟨s₁, e1, z⟩ := q
  exact leave_on K' (e0.trans e1) hL.1 rfl (K0.ext e1 (by simp)) z fun s3 z3 => ⟨x, rfl, z3⟩

theorem call_lam {x : Str} {px pos : Pos} {E : Value → Shared → Prop} {Q : Value → Shared → Prop} (H : Holds w env σ s) (hx : σ.lookup x = some (.raw (.ref f))) (hf : s.heap.get? f = some (lamO fd)) (hcall : ∀ s', Ext [] s s' → codeAny (md w) A (.call (.ref f) ⟨[], []⟩) (fun r s' => match r with | .ok (.ret v) => Q v s' | .ok _ => False | .error e => E e s') s')
    (hd : (x == ("__debug__" : Str)) = false := by decide) (hn : (x == ("__classdict__" : Str)) = false := by decide) :
    wpAny (md w) A (eval (.Call (.Name x px) [] [] pos) env) Q E s := by
  rw [eval_Call_Name]
  refine wpAny_bind (wpAny_noE (ev_run (ev_name hx hd hn) H) fun v s1 q => ?_)
  obtain ⟨e1, rfl⟩ := q
  have g1 := e1.at0 H.base hf (by simp)
  refine callWith_of (P := fun h => h.get? f = some (lamO fd)) (by rfl) (fun h g => ⟨.frame, .inl rfl, (Looks.ld (part := none) g).andThen .now⟩) ?_
  exact evalArgs_nil3 ⟨g1, wpAny_call (hcall s1 e1)⟩
end
end Mine
end
section
open PySem PySem.W PyProof.Rows PySem.Builtin
set_option Elab.async false
set_option maxRecDepth 100000
namespace Mine
section
variable {w : World} {A : Around} {env : Env} {σ σ' : List (Str × D)} {s s₀ s' s1 : Shared} {l : List Env} {k : Nat} {f : Addr} {fd : FuncData} {S : List Addr} {d : D} {K : Shared → Prop}

theorem first_ok (hS : ∀ a ∈ S, nTop ≤ a) (hK : ∀ a b, Base w a → K a → Ext [] a b → K b) (B : Base w s) (r : Room (k + 1) A) (hf : s.heap.get? f = some (lamO fd)) (hc : CallsOk w k f s S d K) :
    codeAny (md w) A (.call (.ref 383) ⟨[.ref f], []⟩) (fun r s'' => ∃ v, r = .ok (.ret v) ∧ Val s''.heap (.list [d]) v ∧ Ext S s s'' ∧ K s'') s := by
  refine fn_enter (k := k) (ds := [.raw (.ref f)]) (binds := [("call", .ref f)]) B r (by k_is) (by kernel_rfl) (BindsTo.of_eq (by rfl)) ⟨.ref f, [], rfl, rfl, rfl⟩ (fun L s₀ e hnew H r' => ?_) (hnd := by show (["call"] : List Str).Nodup; decide)
  have hf0 := e.at0 B hf (by simp)
  refine wpAny_execs_cons (wpAny_Try_except (wpAny_execs_cons (wpAny_Return_some (wpAny_List (wpAny_items_cons (call_lam H rfl hf0 fun s1 e1 => codeAny_mono (hc _ s1 r' (e.trans e1)) fun rr s2 q => ?_) rfl)))))
  obtain ⟨u, rfl, hv, e2, hk⟩ := q
  refine wpAny_items_nil ⟨by show 1 ≤ 16777216; decide, ?_⟩
  have B2 := (B.ext (e.trans e1)).ext e2
  have e3 : Ext [] s2 { s2 with heap := s2.heap.push { cls := .type "list", data := .seq [u].toArray } } := Ext.push (t := s2.toks)
  exact ⟨_, rfl, ⟨_, [u], 0, rfl, Heap.get?_push_size _ rfl, u, [], rfl, e3.val0 B2 hv, rfl⟩, (((e.trans e1).wk0 hS).trans e2).trans (e3.wk0 hS), hK _ _ B2 hk e3⟩
theorem first_none (B : Base w s) (K : Stk A l s) (r : Room (k + 1) A) (hf : s.heap.get? f = some (lamO fd)) (hc : CallsX w k f s) :
    codeAny (md w) A (.call (.ref 383) ⟨[.ref f], []⟩) (fun r s'' => r = .ok (.ret .none) ∧ Upto l s s'') s := by
  refine fn_enter (k := k) (ds := [.raw (.ref f)]) (binds := [("call", .ref f)]) B r (by k_is) (by kernel_rfl) (BindsTo.of_eq (by rfl)) ⟨.ref f, [], rfl, rfl, rfl⟩ (fun L s₀ e hnew H r' => ?_) (hnd := by show (["call"] : List Str).Nodup; decide)
  have hf0 := e.at0 B hf (by simp)
  have K0 : Stk A l s₀ := K.ext e (by simp)
  have K1 := K0.push H rfl rfl
  refine wpAny_execs_cons (wpAny_Try_except (wpAny_execs_cons (wpAny_Return_some (wpAny_List (wpAny_items_cons (call_lam H rfl hf0 fun s1 e1 => codeAny_mono (hc _ _ s1 r' (K1.ext e1 (by simp)) (e.trans e1)) fun rr s2 q => ?_) rfl)))))
  obtain ⟨x, rfl, z⟩ := q
  have H1 := H.ext e1
  refine caught H1 (K1.ext e1 (by simp)) z rfl rfl rfl fun s3 h up H3 => ?_
  exact wpAny_execs_cons (wpAny_Return_some (wpAny_noE (ev_run ev_none H3) fun v s4 q4 => ⟨by rw [q4.2], (upto_drop K e hnew rfl (e1.wk0 H.big) up).trans (Upto.of_ext (K.upto (upto_drop K e hnew rfl (e1.wk0 H.big) up)) q4.1)⟩))

/-- _law_first(lambda: ..) -/
theorem ev_first_ok {px pos lpos : Pos} {params : Arguments} {body : Expr} {scope : Scope} (hS : ∀ a ∈ S, nTop ≤ a) (hK : ∀ a b, Base w a → K a → Ext [] a b → K b) (r : Room (k + 2) A) (H : Holds w env σ s) (hx : env.kindOf "_law_first" = some .globalImplicit) (hcode : env.code = .ref 387) (hq : env.qual ++ ("<lambda>" : Str) = qL) (ok : compOk scope env = true)
    (hk : scope.kind = .function) (hco : scope.isCoroutine = false) (hgen : scope.isGenerator = false) (hcell : ∀ x ∈ scope.names, x.2 ≠ .cell) (hdef : defaultsOf params env = ([], [])) (hbind : ∀ cl pm cv ct, bindArgs (lamFd params body scope cl pm cv ct) ⟨[], []⟩ = pure [])
    (hσ : ∀ y d, σ'.lookup y = some d → scope.names.lookup y = some .free ∧ σ.lookup y = some d)
    (h : ∀ A' L f cv s0, Room k A' → Holds w (envL scope L f (clos env.cells scope.names []) cv) σ' s0 → wpAny (md w) A' (eval body (envL scope L f (clos env.cells scope.names []) cv)) (fun v s'' => Val s''.heap d v ∧ Ext S s0 s'' ∧ K s'') noE s0) :
    wpAny (md w) A (eval (.Call (.Name "_law_first" px) [.Lambda params body scope lpos] [] pos) env) (fun v s' => Val s'.heap (.list [d]) v ∧ Ext S s s' ∧ K s') noE s := by
  refine callName1 (gl_main hx (k_g_first _)) (callee_K (k_keep_first _)) H (lam_make H hcode hq ok hdef) fun v s1 q => ?_
  obtain ⟨f, pm, cv, ct, rfl, hn, e, hf, hc⟩ := q
  have H1 := H.ext e
  refine ⟨H1.base, wpAny_call (codeAny_mono (first_ok hS hK H1.base r hf (lam_ok H1 ok hk hco hgen hcell hf hc (hbind _ _ _ _) hσ fun A' L s0 r' H0 => h A' L f cv s0 r' H0)) fun rr s2 q => ?_)⟩
  obtain ⟨v, rfl, hv, e2, hk⟩ := q
  exact ⟨hv, (e.wk0 hS).trans e2, hk⟩
theorem ev_first_none {px pos lpos : Pos} {params : Arguments} {body : Expr} {scope : Scope} (r : Room (k + 2) A) (H : Holds w env σ s) (KS : Stk A l s) (hx : env.kindOf "_law_first" = some .globalImplicit) (hcode : env.code = .ref 387) (hq : env.qual ++ ("<lambda>" : Str) = qL) (ok : compOk scope env = true)
    (hk : scope.kind = .function) (hco : scope.isCoroutine = false) (hgen : scope.isGenerator = false) (hcell : ∀ x ∈ scope.names, x.2 ≠ .cell) (hdef : defaultsOf params env = ([], [])) (hbind : ∀ cl pm cv ct, bindArgs (lamFd params body scope cl pm cv ct) ⟨[], []⟩ = pure [])
    (hσ : ∀ y d, σ'.lookup y = some d → scope.names.lookup y = some .free ∧ σ.lookup y = some d)
    (h : ∀ A' L f cv l' s0, Room k A' → Stk A' (envL scope L f (clos env.cells scope.names []) cv :: l') s0 → Holds w (envL scope L f (clos env.cells scope.names []) cv) σ' s0 →
      wpAny (md w) A' (eval body (envL scope L f (clos env.cells scope.names []) cv)) (fun _ _ => False) (fun e s'' => ∃ s₁, Ext [] s0 s₁ ∧ Raised (envL scope L f (clos env.cells scope.names []) cv :: l') s₁ s'' e) s0) :
    wpAny (md w) A (eval (.Call (.Name "_law_first" px) [.Lambda params body scope lpos] [] pos) env) (fun v s' => v = .none ∧ Upto l s s') noE s := by
  refine callName1 (gl_main hx (k_g_first _)) (callee_K (k_keep_first _)) H (lam_make H hcode hq ok hdef) fun v s1 q => ?_
  obtain ⟨f, pm, cv, ct, rfl, hn, e, hf, hc⟩ := q
  have H1 := H.ext e
  refine ⟨H1.base, wpAny_call (codeAny_mono (first_none H1.base (KS.ext e (by simp)) r hf (lam_raise H1 ok hk hco hgen hcell hf hc (hbind _ _ _ _) hσ fun A' L l' s0 r' K' H0 => h A' L f cv l' s0 r' K' H0)) fun rr s2 q => ?_)⟩
  obtain ⟨rfl, up⟩ := q
  exact ⟨rfl, (Upto.of_ext KS e).trans up⟩
end
end Mine
end
section
open PySem PySem.W PyProof.Rows PySem.Builtin
set_option Elab.async false
set_option maxRecDepth 100000
namespace Mine

section
variable {w : World} {A : Around} {env : Env} {σ : List (Str × D)} {s s' : Shared} {l : List Env}

/-- a name that may be stored to -/
abbrev Nm (env : Env) (x : Str) : Prop := env.kindOf x = some .local ∨ (env.kindOf x = some .cell ∧ (env.cells.lookup x).isSome = true)
theorem place_val {x : Str} {d : D} {v : Value} (H : Holds w env σ s) (hf : env.func.isSome = true) (hk : Nm env x) (e : Ext (place env x) s s') (hv : Val s.heap d v) : Val s'.heap d v := by
  refine e.val H.base (fun a ha o g => ?_) hv
  unfold place at ha
  rcases hk with k | ⟨k, c⟩
  · rw [k] at ha
    rw [List.mem_singleton.mp ha] at g
    rcases H.lone o g with q | q | ⟨_, q, _⟩
    · exact .inl q
    · exact .inr (by rw [q]; exact bears_frame _)
    · rw [q] at hf; cases hf
  · obtain ⟨c, hc⟩ := Option.isSome_iff_exists.mp c
    simp only [k, hc] at ha
    obtain ⟨v', o', g', d'⟩ := H.cells x c hc
    have hac : a = c := by simpa using ha
    rw [hac] at g
    rw [g] at g'; cases g'
    exact .inl (by unfold infra; rw [d'])
theorem store1 {x : Str} {p : Pos} {d : D} {v : Value} (H : Holds w env σ s) (hv : Val s.heap d v) (hk : Nm env x) (hf : env.func.isSome = true) :
    wpAny (md w) A (assign (.Name x p) env v) (fun _ s' => Holds w env ((x, d) :: σ) s' ∧ Ext (place env x) s s') noE s :=
  wpAny_assign_Name (H.store hv hk (.inl hf) fun _ H' e _ _ _ => ⟨H', e⟩)
theorem own_wk {x : Str} (H : Holds w env σ s) (e : Ext (place env x) s s') : Ext (own env) s s' := e.wk (fun i hi => place_own i hi) H.big
/-- x, y = pair -/
theorem asg2 {x y : Str} {p1 p2 pos : Pos} {k : Nat} {d1 d2 : D} {v : Value} (hh : A.handled = none) (kx : Nm env x) (ky : Nm env y) (hf : env.func.isSome = true) (hv : Val s.heap (.tup [d1, d2]) v) (H : Holds w env σ s) :
    wpAny (md w) A (assign (.Tuple [.Name x p1, .Name y p2] k pos) env v) (fun _ s' => Holds w env ((y, d2) :: (x, d1) :: σ) s' ∧ Ext (own env) s s') noE s := by
  obtain ⟨t, us, n, rfl, g, hus⟩ := hv
  obtain ⟨v1, _, rfl, hv1, v2, _, rfl, hv2, hr⟩ := hus
  rw [show _ = [] from hr] at g
  refine wpAny_assign_Tuple (items := #[v1, v2]) hh ⟨_, g, rfl, n, rfl⟩ rfl rfl fun h' hk => ?_
  have e0 : Ext [] s { s with heap := h' } := Ext.grow (t := s.toks) fun b o q => hk b o (Nat.ne_of_lt (Heap.lt_size q)) q
  have H0 := H.ext e0
  refine wpAny_assignInOrder_more (wpAny_noE (store1 H0 (e0.val0 H.base hv1) kx hf) fun _ s1 q1 => ?_)
  refine wpAny_assignInOrder_more (wpAny_noE (store1 q1.1 (place_val H0 hf kx q1.2 (e0.val0 H.base hv2)) ky hf) fun _ s2 q2 => wpAny_assignInOrder_none ⟨q2.1, ?_⟩)
  exact ((e0.wk0 H.big).trans (own_wk H0 q1.2)).trans (own_wk q1.1 q2.2)
/-- x, y, z = three -/
theorem asg3 {x y z : Str} {p1 p2 p3 pos : Pos} {k : Nat} {d1 d2 d3 : D} {v : Value} (hh : A.handled = none) (kx : Nm env x) (ky : Nm env y) (kz : Nm env z) (hf : env.func.isSome = true) (hv : Val s.heap (.tup [d1, d2, d3]) v) (H : Holds w env σ s) :
    wpAny (md w) A (assign (.Tuple [.Name x p1, .Name y p2, .Name z p3] k pos) env v) (fun _ s' => Holds w env ((z, d3) :: (y, d2) :: (x, d1) :: σ) s' ∧ Ext (own env) s s') noE s := by
  obtain ⟨t, us, n, rfl, g, hus⟩ := hv
  obtain ⟨v1, _, rfl, hv1, v2, _, rfl, hv2, v3, _, rfl, hv3, hr⟩ := hus
  rw [show _ = [] from hr] at g
  refine wpAny_assign_Tuple (items := #[v1, v2, v3]) hh ⟨_, g, rfl, n, rfl⟩ rfl rfl fun h' hk => ?_
  have e0 : Ext [] s { s with heap := h' } := Ext.grow (t := s.toks) fun b o q => hk b o (Nat.ne_of_lt (Heap.lt_size q)) q
  have H0 := H.ext e0
  refine wpAny_assignInOrder_more (wpAny_noE (store1 H0 (e0.val0 H.base hv1) kx hf) fun _ s1 q1 => ?_)
  have hv3' := place_val H0 hf kx q1.2 (e0.val0 H.base hv3)
  refine wpAny_assignInOrder_more (wpAny_noE (store1 q1.1 (place_val H0 hf kx q1.2 (e0.val0 H.base hv2)) ky hf) fun _ s2 q2 => ?_)
  refine wpAny_assignInOrder_more (wpAny_noE (store1 q2.1 (place_val q1.1 hf ky q2.2 hv3') kz hf) fun _ s3 q3 => wpAny_assignInOrder_none ⟨q3.1, ?_⟩)
  exact (((e0.wk0 H.big).trans (own_wk H0 q1.2)).trans (own_wk q1.1 q2.2)).trans (own_wk q2.1 q3.2)
theorem run_asg2 {x y : Str} {p1 p2 tp pos : Pos} {k : Nat} {e : Expr} {d1 d2 : D} {rest : List Stmt} {Q : Flow → Shared → Prop} {E : Value → Shared → Prop} (hh : A.handled = none) (h : Ev w A env σ e (.tup [d1, d2])) (H : Holds w env σ s) (kk : ∀ s', Ext (own env) s s' → Holds w env ((y, d2) :: (x, d1) :: σ) s' → wpAny (md w) A (execs rest env) Q E s')
    (kx : Nm env x) (ky : Nm env y) (hf : env.func.isSome = true) (hs : swapsWithSole [.Tuple [.Name x p1, .Name y p2] k tp] e pos.line env = pure false) (hw : swappedStores [.Tuple [.Name x p1, .Name y p2] k tp] e env = pure none) :
    wpAny (md w) A (execs (.Assign [.Tuple [.Name x p1, .Name y p2] k tp] e pos :: rest) env) Q E s := by
  refine wpAny_execs_cons (wpAny_Assign_stores (wpAny_noE (h s H) fun v s1 q => ?_) hs hw)
  show wpAny (md w) A (assign (.Tuple [.Name x p1, .Name y p2] k tp) env v) _ _ s1
  exact wpAny_noE (asg2 hh kx ky hf q.2 (H.ext q.1)) fun _ s2 z => kk s2 ((q.1.wk0 H.big).trans z.2) z.1
theorem run_asg3 {x y z : Str} {p1 p2 p3 tp pos : Pos} {k : Nat} {e : Expr} {d1 d2 d3 : D} {rest : List Stmt} {Q : Flow → Shared → Prop} {E : Value → Shared → Prop} (hh : A.handled = none) (h : Ev w A env σ e (.tup [d1, d2, d3])) (H : Holds w env σ s) (kk : ∀ s', Ext (own env) s s' → Holds w env ((z, d3) :: (y, d2) :: (x, d1) :: σ) s' → wpAny (md w) A (execs rest env) Q E s')
    (kx : Nm env x) (ky : Nm env y) (kz : Nm env z) (hf : env.func.isSome = true) (hs : swapsWithSole [.Tuple [.Name x p1, .Name y p2, .Name z p3] k tp] e pos.line env = pure false) (hw : swappedStores [.Tuple [.Name x p1, .Name y p2, .Name z p3] k tp] e env = pure none) :
    wpAny (md w) A (execs (.Assign [.Tuple [.Name x p1, .Name y p2, .Name z p3] k tp] e pos :: rest) env) Q E s := by
  refine wpAny_execs_cons (wpAny_Assign_stores (wpAny_noE (h s H) fun v s1 q => ?_) hs hw)
  show wpAny (md w) A (assign (.Tuple [.Name x p1, .Name y p2, .Name z p3] k tp) env v) _ _ s1
  exact wpAny_noE (asg3 hh kx ky kz hf q.2 (H.ext q.1)) fun _ s2 z => kk s2 ((q.1.wk0 H.big).trans z.2) z.1
/-- x, y = e1, e2: two new things, stored the other way round -/
theorem run_swap2 {x y : Str} {p1 p2 tp tp2 pos : Pos} {k k2 : Nat} {e1 e2 : Expr} {d1 d2 : D} {rest : List Stmt} {Q : Flow → Shared → Prop} {E : Value → Shared → Prop} (hh : A.handled = none) (h1 : EvF w A env σ e1 d1) (h2 : EvF w A env σ e2 d2) (H : Holds w env σ s)
    (kk : ∀ a1 a2 s', New s a1 → New s a2 → Ext (own env) s s' → Holds w env ((x, .at a1 d1) :: (y, .at a2 d2) :: σ) s' → wpAny (md w) A (execs rest env) Q E s')
    (kx : Nm env x) (ky : Nm env y) (hf : env.func.isSome = true) (hs : swapsWithSole [.Tuple [.Name x p1, .Name y p2] k tp] (.Tuple [e1, e2] k2 tp2) pos.line env = pure false) (hw : swappedStores [.Tuple [.Name x p1, .Name y p2] k tp] (.Tuple [e1, e2] k2 tp2) env = pure (some [x, y])) (hst : noStar [e1, e2] = true) :
    wpAny (md w) A (execs (.Assign [.Tuple [.Name x p1, .Name y p2] k tp] (.Tuple [e1, e2] k2 tp2) pos :: rest) env) Q E s := by
  have st1 : noStar [e1] = true ∧ noStar [e2] = true := by
    unfold noStar at hst ⊢
    simp only [List.all_cons, List.all_nil, Bool.and_true, Bool.and_eq_true] at hst ⊢
    exact hst
  refine wpAny_execs_cons ?_
  rw [exec_Assign_arm]
  refine wpAny_bind (wpAny_standAt ?_)
  rw [hs]
  refine wpAny_bind (wpAny_pure ?_)
  rw [if_neg (by decide)]
  refine wpAny_bind (wpAny_Tuple (wpAny_items_cons (wpAny_noE (h1 s H) fun v1 s1 q1 => wpAny_items_cons (wpAny_noE (h2 s1 (H.ext q1.1.1)) fun v2 s2 q2 => wpAny_items_nil ?_) (by clear h1 h2 hs hw hst; cases e2 <;> first | rfl | (simp [noStar] at st1)) ) (by clear h1 h2 hs hw hst; cases e1 <;> first | rfl | (simp [noStar] at st1))))
  obtain ⟨⟨x1, hv1⟩, a1, rfl, n1⟩ := q1
  obtain ⟨⟨x2, hv2⟩, a2, rfl, n2⟩ := q2
  have H1 := H.ext x1
  have H2 := H1.ext x2
  refine ⟨by show 2 ≤ 16777216; decide, ?_⟩
  rw [hw]
  have x3 : Ext [] s2 { s2 with heap := s2.heap.push { cls := .type "tuple", data := .seq [Value.ref a1, Value.ref a2].toArray } } := Ext.push (t := s2.toks)
  refine wpAny_bind (wpAny_pure ?_)
  show wpAny _ A (do rule "assign.swapped-stores"; let items ← unpackItems _ 2 none; assignInOrder ([x, y].reverse.map fun n => bindName env n) items.reverse; (pure Flow.next : Sem Flow)) _ _ _
  refine wpAny_bind (wpAny_rule ?_)
  refine wpAny_bind (wpAny_unpackItems_tuple (items := #[Value.ref a1, Value.ref a2]) hh ⟨_, Heap.get?_push_size _ rfl, rfl, 0, rfl⟩ fun h' hk => ?_)
  have x4 : Ext [] { s2 with heap := s2.heap.push { cls := .type "tuple", data := .seq [Value.ref a1, Value.ref a2].toArray } } { s2 with heap := h' } := Ext.grow (t := s2.toks) fun b o q => hk b o (Nat.ne_of_lt (Heap.lt_size q)) q
  have H4 := (H2.ext x3).ext x4
  have B2 := H2.base
  have w1 : Val h' (.at a1 d1) (.ref a1) := ⟨rfl, (x3.trans x4).val0 B2 (x2.val0 H1.base hv1)⟩
  have w2 : Val h' (.at a2 d2) (.ref a2) := ⟨rfl, (x3.trans x4).val0 B2 hv2⟩
  show wpAny _ A (assignInOrder [bindName env y, bindName env x] [.ref a2, .ref a1] >>= _) _ _ _
  refine wpAny_bind (wpAny_assignInOrder_more ?_)
  refine wpAny_bindName (H4.store w2 ky (.inl hf) fun s5 H5 e5 _ _ _ => ?_)
  refine wpAny_assignInOrder_more ?_
  refine wpAny_bindName (H5.store (place_val H4 hf ky e5 w1) kx (.inl hf) fun s6 H6 e6 _ _ _ => wpAny_assignInOrder_none (wpAny_pure ?_))
  exact kk a1 a2 s6 n1 (H.base.newer x1 n2) (((((x1.trans x2).trans x3).trans x4).wk0 H.big).trans ((own_wk H4 e5).trans (own_wk H5 e6))) H6
end
end Mine
end
section
open PySem PySem.W PyProof.Rows PySem.Builtin
set_option Elab.async false
set_option maxRecDepth 100000
namespace Mine

section
variable {w : World} {A : Around} {env : Env} {σ : List (Str × D)} {scope : Scope} {iter elt : Expr} {ifs : List Expr} {pos p1 p2 tp : Pos} {ds : List D} {out : D → Option D} {x y : Str} {kk : Nat} {s : Shared}

theorem comp_pair (hh : A.handled = none) (ok : compOk scope env = true) (kind : scope.kind = .function) (free : ∀ y d, (freeOf scope σ).lookup y = some d → bears (.type "dict") d = false)
    (hx : scope.names.lookup x = some .local) (hy : scope.names.lookup y = some .local) (size : ds.length ≤ 1000)
    (form : ∀ d ∈ ds, ∃ d1 d2, d = .tup [d1, d2] ∧ bears (.type "dict") d1 = false ∧ bears (.type "dict") d2 = false)
    (test : ∀ C d1 d2, .tup [d1, d2] ∈ ds → Tsts w A (envK scope C env) ((y, d2) :: (x, d1) :: freeOf scope σ) ifs (out (.tup [d1, d2])).isSome)
    (elts : ∀ C d1 d2 e, .tup [d1, d2] ∈ ds → out (.tup [d1, d2]) = some e → Ev w A (envK scope C env) ((y, d2) :: (x, d1) :: freeOf scope σ) elt e)
    (fl : ∀ d ∈ ds, ∀ e, out d = some e → Mine.flat e = true) : CompH w A env σ scope (.Tuple [.Name x p1, .Name y p2] kk tp) ifs elt ds (bindP x y) out true where
  ok := ok
  kind := kind
  free := free
  size := size
  test := fun C d hd => by obtain ⟨d1, d2, rfl, _⟩ := form d hd; exact test C d1 d2 hd
  elt := fun C d e hd he => by obtain ⟨d1, d2, rfl, _⟩ := form d hd; exact elts C d1 d2 e hd he
  flat := fun d hd e ho => ⟨fl d hd e ho, fun q => by cases q⟩
  less := fun d hd z e h => by
    obtain ⟨d1, d2, rfl, _⟩ := form d hd
    show List.lookup z ((y, d2) :: (x, d1) :: freeOf scope σ) = _
    rw [List.lookup_cons, List.lookup_cons]
    have h1 : (z == y) = false := by simpa using free_ne hy h
    have h2 : (z == x) = false := by simpa using free_ne hx h
    rw [h1, h2]; exact h
  asg := fun C s v d hd hv hv' H => by
    obtain ⟨d1, d2, rfl, b1, b2⟩ := form d hd
    have kx := envK_kind (env := env) (C := C) hx
    have ky := envK_kind (env := env) (C := C) hy
    refine wpAny_noE (asg_pair hh kx ky (.inr b1) (.inr b2) hv H) fun _ s' q => ⟨q.1, fun _ o g => ?_, [C], q.2, fun t ht => .inl ⟨rfl, List.mem_singleton.mp ht⟩⟩
    obtain ⟨v', b, _⟩ := q.1.vals y d2 (by rw [List.lookup_cons, beq_self_eq_true])
    rcases b with ⟨_, m, ⟨o', es, ep, g', dd, _, r⟩, hm⟩ | ⟨k | k, _⟩
    · have g2 : s'.heap.get? C = some o' := g'
      rw [show s'.heap.get? C = _ from g] at g2; cases g2
      exact own_infra dd (x := y) (v := v') (by rw [r]; exact hm)
    · rw [ky] at k; cases k
    · rw [ky] at k; cases k

/-- the places of the rows that pass a test -/
def idxsF (p : Row → Bool) : Nat → List Row → List Nat
  | _, [] => []
  | k, r :: rs => if p r then k :: idxsF p (k + 1) rs else idxsF p (k + 1) rs
abbrev natsD (ns : List Nat) : D := .list (ns.map fun i : Nat => D.int (i : Int))
def outK (p : Row → Bool) : D → Option D
  | .tup [.int i, .tup [.int c, .str v]] => if p (c, v) then some (.int i) else none
  | _ => none
theorem idxs_map {p : Row → Bool} : ∀ (rs : List Row) (k : Nat), ((rs.map rowD).mapIdx fun i d => D.tup [.int ((i + k : Nat) : Int), d]).filterMap (outK p) = (idxsF p k rs).map fun i : Nat => D.int (i : Int)
  | [], _ => rfl
  | r :: rs, k => by
    have ih := idxs_map (p := p) rs (k + 1)
    have e0 : idxsF p k (r :: rs) = if p r then k :: idxsF p (k + 1) rs else idxsF p (k + 1) rs := rfl
    rw [List.map_cons, List.mapIdx_cons, e0]
    have e : (fun (i : Nat) (d : D) => D.tup [.int ((i + 1 + k : Nat) : Int), d]) = fun (i : Nat) (d : D) => D.tup [.int ((i + (k + 1) : Nat) : Int), d] := by
      funext i d
      rw [show i + 1 + k = i + (k + 1) by omega]
    rw [e]
    cases hp : p r with
    | true =>
      rw [List.filterMap_cons_some (b := .int (k : Int)) (by show outK p _ = _; simp only [outK, Nat.zero_add]; rw [if_pos hp])]
      simp only [if_true, List.map_cons]
      rw [ih]
    | false =>
      rw [List.filterMap_cons_none (by show outK p _ = _; simp only [outK, Nat.zero_add]; rw [if_neg (by rw [hp]; decide)])]
      simp only [Bool.false_eq_true, if_false]
      exact ih
theorem idxs_num {p : Row → Bool} {rs : List Row} : (numbered (rs.map rowD)).filterMap (outK p) = (idxsF p 0 rs).map fun i : Nat => D.int (i : Int) := idxs_map rs 0
theorem num_rows {rs : List Row} {d : D} (h : d ∈ numbered (rs.map rowD)) : ∃ (i : Nat) (r : Row), r ∈ rs ∧ d = .tup [.int i, rowD r] := by
  obtain ⟨i, hi⟩ := List.getElem?_of_mem h
  unfold numbered at hi
  rw [List.getElem?_mapIdx, List.getElem?_map] at hi
  cases q : rs[i]? with
  | none => rw [q] at hi; cases hi
  | some r => rw [q] at hi; exact ⟨i, r, List.mem_of_getElem? q, by simpa using hi.symm⟩
/-- h = [k for k, row in enumerate(e) if t] -/
theorem run_hits (p : Row → Bool) {h : Str} {ph spos pk px pc : Pos} {e t : Expr} {rs : List Row} {rest : List Stmt} {Q : Flow → Shared → Prop} {E : Value → Shared → Prop} (hh : A.handled = none) (he : Ev w A env σ e (rowsD rs)) (hz : rs.length ≤ 100) (H : Holds w env σ s)
    (test : ∀ C r (i : Nat), Tst w A (envK scope C env) (("row", rowD r) :: ("k", .int i) :: freeOf scope σ) t (p r))
    (k : ∀ b s', New s b → Ext (own env) s s' → Holds w env ((h, .at b (natsD (idxsF p 0 rs))) :: σ) s' → wpAny (md w) A (execs rest env) Q E s')
    (hen : env.kindOf "enumerate" = some .globalImplicit) (hk : env.kindOf h = some .local) (hf : env.func.isSome = true) (ok : compOk scope env = true) (kind : scope.kind = .function) (hx : scope.names.lookup ("k" : Str) = some .local) (hy : scope.names.lookup ("row" : Str) = some .local)
    (free : ((freeOf scope σ).all fun p => !bears (.type "dict") p.2) = true)
    (hsw : swapsWith (.ListComp (.Name "k" pk) [⟨.Tuple [.Name "k" p1, .Name "row" p2] kk tp, .Call (.Name "enumerate" px) [e] [] pc, [t], 0⟩] scope pos) (some (.Name h ph)) spos.line env = pure true)
    (hs : ∀ x, foldedSetIterable (.Call (.Name "enumerate" px) [e] [] pc) env x = pure x) (hst : noStar [e] = true) :
    wpAny (md w) A (execs (.Assign [.Name h ph] (.ListComp (.Name "k" pk) [⟨.Tuple [.Name "k" p1, .Name "row" p2] kk tp, .Call (.Name "enumerate" px) [e] [] pc, [t], 0⟩] scope pos) spos :: rest) env) Q E s := by
  have it := iter_enum_list (elts := [.Name "k" p1, .Name "row" p2]) (k := kk) (tp := tp) (px := px) (pos := pc) hh hen he hst
  have c : CompH w A env σ scope (.Tuple [.Name "k" p1, .Name "row" p2] kk tp) [t] (.Name "k" pk) (numbered (rs.map rowD)) (bindP "k" "row") (outK p) true := by
    refine comp_pair hh ok kind (nodict free) hx hy (by unfold numbered; simp; omega) (fun d hd => ?_) (fun C d1 d2 hd => ?_) (fun C d1 d2 e hd ho => ?_) (fun d hd e ho => ?_)
    · obtain ⟨i, r, _, rfl⟩ := num_rows hd
      exact ⟨_, _, rfl, rfl, rfl⟩
    · obtain ⟨i, r, _, q⟩ := num_rows hd
      cases q
      have e : (outK p (.tup [.int i, rowD r])).isSome = p r := by
        simp only [outK]; cases p r <;> rfl
      rw [e]
      exact test C r i
    · obtain ⟨i, r, _, q⟩ := num_rows hd
      cases q
      simp only [outK] at ho
      split at ho
      · cases ho; exact ev_name rfl
      · cases ho
    · obtain ⟨i, r, _, rfl⟩ := num_rows hd
      simp only [outK] at ho
      split at ho
      · cases ho; rfl
      · cases ho
  refine wpAny_execs_cons (wpAny_noE (stm_comp it c H hsw hk hf hs) fun f s' q => ?_)
  obtain ⟨rfl, a, ga, ha, e', H'⟩ := q
  rw [idxs_num] at H'
  exact k a s' ⟨ga, ha⟩ e' H'
end
end Mine
end
section
open PySem PySem.W PyProof.Rows PySem.Builtin
set_option Elab.async false
set_option maxRecDepth 100000
namespace Mine

def decRow : D → Option Row
  | .tup [.int c, .str v] => some (c, v)
  | _ => none
def decTag : D → Option Row
  | .tag c v => some (c, v)
  | _ => none
def decInt : D → Option Int
  | .int i => some i
  | _ => none
def decNat : D → Option Nat
  | .int i => some i.toNat
  | _ => none
section
variable {w : World} {A : Around} {env : Env} {σ : List (Str × D)} {s : Shared} {scope : Scope} {iter elt : Expr} {ifs : List Expr} {pos px spos : Pos} {x : Str} {α : Type}
  {inj : α → D} {dec : D → Option α}

def outOf (dec : D → Option α) (p : α → Bool) (g : α → D) : D → Option D := fun d => match dec d with | some a => if p a then some (g a) else none | none => none
theorem outOf_map (hdec : ∀ a, dec (inj a) = some a) {p : α → Bool} {g : α → D} : ∀ (xs : List α), (xs.map inj).filterMap (outOf dec p g) = (xs.filter p).map g
  | [] => rfl
  | a :: xs => by
    have ih := outOf_map (p := p) (g := g) hdec xs
    rw [List.map_cons, List.filter_cons]
    cases hp : p a with
    | true => rw [List.filterMap_cons_some (b := g a) (by unfold outOf; rw [hdec]; simp only [hp, if_true]), ih]; rfl
    | false => rw [List.filterMap_cons_none (by unfold outOf; rw [hdec]; simp only [hp, Bool.false_eq_true, if_false]), ih]; rfl
/-- the parts of a comprehension over a row of things -/
theorem comp_H (hdec : ∀ a, dec (inj a) = some a) (p : α → Bool) (g : α → D) {xs : List α} (hz : xs.length ≤ 100)
    (test : ∀ C a, a ∈ xs → Tsts w A (envK scope C env) ((x, inj a) :: freeOf scope σ) ifs (p a))
    (elts : ∀ C a, a ∈ xs → p a = true → Ev w A (envK scope C env) ((x, inj a) :: freeOf scope σ) elt (g a)) (fl : ∀ a, flat (g a) = true)
    (hx : scope.names.lookup x = some .local) (ok : compOk scope env = true) (kind : scope.kind = .function) (free : ((freeOf scope σ).all fun p => !bears (.type "dict") p.2) = true) :
    CompH w A env σ scope (.Name x px) ifs elt (xs.map inj) (fun d => [(x, d)]) (outOf dec p g) true := by
  refine comp_name ok kind (nodict free) hx (by simpa using Nat.le_trans hz (by decide)) (fun C d hd => ?_) (fun C d e hd he => ?_) (fun d hd e he => ?_)
  · obtain ⟨a, ha, rfl⟩ := List.mem_map.mp hd
    have e : (outOf dec p g (inj a)).isSome = p a := by unfold outOf; rw [hdec]; simp only; cases p a <;> rfl
    rw [e]; exact test C a ha
  · obtain ⟨a, ha, rfl⟩ := List.mem_map.mp hd
    unfold outOf at he
    rw [hdec] at he
    simp only at he
    split at he
    · rename_i hp; cases he; exact elts C a ha hp
    · cases he
  · obtain ⟨a, ha, rfl⟩ := List.mem_map.mp hd
    unfold outOf at he
    rw [hdec] at he
    simp only at he
    split at he
    · cases he; exact fl a
    · cases he
theorem comp_ev (hdec : ∀ a, dec (inj a) = some a) (p : α → Bool) (g : α → D) {xs : List α} (it : Iter w A env σ (.Name x px) iter (xs.map inj)) (hz : xs.length ≤ 100)
    (test : ∀ C a, a ∈ xs → Tsts w A (envK scope C env) ((x, inj a) :: freeOf scope σ) ifs (p a))
    (elts : ∀ C a, a ∈ xs → p a = true → Ev w A (envK scope C env) ((x, inj a) :: freeOf scope σ) elt (g a)) (fl : ∀ a, flat (g a) = true)
    (hx : scope.names.lookup x = some .local) (ok : compOk scope env = true) (kind : scope.kind = .function) (free : ((freeOf scope σ).all fun p => !bears (.type "dict") p.2) = true)
    (hs : ∀ x, foldedSetIterable iter env x = pure x) :
    EvF w A env σ (.ListComp elt [⟨.Name x px, iter, ifs, 0⟩] scope pos) (.list ((xs.filter p).map g)) := fun s H => by
  rw [← outOf_map hdec]
  exact ev_comp it (comp_H hdec p g hz test elts fl hx ok kind free) hs s H
/-- y = [.. for x in .. if ..] -/
theorem run_comp (hdec : ∀ a, dec (inj a) = some a) (p : α → Bool) (g : α → D) {xs : List α} {y : Str} {py : Pos} {rest : List Stmt} {Q : Flow → Shared → Prop} {E : Value → Shared → Prop} (it : Iter w A env σ (.Name x px) iter (xs.map inj)) (hz : xs.length ≤ 100) (H : Holds w env σ s)
    (test : ∀ C a, a ∈ xs → Tsts w A (envK scope C env) ((x, inj a) :: freeOf scope σ) ifs (p a))
    (elts : ∀ C a, a ∈ xs → p a = true → Ev w A (envK scope C env) ((x, inj a) :: freeOf scope σ) elt (g a)) (fl : ∀ a, flat (g a) = true)
    (k : ∀ b s', New s b → Ext (own env) s s' → Holds w env ((y, .at b (.list ((xs.filter p).map g))) :: σ) s' → wpAny (md w) A (execs rest env) Q E s')
    (hy : env.kindOf y = some .local) (hf : env.func.isSome = true) (hx : scope.names.lookup x = some .local) (ok : compOk scope env = true) (kind : scope.kind = .function) (free : ((freeOf scope σ).all fun p => !bears (.type "dict") p.2) = true)
    (hsw : swapsWith (.ListComp elt [⟨.Name x px, iter, ifs, 0⟩] scope pos) (some (.Name y py)) spos.line env = pure true) (hs : ∀ x, foldedSetIterable iter env x = pure x) :
    wpAny (md w) A (execs (.Assign [.Name y py] (.ListComp elt [⟨.Name x px, iter, ifs, 0⟩] scope pos) spos :: rest) env) Q E s := by
  refine wpAny_execs_cons (wpAny_noE (stm_comp it (comp_H hdec p g hz test elts fl hx ok kind free) H hsw hy hf hs) fun f s' q => ?_)
  obtain ⟨rfl, a, ga, ha, e', H'⟩ := q
  rw [outOf_map hdec] at H'
  exact k a s' ⟨ga, ha⟩ e' H'

theorem decRow_ok : ∀ r, decRow (rowD r) = some r := fun _ => rfl
theorem decTag_ok : ∀ r, decTag (tagD r) = some r := fun _ => rfl
theorem decInt_ok : ∀ i, decInt (.int i) = some i := fun _ => rfl
theorem decNat_ok : ∀ i : Nat, decNat (.int (i : Int)) = some i := fun i => by simp [decNat]

/-- new things of two roads -/
theorem evF_ifexp {t x y : Expr} {b : Bool} {d : D} (ht : Tst w A env σ t b) (h1 : b = true → EvF w A env σ x d) (h2 : b = false → EvF w A env σ y d) : EvF w A env σ (.IfExp t x y pos) d := fun s H => by
  refine wpAny_IfExp (wpAny_noE (ht s H) fun c s₁ q => ?_)
  obtain ⟨rfl, e⟩ := q
  cases c with
  | true => exact wpAny_noE (h1 rfl s₁ (H.ext e)) fun v s₂ z => ⟨⟨e.trans z.1.1, z.1.2⟩, let ⟨a, h, n⟩ := z.2; ⟨a, h, H.base.newer e n⟩⟩
  | false => exact wpAny_noE (h2 rfl s₁ (H.ext e)) fun v s₂ z => ⟨⟨e.trans z.1.1, z.1.2⟩, let ⟨a, h, n⟩ := z.2; ⟨a, h, H.base.newer e n⟩⟩
theorem evF_or2 {x y : Expr} {a d : D} (hx : EvF w A env σ x a) (hs : simpleT a = true) (h1 : tru a = true → d = a) (h2 : tru a = false → EvF w A env σ y d) : EvF w A env σ (.BoolOp .Or [x, y] pos) d := fun s H => by
  refine wpAny_Or2 (wpAny_noE (hx s H) fun v s₁ q => wpAny_noE (truthy_D hs q.1.2) fun b s₂ z => ?_)
  obtain ⟨rfl, x2⟩ := z
  have x12 := q.1.1.trans x2
  cases e : tru a with
  | true => rw [h1 e]; exact ⟨⟨x12, x2.val0 (H.base.ext q.1.1) q.1.2⟩, q.2⟩
  | false => exact wpAny_noE (h2 e s₂ (H.ext x12)) fun u s₃ r => ⟨⟨x12.trans r.1.1, r.1.2⟩, let ⟨a, h, n⟩ := r.2; ⟨a, h, H.base.newer x12 n⟩⟩
end
end Mine
end
section
open PySem PySem.W PyProof.Rows PySem.Builtin
set_option Elab.async false
set_option maxRecDepth 100000
namespace Mine

/-- the law's own block -/
abbrev lenv (sc : Scope) (L : Addr) : Env := envF "law" sc L 388 (.ref 387)
noncomputable def fdOf (P : Params) : Option FuncData := match (hd.heap_39 P).lookup 388 with
  | some o => match o.data with
    | .func fd => some fd
    | _ => none
  | _ => none
noncomputable def scopeOf (P : Params) : Scope := match fdOf P with
  | some fd => fd.scope
  | none => default
noncomputable def bodyOf (P : Params) : List Stmt := match fdOf P with
  | some fd => match fd.body with
    | .stmts b => b
    | _ => []
  | none => []
/-- the turn of its loop -/
noncomputable def turnOf (P : Params) : List Stmt := match bodyOf P with
  | _ :: _ :: _ :: .For _ _ tb _ _ :: _ => tb
  | _ => []
structure Is (p : Prop) : Prop where
  out : p
theorem law_cut {P : Params} {name qual : Str} {params : Arguments} {body tb : List Stmt} {scope : Scope} {dV kV doc pm cdv ct oc : Value} {an od : Option Addr} {osl : Array (Option Value)} {a b c : Stmt} {t it : Expr} {p : Pos} {rest els : List Stmt}
    (G : List Stmt → Scope → Prop)
    (ho : ∀ P, (hd.heap_39 P).lookup 388 = some ⟨oc, od, .func (fnX name qual params body scope [] dV kV doc pm an cdv ct), osl⟩) (hb : body = a :: b :: c :: .For t it tb els p :: rest) (h : Is (G tb scope)) : Is (G (turnOf P) (scopeOf P)) := by
  have e1 : fdOf P = some (fnX name qual params body scope [] dV kV doc pm an cdv ct) := by unfold fdOf; rw [ho P]
  have e2 : scopeOf P = scope := by unfold scopeOf; rw [e1]
  have e3 : turnOf P = tb := by unfold turnOf bodyOf; rw [e1]; subst hb; rfl
  rw [e2, e3]; exact h

/-- where the law's block runs -/
structure LA (A : Around) (env : Env) : Prop where
  room : Room 40 A
  frames : A.frames = some [env]
  frame : env.frame = some env.locals
  func : env.func.isSome = true
  cells : ∀ p ∈ env.cells, env.cells.lookup p.1 = some p.2

section
variable {w : World} {A : Around} {env : Env} {σ : List (Str × D)} {s s' : Shared} {E : Value → Shared → Prop}
theorem LA.stk (h : LA A env) (H : Holds w env σ s) : Stk A [env] s := by
  refine ⟨h.frames, fun e he => ?_⟩
  rw [List.mem_singleton] at he
  subst he
  obtain ⟨m, o, es, ep, g, hd, _⟩ := H.ns
  refine ⟨by rw [H.fn]; decide, _, o, h.frame, H.big _ (List.mem_cons_self ..), g, ⟨es, ep, hd⟩, ?_⟩
  rcases H.lone o g with q | q | ⟨_, q, _⟩
  · exact .inl q
  · exact .inr q
  · have z := h.func; rw [q] at z; cases z
theorem LA.upto (h : LA A env) (H : Holds w env σ s) (x : Upto [env] s s') : Holds w env σ s' := H.upto (l := []) (h.stk H) x h.func
theorem LA.own (h : LA A env) (H : Holds w env σ s) (x : Upto [env] s s') : Ext (own env) s s' := by
  refine x.ext.wk (fun i hi => ?_) H.big
  have e : frs [env] = [env.locals] := by simp [frs, h.frame]
  rw [e] at hi
  rw [List.mem_singleton.mp hi]; exact List.mem_cons_self ..
theorem LA.val (h : LA A env) (H : Holds w env σ s) (x : Upto [env] s s') {d : D} {v : Value} (hv : Val s.heap d v) : Val s'.heap d v := x.ext.val H.base (fun a ha o g => by
  obtain ⟨_, o', g', _, z⟩ := (h.stk H).mem ha
  rw [g] at g'; cases g'
  rcases z with z | z
  · exact .inl z
  · exact .inr (by rw [z]; exact bears_frame _)) hv
theorem LA.of (h : LA A env) (H : Holds w env σ s) (x : Ext [] s s') : Upto [env] s s' := Upto.of_ext (h.stk H) x

/-- an expression that may catch an exception -/
def EvU (w : World) (A : Around) (env : Env) (σ : List (Str × D)) (e : Expr) (d : D) : Prop :=
  ∀ s, Holds w env σ s → wpAny (md w) A (eval e env) (fun v s' => Val s'.heap d v ∧ Upto [env] s s') noE s
def TstU (w : World) (A : Around) (env : Env) (σ : List (Str × D)) (e : Expr) (b : Bool) : Prop :=
  ∀ s, Holds w env σ s → wpAny (md w) A (isTrue e env (eval e env)) (fun r s' => r = b ∧ Upto [env] s s') noE s
theorem Ev.u {e : Expr} {d : D} (h : LA A env) (x : Ev w A env σ e d) : EvU w A env σ e d := fun s H => wpAny_noE (x s H) fun v s' q => ⟨q.2, h.of H q.1⟩
theorem Tst.u {e : Expr} {b : Bool} (h : LA A env) (x : Tst w A env σ e b) : TstU w A env σ e b := fun s H => wpAny_noE (x s H) fun v s' q => ⟨q.1, h.of H q.2⟩
theorem evU_run {e : Expr} {d : D} (h : EvU w A env σ e d) (H : Holds w env σ s) : wpAny (md w) A (eval e env) (fun v s' => Val s'.heap d v ∧ Upto [env] s s') noE s := h s H
/-- none of them holds -/
def NoneU (w : World) (A : Around) (env : Env) (σ : List (Str × D)) : List Expr → Prop
  | [] => True
  | e :: es => TstU w A env σ e false ∧ NoneU w A env σ es
theorem noneU_run (h : LA A env) : ∀ {es : List Expr}, NoneU w A env σ es → ∀ {s : Shared}, Holds w env σ s → wpAny (md w) A (allTrue .Or es env) (fun r s' => r = false ∧ Upto [env] s s') noE s
  | [], _, s, H => wpAny_allTrue_Or_nil ⟨rfl, h.of H (Ext.refl s)⟩
  | _ :: _, ⟨h1, h2⟩, s, H => by
    refine wpAny_allTrue_Or_cons (wpAny_noE (h1 s H) fun c s₁ q => ?_)
    obtain ⟨rfl, x⟩ := q
    exact wpAny_noE (noneU_run h h2 (h.upto H x)) fun r s₂ z => ⟨z.1, x.trans z.2⟩
theorem tstU_or {es : List Expr} {pos : Pos} (h : LA A env) (x : NoneU w A env σ es) : TstU w A env σ (.BoolOp .Or es pos) false := fun s H => wpAny_isTrue_BoolOp (noneU_run h x H)
theorem tstU_cmp {l r : Expr} {op : CmpOp} {pos : Pos} {a b : D} {c : Bool} (hA : LA A env) (hl : EvU w A env σ l a) (hr : Ev w A env σ r b) (h : Cmp w A op a b c)
    (hm : behindInMarks op r = false := by with_unfolding_all rfl) : TstU w A env σ (.Compare l [op] [r] pos) c := by
  intro s H
  refine wpAny_isTrue_Compare1 (wpAny_noE (hl s H) fun u s₁ q1 => wpAny_noE (hr s₁ (hA.upto H q1.2)) fun v s₂ q2 => ?_) hm
  have H1 := hA.upto H q1.2
  have H2 := H1.ext q2.1
  refine wpAny_mono (h u v s₂ H2.base (q2.1.val0 H1.base q1.1) q2.2) (fun x s₃ z => ?_) fun _ _ f => f
  rw [z.1]
  exact wpAny_truthy_bool ⟨rfl, (q1.2.trans (hA.of H1 q2.1)).trans (hA.of H2 z.2)⟩
theorem run_ifU {t : Expr} {a rest : List Stmt} {pos : Pos} {Q : Flow → Shared → Prop} (hA : LA A env) (ht : TstU w A env σ t false) (H : Holds w env σ s)
    (h2 : ∀ s', Ext (own env) s s' → Holds w env σ s' → wpAny (md w) A (execs rest env) Q E s') : wpAny (md w) A (execs (.If t a [] pos :: rest) env) Q E s := by
  refine wpAny_execs_cons (wpAny_If (wpAny_noE (ht s H) fun c' s₁ q => ?_))
  obtain ⟨rfl, x⟩ := q
  exact wpAny_execs_nil (h2 s₁ (hA.own H x) (hA.upto H x))

theorem names_free {scope : Scope} (h : (scope.names.all fun x => x.2 != .cell) = true) : ∀ x ∈ scope.names, x.2 ≠ .cell := fun x hx => by
  have := List.all_eq_true.mp h x hx
  exact bne_iff_ne.mp this
/-- _law_first(lambda: ..), in full -/
theorem evU_ok {px pos lpos : Pos} {params : Arguments} {body : Expr} {scope : Scope} {d : D} (hA : LA A env)
    (h : ∀ A' L f cv, Room 38 A' → Ev w A' (envL scope L f (clos env.cells scope.names []) cv) (freeOf scope σ) body d)
    (hx : env.kindOf "_law_first" = some .globalImplicit := by rfl) (hcode : env.code = .ref 387 := by rfl) (hq : env.qual ++ ("<lambda>" : Str) = qL := by rfl) (ok : compOk scope env = true := by rfl)
    (hk : scope.kind = .function := by rfl) (hco : scope.isCoroutine = false := by rfl) (hgen : scope.isGenerator = false := by rfl) (hcell : (scope.names.all fun x => x.2 != .cell) = true := by rfl) (hdef : defaultsOf params env = ([], []) := by rfl) (hbind : ∀ cl pm cv ct, bindArgs (lamFd params body scope cl pm cv ct) ⟨[], []⟩ = pure [] := by intro _ _ _ _; rfl) :
    EvU w A env σ (.Call (.Name "_law_first" px) [.Lambda params body scope lpos] [] pos) (.list [d]) := fun s H =>
  wpAny_noE (ev_first_ok (k := 38) (S := []) (K := fun _ => True) (σ' := freeOf scope σ) (d := d) (by simp) (fun _ _ _ _ _ => trivial) hA.room H hx hcode hq ok hk hco hgen (names_free hcell) hdef hbind (fun y d q => ⟨(freeOf_lookup q).2, (freeOf_lookup q).1⟩) fun A' L f cv s0 r' H0 => wpAny_noE (h A' L f cv r' s0 H0) fun v s' q => ⟨q.2, q.1, trivial⟩) fun v s' q => ⟨q.1, hA.of H q.2.1⟩
theorem evU_none {px pos lpos : Pos} {params : Arguments} {body : Expr} {scope : Scope} (hA : LA A env)
    (h : ∀ A' L f cv l' s0, Room 38 A' → Stk A' (envL scope L f (clos env.cells scope.names []) cv :: l') s0 → Holds w (envL scope L f (clos env.cells scope.names []) cv) (freeOf scope σ) s0 →
      wpAny (md w) A' (eval body (envL scope L f (clos env.cells scope.names []) cv)) (fun _ _ => False) (fun e s'' => ∃ s₁, Ext [] s0 s₁ ∧ Raised (envL scope L f (clos env.cells scope.names []) cv :: l') s₁ s'' e) s0)
    (hx : env.kindOf "_law_first" = some .globalImplicit := by rfl) (hcode : env.code = .ref 387 := by rfl) (hq : env.qual ++ ("<lambda>" : Str) = qL := by rfl) (ok : compOk scope env = true := by rfl)
    (hk : scope.kind = .function := by rfl) (hco : scope.isCoroutine = false := by rfl) (hgen : scope.isGenerator = false := by rfl) (hcell : (scope.names.all fun x => x.2 != .cell) = true := by rfl) (hdef : defaultsOf params env = ([], []) := by rfl) (hbind : ∀ cl pm cv ct, bindArgs (lamFd params body scope cl pm cv ct) ⟨[], []⟩ = pure [] := by intro _ _ _ _; rfl) :
    EvU w A env σ (.Call (.Name "_law_first" px) [.Lambda params body scope lpos] [] pos) .none := fun s H =>
  wpAny_noE (ev_first_none (k := 38) (σ' := freeOf scope σ) hA.room H (hA.stk H) hx hcode hq ok hk hco hgen (names_free hcell) hdef hbind (fun y d q => ⟨(freeOf_lookup q).2, (freeOf_lookup q).1⟩) fun A' L f cv l' s0 r' K' H0 => h A' L f cv l' s0 r' K' H0) fun v s' q => ⟨q.1, q.2⟩
end
end Mine
end
section
open PySem PySem.W PyProof.Rows PySem.Builtin
set_option Elab.async false
set_option maxRecDepth 100000
namespace Mine

abbrev sg0 (n : Int) (rs ts : List Row) (aR aT : Addr) : List (Str × D) := [("number", .int n), ("rows", .at aR (rowsD rs)), ("tags", .at aT (tagsD ts))]
/-- the names in a turn -/
abbrev sg (n c : Int) (v : Str) (cs : List Int) (old rs ts : List Row) (hs : List Nat) (aC aB aP aH aR aT : Addr) : List (Str × D) :=
  [("hits", .at aH (natsD hs)), ("copy", .at aP (tagsD old)), ("before", .at aB (rowsD old)), ("codes", .at aC (.list (cs.map .int))), ("value", .str v), ("code", .int c), ("kind", .int (n.fmod 6)), ("number", .int n), ("rows", .at aR (rowsD rs)), ("tags", .at aT (tagsD ts))]
abbrev lt (n : Int) : Row := lawTag (n.fdiv 6)
abbrev lcs (n : Int) : List Int := [(lt n).1, (lawTag (n.fdiv 336)).1]

theorem k_g_lt (P : Params) : nsIn (KB P) mainGlobals "_law_tag" = some (some (.ref 376)) := by kernel_rfl
theorem k_keep_lt (P : Params) : keepIn (KB P) (.ref 376) = true := by kernel_rfl
theorem m_clone (w : World) : TMeth w "clone" (.ref 216) (.type "function") := ⟨by kernel_rfl, by kernel_rfl, rfl⟩

section
variable {w : World} {A : Around} {env : Env} {σ : List (Str × D)} {s s' : Shared}
theorem ev_lt {k : Nat} {px p1 p2 p3 : Pos} {e : Expr} {k1 : Nat} {n m : Int} (r : Room (k + 2) A) (he : Ev w A env σ e (.int n)) (hm : m ≠ 0) (hp : Builtin.divisionGoesByPylong n m = false) (hx : env.kindOf "_law_tag" = some .globalImplicit) :
    Ev w A env σ (.Call (.Name "_law_tag" px) [.BinOp e .FloorDiv (.Constant (.int m) k1 p1) p2] [] p3) (rowD (lawTag (n.fdiv m))) :=
  ev_fn fn_lawTag (gl_main hx (k_g_lt _)) (k_keep_lt _) (evs1 (ev_bin he ev_int (bin_fdiv hm hp))) r
theorem ev_at0 {e : Expr} {p q : Pos} {k : Nat} {r : Row} (h : Ev w A env σ e (rowD r)) : Ev w A env σ (.Subscript e (.Constant (.int 0) k p) q) (.int r.1) := ev_item_tup h ev_int (by decide) rfl (by show (2:Nat) ≤ 1000; decide) (fun _ _ => rfl)
theorem ev_at1 {e : Expr} {p q : Pos} {k : Nat} {r : Row} (h : Ev w A env σ e (rowD r)) : Ev w A env σ (.Subscript e (.Constant (.int 1) k p) q) (.str r.2) := ev_item_tup h ev_int (by decide) rfl (by show (2:Nat) ≤ 1000; decide) (fun _ _ => rfl)
theorem new_ne {y : Str} {a b : Addr} {ds : List D} {T : Bool} (H : Holds w env σ s) (hl : σ.lookup y = some (.at a (if T then .tags ds else .list ds))) (h : New s b) : b ≠ a := fun e => by
  subst e
  obtain ⟨v, _, rfl, hv⟩ := H.vals _ _ hl
  have h1 := h.1
  cases T with
  | true => obtain ⟨a', vs, n, dx, m, q, g, _⟩ := hv; cases q; rw [h1] at g; cases g
  | false => obtain ⟨a', vs, n, q, g, _⟩ := hv; cases q; rw [h1] at g; cases g
theorem comp_all {α : Type} {inj : α → D} {dec : D → Option α} {scope : Scope} {iter elt : Expr} {pos px : Pos} {x : Str} (hdec : ∀ a, dec (inj a) = some a) (g : α → D) {xs : List α} (it : Iter w A env σ (.Name x px) iter (xs.map inj)) (hz : xs.length ≤ 100)
    (elts : ∀ C a, Ev w A (envK scope C env) ((x, inj a) :: freeOf scope σ) elt (g a)) (fl : ∀ a, flat (g a) = true)
    (hx : scope.names.lookup x = some .local := by rfl) (ok : compOk scope env = true := by rfl) (kind : scope.kind = .function := by rfl) (free : ((freeOf scope σ).all fun p => !bears (.type "dict") p.2) = true := by rfl)
    (hs : ∀ x, foldedSetIterable iter env x = pure x := by intro _; rfl) :
    EvF w A env σ (.ListComp elt [⟨.Name x px, iter, [], 0⟩] scope pos) (.list (xs.map g)) := by
  have := comp_ev (ifs := []) (scope := scope) (pos := pos) hdec (fun _ => true) g it hz (fun _ _ _ => rfl) (fun C a _ _ => elts C a) fl hx ok kind free hs
  rwa [List.filter_eq_self.mpr fun _ _ => rfl] at this
end

def T1 (w : World) (tb : List Stmt) (sc : Scope) : Prop := ∀ (A : Around) (L aR aT : Addr) (n : Int) (rs : List Row) (s : Shared) (Q : Flow → Shared → Prop), LA A (lenv sc L) → rs.length ≤ 20 → Holds w (lenv sc L) (sg0 n rs rs aR aT) s →
    (∀ aC aB aP aH s', aC ≠ aR → aB ≠ aR → aH ≠ aR → aP ≠ aT → Ext (own (lenv sc L)) s s' → Holds w (lenv sc L) (sg n (lt n).1 (lt n).2 (lcs n) rs rs rs (idxsF (fun r => r.1 == (lt n).1) 0 rs) aC aB aP aH aR aT) s' → wpAny (md w) A (execs (tb.drop 4) (lenv sc L)) Q noE s') →
    wpAny (md w) A (execs tb (lenv sc L)) Q noE s
theorem t1 {w : World} : Is (T1 w (turnOf w.params) (scopeOf w.params)) := by
  refine law_cut (P := w.params) (T1 w) (fun P => by k_is) (by rfl) ?_
  refine ⟨?_⟩
  intro A L aR aT n rs s Q hA hz H kk
  with_reducible refine run_asg3 (d1 := .int (n.fmod 6)) (d2 := .int (lt n).1) (d3 := .str (lt n).2) hA.room.handled (ev_tuple (evs3 (ev_bin ?_ ev_int (bin_mod (by decide))) (ev_at0 (ev_lt hA.room ?_ (by decide) (PyProof.noPylong_of_log2 (by decide +kernel)) ?_)) (ev_at1 (ev_lt hA.room ?_ (by decide) (PyProof.noPylong_of_log2 (by decide +kernel)) ?_))) ?_ ?_) H (fun s1 e1 H1 => ?_) ?_ ?_ ?_ ?_ ?_ ?_
  · exact ev_name rfl
  · exact ev_name rfl
  · rfl
  · exact ev_name rfl
  · rfl
  · rfl
  · rfl
  rotate_left 1
  · exact .inl rfl
  · exact .inr ⟨rfl, rfl⟩
  · exact .inr ⟨rfl, rfl⟩
  · rfl
  · rfl
  · rfl
  with_reducible refine run_assignF (d := .list ((lcs n).map .int)) (evF_list (evs2 ?_ (ev_at0 (ev_lt hA.room ?_ (by decide) (PyProof.noPylong_of_log2 (by decide +kernel)) ?_))) ?_ ?_) H1 (fun aC s2 nC e2 H2 => ?_) ?_ ?_ ?_
  · exact ev_name rfl
  · exact ev_name rfl
  · rfl
  · rfl
  · rfl
  rotate_left 1
  · exact .inr ⟨rfl, rfl⟩
  · rfl
  · rfl
  have ne1 : aC ≠ aR := new_ne (T := false) (y := "rows") H1 rfl nC
  with_reducible refine run_swap2 (d1 := tagsD rs) (d2 := rowsD rs) hA.room.handled ?_ ?_ H2 (fun aP aB s3 nP nB e3 H3 => ?_) ?_ ?_ ?_ ?_ ?_ ?_
  · exact evF_meth (k := 38) (ev_at (ev_name rfl)) (m_clone _) (k_keep_copy _).2 (ds := []) rfl (fn_clone (by omega)) (hA.room.mono (by omega))
  · exact comp_all decRow_ok rowD (iter_list hA.room.handled (ev_at (ev_name rfl))) (by omega) (fun C a => ev_name rfl) (fun _ => rfl)
  rotate_left 1
  · exact .inl rfl
  · exact .inl rfl
  · rfl
  · rfl
  · rfl
  · rfl
  have ne2 : aB ≠ aR := new_ne (T := false) (y := "rows") H2 rfl nB
  have ne3 : aP ≠ aT := new_ne (T := true) (y := "tags") H2 rfl nP
  with_reducible refine run_hits (fun r => r.1 == (lt n).1) (rs := rs) hA.room.handled ?_ (by omega) H3 (fun C r i => ?_) (fun aH s4 nH e4 H4 => ?_) ?_ ?_ ?_ ?_ ?_ ?_ ?_ ?_ ?_ ?_ ?_
  · exact ev_at (ev_name rfl)
  · exact tst_cmp (ev_at0 (ev_name rfl)) (ev_name rfl) cmp_eq_int
  rotate_left 1
  · rfl
  · rfl
  · rfl
  · rfl
  · rfl
  · rfl
  · rfl
  · rfl
  · rfl
  · intro _; rfl
  · rfl
  have ne4 : aH ≠ aR := new_ne (T := false) (y := "rows") H3 rfl nH
  exact kk aC aB aP aH s4 ne1 ne2 ne4 ne3 (((e1.trans e2).trans e3).trans e4) H4
end Mine
end
section
open PySem PySem.W PyProof.Rows PySem.Builtin
set_option Elab.async false
set_option maxRecDepth 100000
namespace Mine

/-- each name of the one is a name of the other -/
def Sub (σ : List (Str × D)) : List (Str × D) → Prop
  | [] => True
  | p :: r => σ.lookup p.1 = some p.2 ∧ Sub σ r
theorem Sub.less {σ : List (Str × D)} : ∀ {σ' : List (Str × D)}, Sub σ σ' → ∀ y d, σ'.lookup y = some d → σ.lookup y = some d
  | [], _, _, _, h => by cases h
  | (n, e) :: r, ⟨h1, h2⟩, y, d, h => by
    rw [List.lookup_cons] at h
    split at h
    · rename_i q; cases h; rw [beq_iff_eq.mp q]; exact h1
    · exact h2.less y d h
def SubC (C : Value) (a : Addr) (d : D) (σ : List (Str × D)) : List (Str × D) → Prop
  | [] => True
  | p :: r => (∃ e, σ.lookup p.1 = some e ∧ ((e = p.2 ∧ safe C a e = true) ∨ ∃ x, e = .at a x ∧ p.2 = .at a d)) ∧ SubC C a d σ r
theorem SubC.get {C : Value} {a : Addr} {d : D} {σ : List (Str × D)} : ∀ {σ' : List (Str × D)}, SubC C a d σ σ' → ∀ y d', σ'.lookup y = some d' → ∃ e, σ.lookup y = some e ∧ ((e = d' ∧ safe C a e = true) ∨ ∃ x, e = .at a x ∧ d' = .at a d)
  | [], _, _, _, h => by cases h
  | (n, e) :: r, ⟨h1, h2⟩, y, d', h => by
    rw [List.lookup_cons] at h
    split at h
    · rename_i q; cases h; rw [beq_iff_eq.mp q]; exact h1
    · exact h2.get y d' h
section
variable {C : Value} {a b : Addr}
theorem safe_of {d : D} (h : bears C d = false) : safe C a d = true := by
  unfold safe
  split
  · rename_i ts
    have : bears C (.tags ts) = false := h
    rw [this]; simp
  · rename_i ts
    have : bears C (.list ts) = false := h
    rw [this]; simp
  · rw [h]; rfl
theorem safe_list {ds : List D} (hb : b ≠ a) (h : bearsL C ds = false) : safe C a (.at b (.list ds)) = true := by
  show ((!(b == a) && !bearsL C ds) || _) = true
  rw [h, beq_eq_false_iff_ne.mpr hb]; rfl
theorem safe_tags {ds : List D} (hb : b ≠ a) (hc : (C == .type "dict") = false) (h : bearsL C ds = false) : safe C a (.at b (.tags ds)) = true := by
  show ((!(b == a) && !(C == .type "dict") && !bearsL C ds) || _) = true
  rw [h, hc, beq_eq_false_iff_ne.mpr hb]; rfl
theorem bl_nats : ∀ {ns : List Nat}, bearsL C (ns.map fun i : Nat => D.int (i : Int)) = false
  | [] => rfl
  | n :: ns => by rw [List.map_cons, bearsL, bl_nats]; rfl
theorem bt_nats {ns : List Nat} : bears (.ref cTags) (natsD ns) = false := by rw [bears, bl_nats]; rfl
theorem bt_ints {ns : List Int} : bears (.ref cTags) (.list (ns.map .int)) = false := by rw [bears, bl_ints]; rfl
theorem bt_rows {rs : List Row} : bears (.ref cTags) (rowsD rs) = false := by rw [bears, bl_rows rfl]; rfl
theorem bs_tags {rs : List Row} : bears (.type "list") (tagsD rs) = false := by rw [bears, bl_tags rfl rfl]; rfl
end

section
variable {w : World} {A : Around} {env : Env} {σ : List (Str × D)} {s s' : Shared} {E : Value → Shared → Prop} {l : List Env}
  {n c : Int} {v : Str} {cs : List Int} {old rs ts rs' ts' : List Row} {hs : List Nat} {aC aB aP aH aR aT : Addr}
theorem sg_tags (H : Holds w env (sg n c v cs old rs ts hs aC aB aP aH aR aT) s) (hf : env.func.isSome = true) (x : Chg w (.ref cTags) aT (tagsD ts') s s') (ne : aP ≠ aT) : Holds w env (sg n c v cs old rs ts' hs aC aB aP aH aR aT) s' :=
  H.chg hf x (SubC.get ⟨⟨_, rfl, .inl ⟨rfl, safe_of bt_nats⟩⟩, ⟨_, rfl, .inl ⟨rfl, safe_tags ne rfl (bl_tags rfl rfl)⟩⟩, ⟨_, rfl, .inl ⟨rfl, safe_of bt_rows⟩⟩, ⟨_, rfl, .inl ⟨rfl, safe_of bt_ints⟩⟩,
    ⟨_, rfl, .inl ⟨rfl, rfl⟩⟩, ⟨_, rfl, .inl ⟨rfl, rfl⟩⟩, ⟨_, rfl, .inl ⟨rfl, rfl⟩⟩, ⟨_, rfl, .inl ⟨rfl, rfl⟩⟩, ⟨_, rfl, .inl ⟨rfl, safe_of bt_rows⟩⟩, ⟨_, rfl, .inr ⟨_, rfl, rfl⟩⟩, trivial⟩)
theorem sg_rows (H : Holds w env (sg n c v cs old rs ts hs aC aB aP aH aR aT) s) (hf : env.func.isSome = true) (x : Chg w (.type "list") aR (rowsD rs') s s') (n1 : aC ≠ aR) (n2 : aB ≠ aR) (n3 : aH ≠ aR) : Holds w env (sg n c v cs old rs' ts hs aC aB aP aH aR aT) s' :=
  H.chg hf x (SubC.get ⟨⟨_, rfl, .inl ⟨rfl, safe_list n3 bl_nats⟩⟩, ⟨_, rfl, .inl ⟨rfl, safe_of bs_tags⟩⟩, ⟨_, rfl, .inl ⟨rfl, safe_list n2 (bl_rows rfl)⟩⟩, ⟨_, rfl, .inl ⟨rfl, safe_list n1 bl_ints⟩⟩,
    ⟨_, rfl, .inl ⟨rfl, rfl⟩⟩, ⟨_, rfl, .inl ⟨rfl, rfl⟩⟩, ⟨_, rfl, .inl ⟨rfl, rfl⟩⟩, ⟨_, rfl, .inl ⟨rfl, rfl⟩⟩, ⟨_, rfl, .inr ⟨_, rfl, rfl⟩⟩, ⟨_, rfl, .inl ⟨rfl, safe_of bs_tags⟩⟩, trivial⟩)

/-- x[i] = row -/
theorem run_setrow {a : Addr} {o i e : Expr} {p pos : Pos} {rest : List Stmt} {j : Nat} {r : Row} {Q : Flow → Shared → Prop} {E : Value → Shared → Prop} (ho : Ev w A env σ o (.at a (rowsD rs))) (hi : Ev w A env σ i (.int (j : Int))) (he : Ev w A env σ e (rowD r)) (hj : j < rs.length) (hz : rs.length ≤ 100) (hn : nTop ≤ a) (H : Holds w env σ s)
    (k : ∀ s', Chg w (.type "list") a (rowsD (rs.set j r)) s s' → wpAny (md w) A (execs rest env) Q E s') (hs : swapsWith e (some (.Subscript o i p)) pos.line env = pure false) :
    wpAny (md w) A (execs (.Assign [.Subscript o i p] e pos :: rest) env) Q E s := by
  refine wpAny_execs_cons (wpAny_Assign_Subscript (wpAny_noE (ev_run he H) fun v s2 q2 => wpAny_noE (ev_run ho (H.ext q2.1)) fun ov s3 q3 => wpAny_noE (ev_run hi ((H.ext q2.1).ext q3.1)) fun iv s4 q4 => ?_) hs)
  have H2 := H.ext q2.1
  have H3 := H2.ext q3.1
  have H4 := H3.ext q4.1
  obtain ⟨x4, t, rfl⟩ := q4
  obtain ⟨x3, rfl, hov⟩ := q3
  refine wpAny_noE (set_list hn H4.base (x4.val0 H3.base hov) (d := rowD r) ((x3.trans x4).val0 H2.base q2.2) (by simpa using hj) (by simpa using Nat.le_trans hz (by decide)) (flat_set (fun d hd => ?_) rfl)) fun _ s5 z => ?_
  · obtain ⟨r', _, rfl⟩ := List.mem_map.mp hd; rfl
  · have z' := z.after ((q2.1.trans x3).trans x4)
    rw [show (rs.map rowD).set j (rowD r) = (rs.set j r).map rowD by rw [List.map_set]] at z'
    exact k s5 z'

/-- the roads of an if alone in its block -/
theorem blk_then {t : Expr} {a b : List Stmt} {pos : Pos} {R : Shared → Prop} (ht : Tst w A env σ t true) (H : Holds w env σ s) (k : ∀ s', Ext [] s s' → Holds w env σ s' → wpAny (md w) A (execs a env) (fun f s₁ => f = .next ∧ R s₁) E s') : wpAny (md w) A (execs [.If t a b pos] env) (fun f s₁ => f = .next ∧ R s₁) E s := by
  refine wpAny_execs_cons (wpAny_If (wpAny_noE (ht s H) fun c' s₁ q => ?_))
  obtain ⟨rfl, x⟩ := q
  exact wpAny_mono (k s₁ x (H.ext x)) (fun f s₂ z => by obtain ⟨rfl, z⟩ := z; exact wpAny_execs_nil ⟨rfl, z⟩) fun _ _ z => z
theorem blk_else {t : Expr} {a b : List Stmt} {pos : Pos} {R : Shared → Prop} (ht : Tst w A env σ t false) (H : Holds w env σ s) (k : ∀ s', Ext [] s s' → Holds w env σ s' → wpAny (md w) A (execs b env) (fun f s₁ => f = .next ∧ R s₁) E s') : wpAny (md w) A (execs [.If t a b pos] env) (fun f s₁ => f = .next ∧ R s₁) E s := by
  refine wpAny_execs_cons (wpAny_If (wpAny_noE (ht s H) fun c' s₁ q => ?_))
  obtain ⟨rfl, x⟩ := q
  exact wpAny_mono (k s₁ x (H.ext x)) (fun f s₂ z => by obtain ⟨rfl, z⟩ := z; exact wpAny_execs_nil ⟨rfl, z⟩) fun _ _ z => z
theorem exec_of {M : Model} {st : Stmt} {Q : Flow → Shared → Prop} (h : wpAny M A (execs [st] env) Q E s) : wpAny M A (exec st env) Q E s := fun Γ p hΓ => by
  have h' := h Γ p hΓ
  rw [execs_cons, Sem.wp_bind'] at h'
  refine Sem.wp_mono M Γ _ (fun f p' s' h2 => ?_) (fun _ _ _ h2 => h2) _ _ h'
  cases f <;> exact h2
/-- one statement and the others -/
theorem run_one {st : Stmt} {rest : List Stmt} {Q : Flow → Shared → Prop} (h : wpAny (md w) A (execs [st] env) (fun f s₁ => f = .next ∧ wpAny (md w) A (execs rest env) Q noE s₁) noE s) : wpAny (md w) A (execs (st :: rest) env) Q noE s := by
  exact wpAny_execs_cons (wpAny_mono (exec_of h) (fun f s' q => by obtain ⟨rfl, q⟩ := q; exact q) fun _ _ z => z)
theorem meth_chgU {k : Nat} {a : Addr} {o : Expr} {name : Str} {apos pos : Pos} {es : List Expr} {ts ds : List D} {f : Addr} {t : Value} {pl : Sem Bool} {d' rv : D} (ho : Ev w A env σ o (.at a (.tags ts))) (m : TMeth w name (.ref f) t) (hk : keepIn (KB w.params) (.ref f) = true) (hes : Evs w A env σ es ds) (hf : FnMU w k f (.at a (.tags ts) :: ds) a d' rv) (r : Room k A) (K : Stk A l s) (H : Holds w env σ s)
    (hst : noStar es = true := by rfl)
    (he : eval (.Call (.Attribute o name apos) es [] pos) env = (do
      let ov ← eval o env
      standAt apos.atName
      let (f, first) ← holding [ov] (getMethod ov name pl)
      callWith pos f first (backTo pos (starEach es env)) (backToKw pos (keywordEach [] env))) := by rfl) : wpAny (md w) A (eval (.Call (.Attribute o name apos) es [] pos) env) (fun v s' => Val s'.heap rv v ∧ ∃ sm, Upto l s sm ∧ Chg w (.ref cTags) a d' sm s') noE s := by
  refine eval_meth (wpAny_noE (ho s H) fun v s₁ q1 => tmeth m (H.base.ext q1.1) q1.2.2 ?_) he
  refine callW (callee_K hk) hes (H.ext q1.1) hst fun vs s₂ e H' hv => ?_
  have x := q1.1.trans e
  refine wpAny_call (codeAny_mono (hf A s₂ (v :: vs) l r H'.base (K.ext x (by simp)) ⟨v, vs, rfl, e.val0 (H.base.ext q1.1) q1.2, hv⟩) fun rr s₃ z => ?_)
  obtain ⟨u, sm, rfl, z1, z2, z3⟩ := z
  exact ⟨z1, sm, (Upto.of_ext K x).trans z2, z3⟩
end

section
theorem idxs_get {p : Row → Bool} : ∀ {rs : List Row} {k i : Nat}, i ∈ idxsF p k rs → ∃ j r, i = k + j ∧ rs[j]? = some r ∧ p r = true
  | [], _, _, h => by cases h
  | r :: rs, k, i, h => by
    unfold idxsF at h
    split at h
    · rename_i hp
      rcases List.mem_cons.mp h with q | q
      · exact ⟨0, r, q, rfl, hp⟩
      · obtain ⟨j, r', h1, h2, h3⟩ := idxs_get q
        exact ⟨j + 1, r', by omega, h2, h3⟩
    · obtain ⟨j, r', h1, h2, h3⟩ := idxs_get h
      exact ⟨j + 1, r', by omega, h2, h3⟩
theorem idxs_nil {p : Row → Bool} : ∀ {rs : List Row} {k : Nat}, idxsF p k rs = [] → ∀ r ∈ rs, p r = false
  | [], _, _, _, h => by cases h
  | r :: rs, k, h, r', hr => by
    unfold idxsF at h
    split at h
    · cases h
    · rename_i hp
      rcases List.mem_cons.mp hr with q | q
      · rw [q]; simpa using hp
      · exact idxs_nil h r' q
theorem idxs_first {p : Row → Bool} : ∀ {rs : List Row} {k n : Nat} {t : List Nat}, idxsF p k rs = n :: t → k ≤ n ∧ n - k < rs.length ∧ (∀ i, i < n - k → ∀ r, rs[i]? = some r → p r = false) ∧ ∃ r, rs[n - k]? = some r ∧ p r = true
  | [], _, _, _, h => by cases h
  | r :: rs, k, n, t, h => by
    unfold idxsF at h
    split at h
    · rename_i hp
      cases h
      rw [Nat.sub_self]
      exact ⟨Nat.le_refl _, Nat.zero_lt_succ _, fun i hi => absurd hi (Nat.not_lt_zero _), r, rfl, hp⟩
    · rename_i hp
      obtain ⟨h1, h2, h3, h4⟩ := idxs_first h
      have e : n - k = (n - (k + 1)) + 1 := by omega
      rw [e]
      refine ⟨by omega, by simpa using h2, fun i hi r' hr' => ?_, h4⟩
      cases i with
      | zero => cases hr'; simpa using hp
      | succ i => exact h3 i (by omega) r' hr'
theorem idxs_first0 {p : Row → Bool} {rs : List Row} {n : Nat} {t : List Nat} (h : idxsF p 0 rs = n :: t) : n < rs.length ∧ (∀ i, i < n → ∀ r, rs[i]? = some r → p r = false) ∧ ∃ r, rs[n]? = some r ∧ p r = true := by
  obtain ⟨_, h2, h3, h4⟩ := idxs_first h
  exact ⟨by simpa using h2, by simpa using h3, by simpa using h4⟩
theorem idxs_len {p : Row → Bool} : ∀ {rs : List Row} {k : Nat}, (idxsF p k rs).length ≤ rs.length
  | [], _ => Nat.le_refl _
  | r :: rs, k => by
    have := idxs_len (p := p) (rs := rs) (k := k + 1)
    unfold idxsF
    split
    · simpa using this
    · simp; omega
end
end Mine
end
section
open PySem PySem.W PyProof.Rows PySem.Builtin
set_option Elab.async false
set_option maxRecDepth 100000
namespace Mine

/-- what one kind of turn does -/
def TK (w : World) (j : Int) (tb : List Stmt) (sc : Scope) : Prop := ∀ (A : Around) (L aR aT : Addr) (n c : Int) (v : Str) (cs : List Int) (rs : List Row) (hs : List Nat) (aC aB aP aH : Addr) (s : Shared) (R : Shared → Prop),
  LA A (lenv sc L) → rs.length ≤ 20 → cs.length ≤ 50 → nTop ≤ aR → nTop ≤ aT → (v.length == 0) = false → (v ++ ("1" : Str)).length ≤ 1000 → n.fmod 6 = j → aC ≠ aR → aB ≠ aR → aH ≠ aR → aP ≠ aT → hs = idxsF (fun r => r.1 == c) 0 rs →
  Holds w (lenv sc L) (sg n c v cs rs rs rs hs aC aB aP aH aR aT) s →
  (∀ aR' rs' s', rs'.length ≤ rs.length + 1 → (aR' = aR ∨ New s aR') → Ext (aT :: aR :: own (lenv sc L)) s s' → Holds w (lenv sc L) (sg n c v cs rs rs' rs' hs aC aB aP aH aR' aT) s' → R s') →
  wpAny (md w) A (execs ((tb.drop 4).take 1) (lenv sc L)) (fun f s' => f = .next ∧ R s') noE s

theorem m_remove (w : World) : TMeth w "remove_tags" (.ref 292) (.type "function") := ⟨by kernel_rfl, by kernel_rfl, rfl⟩
theorem m_except (w : World) : TMeth w "remove_tags_except" (.ref 304) (.type "function") := ⟨by kernel_rfl, by kernel_rfl, rfl⟩
theorem k_keep_rem (P : Params) : keepIn (KB P) (.ref 292) = true ∧ keepIn (KB P) (.ref 304) = true := ⟨by kernel_rfl, by kernel_rfl⟩

section
variable {w : World} {A : Around} {env : Env} {σ : List (Str × D)} {s s' : Shared}
theorem tst_kind {p1 p2 p3 : Pos} {k : Nat} {m j : Int} {b : Bool} (h : σ.lookup ("kind" : Str) = some (D.int m)) (hb : (m == j) = b) : Tst w A env σ (.Compare (.Name "kind" p1) [.Eq] [.Constant (.int j) k p2] p3) b :=
  tst_of (tst_cmp (ev_name h) ev_int cmp_eq_int) hb
theorem cmp_run {op : CmpOp} {a b : D} {c : Bool} {u v : Value} (h : Cmp w A op a b c) (B : Base w s) (hu : Val s.heap a u) (hv : Val s.heap b v) : wpAny (md w) A (compareOp op u v) (fun x s' => x = .bool c ∧ Ext [] s s') noE s := h u v s B hu hv
theorem LA.u1 (hA : LA A env) : A.in1.units + 1 < cLine := by
  have := hA.room.units
  simp only [Around.in1_units]
  show _ < 9900
  omega
theorem LA.ne_rows (hA : LA A env) {rs : List Row} : Cmp w A .NotEq (rowsD rs) (rowsD rs) false := cmp_ne_lists (eqVs_rows hA.u1) hA.room.cline
theorem law_own {env : Env} {aT aR : Addr} (H : Holds w env σ s) (h1 : nTop ≤ aT) (h2 : nTop ≤ aR) : ∀ i ∈ aT :: aR :: own env, nTop ≤ i := fun i hi => by
  rcases List.mem_cons.mp hi with q | hi
  · rw [q]; exact h1
  · rcases List.mem_cons.mp hi with q | hi
    · rw [q]; exact h2
    · exact H.big i hi
theorem newer_S {S : List Addr} {z : Shared} {b : Addr} (e : Ext S s z) (n : New z b) (hS : ∀ i ∈ S, ∃ o, z.heap.get? i = some o) : New s b := by
  refine ⟨?_, n.2⟩
  cases q : s.heap.get? b with
  | none => rfl
  | some o =>
    have h := e.keep b o q (fun m => by obtain ⟨o', g⟩ := hS b m; rw [n.1] at g; cases g) (nTop_PH n.2) (nTop_PL n.2)
    rw [n.1] at h; cases h
theorem own_there (hA : LA A env) (H : Holds w env σ s) : ∀ i ∈ own env, ∃ o, s.heap.get? i = some o := fun i hi => by
  rcases List.mem_cons.mp hi with q | hi
  · obtain ⟨m, o, es, ep, g, _⟩ := H.ns
    exact ⟨o, by rw [q]; exact g⟩
  · obtain ⟨⟨x, c⟩, hp, rfl⟩ := List.mem_map.mp hi
    obtain ⟨v, o, g, _⟩ := H.cells x c (hA.cells _ hp)
    exact ⟨o, g⟩
theorem at_there {y : Str} {a : Addr} {ds : List D} {T : Bool} (H : Holds w env σ s) (hl : σ.lookup y = some (.at a (if T then .tags ds else .list ds))) : ∃ o, s.heap.get? a = some o := by
  obtain ⟨v, _, rfl, hv⟩ := H.vals _ _ hl
  cases T with
  | true => obtain ⟨a', vs, n, dx, m, q, g, _⟩ := hv; cases q; exact ⟨_, g⟩
  | false => obtain ⟨a', vs, n, q, g, _⟩ := hv; cases q; exact ⟨_, g⟩
theorem wkT {env : Env} {aT aR : Addr} {s1 s2 : Shared} (ho : ∀ i ∈ aT :: aR :: own env, nTop ≤ i) (e : Ext [aT] s1 s2) : Ext (aT :: aR :: own env) s1 s2 := e.wk (fun i hi => by rw [List.mem_singleton.mp hi]; exact List.mem_cons_self ..) ho
theorem wkR {env : Env} {aT aR : Addr} {s1 s2 : Shared} (ho : ∀ i ∈ aT :: aR :: own env, nTop ≤ i) (e : Ext [aR] s1 s2) : Ext (aT :: aR :: own env) s1 s2 := e.wk (fun i hi => by rw [List.mem_singleton.mp hi]; exact List.mem_cons_of_mem _ (List.mem_cons_self ..)) ho
theorem wkO {env : Env} {aT aR : Addr} {s1 s2 : Shared} (ho : ∀ i ∈ aT :: aR :: own env, nTop ≤ i) (e : Ext (own env) s1 s2) : Ext (aT :: aR :: own env) s1 s2 := e.wk (fun i hi => List.mem_cons_of_mem _ (List.mem_cons_of_mem _ hi)) ho
end

theorem tk2 {w : World} : Is (TK w 2 (turnOf w.params) (scopeOf w.params)) := by
  refine law_cut (P := w.params) (TK w 2) (fun P => by k_is) (by rfl) ?_
  refine ⟨?_⟩
  intro A L aR aT n c v cs rs hs aC aB aP aH s R hA hz hc nR nT v1 v2 hj ne1 ne2 ne3 ne4 hh H kk
  have ho := law_own H nT nR
  show wpAny (md w) A (execs [Stmt.If _ _ _ _] _) _ _ _
  with_reducible refine blk_else ?_ H fun s1 e1 H1 => ?_
  · exact tst_kind rfl (by rw [hj]; rfl)
  with_reducible refine blk_else ?_ H1 fun s2 e2 H2 => ?_
  · exact tst_kind rfl (by rw [hj]; rfl)
  with_reducible refine blk_then ?_ H2 fun s3 e3 H3 => ?_
  · exact tst_kind rfl (by rw [hj]; rfl)
  obtain ⟨rs', hrs⟩ : ∃ rs', rs' = rs.filter fun r => !cs.any (· == r.1) := ⟨_, rfl⟩
  have hl : rs'.length ≤ rs.length := by rw [hrs]; exact List.length_filter_le ..
  with_reducible refine run_expr (R := fun s' => Chg w (.ref cTags) aT (tagsD rs') s3 s') ?_ (fun s4 x4 => ?_) ?_ ?_
  · rw [hrs]
    exact wpAny_noE (meth_chg (k := 3) (ev_name rfl) (m_remove _) (k_keep_rem _).1 (evs1 (ev_at (ev_name rfl))) (fn_remove nT (by omega) hc) (hA.room.mono (by omega)) H3) fun v s' z => ⟨z.1, z.2⟩
  rotate_left 1
  · rfl
  · rfl
  have H4 := sg_tags H3 rfl x4 ne4
  with_reducible refine run_comp (rest := []) decRow_ok (fun r => !cs.any (· == r.1)) rowD (xs := rs) ?_ (by omega) H4 (fun C a _ => ?_) (fun C a _ _ => ?_) (fun _ => rfl) (fun aR' s5 nR' e5 H5 => ?_) ?_ ?_ ?_ ?_ ?_ ?_ ?_ ?_
  · exact iter_list hA.room.handled (ev_at (ev_name rfl))
  · exact tst_cmp (ev_at0 (ev_name rfl)) (ev_at (ev_name rfl)) cmp_notin_ints
  · exact ev_name rfl
  rotate_left 1
  · rfl
  · rfl
  · rfl
  · rfl
  · rfl
  · exact free_one (nb_ints cs)
  · rfl
  · intro _; rfl
  rw [← hrs] at H5
  have e34 : Ext [] s s3 := (e1.trans e2).trans e3
  have H6 : Holds w _ (sg n c v cs rs rs' rs' hs aC aB aP aH aR' aT) s5 := H5.less (Sub.less ⟨rfl, rfl, rfl, rfl, rfl, rfl, rfl, rfl, rfl, rfl, trivial⟩)
  have e4 := wkT ho x4.one
  have nR1 : New s aR' := H.base.newer e34 (newer_S x4.one nR' fun b hb => by rw [List.mem_singleton.mp hb]; exact at_there (T := true) (y := "tags") H4 rfl)
  have e05 := ((e34.wk0 ho).trans e4).trans (wkO ho e5)
  exact wpAny_execs_nil ⟨rfl, kk aR' rs' s5 (by omega) (.inr nR1) e05 H6⟩
end Mine
end
section
open PySem PySem.W PyProof.Rows PySem.Builtin
set_option Elab.async false
set_option maxRecDepth 100000
namespace Mine

theorem tk3 {w : World} : Is (TK w 3 (turnOf w.params) (scopeOf w.params)) := by
  refine law_cut (P := w.params) (TK w 3) (fun P => by k_is) (by rfl) ?_
  refine ⟨?_⟩
  intro A L aR aT n c v cs rs hs aC aB aP aH s R hA hz hc nR nT v1 v2 hj ne1 ne2 ne3 ne4 hh H kk
  have ho := law_own H nT nR
  show wpAny (md w) A (execs [Stmt.If _ _ _ _] _) _ _ _
  with_reducible refine blk_else ?_ H fun s1 e1 H1 => ?_
  · exact tst_kind rfl (by rw [hj]; rfl)
  with_reducible refine blk_else ?_ H1 fun s2 e2 H2 => ?_
  · exact tst_kind rfl (by rw [hj]; rfl)
  with_reducible refine blk_else ?_ H2 fun sa f1 Ha => ?_
  · exact tst_kind rfl (by rw [hj]; rfl)
  with_reducible refine blk_then ?_ Ha fun s3 f2 H3 => ?_
  · exact tst_kind rfl (by rw [hj]; rfl)
  have e3 := f1.trans f2
  obtain ⟨rs', hrs⟩ : ∃ rs', rs' = rs.filter fun r => cs.any (· == r.1) := ⟨_, rfl⟩
  have hl : rs'.length ≤ rs.length := by rw [hrs]; exact List.length_filter_le ..
  with_reducible refine run_expr (R := fun s' => Chg w (.ref cTags) aT (tagsD rs') s3 s') ?_ (fun s4 x4 => ?_) ?_ ?_
  · rw [hrs]
    exact wpAny_noE (meth_chg (k := 3) (ev_name rfl) (m_except _) (k_keep_rem _).2 (evs1 (ev_at (ev_name rfl))) (fn_except nT (by omega) hc) (hA.room.mono (by omega)) H3) fun v s' z => ⟨z.1, z.2⟩
  rotate_left 1
  · rfl
  · rfl
  have H4 := sg_tags H3 rfl x4 ne4
  with_reducible refine run_comp (rest := []) decRow_ok (fun r => cs.any (· == r.1)) rowD (xs := rs) ?_ (by omega) H4 (fun C a _ => ?_) (fun C a _ _ => ?_) (fun _ => rfl) (fun aR' s5 nR' e5 H5 => ?_) ?_ ?_ ?_ ?_ ?_ ?_ ?_ ?_
  · exact iter_list hA.room.handled (ev_at (ev_name rfl))
  · exact tst_cmp (ev_at0 (ev_name rfl)) (ev_at (ev_name rfl)) cmp_in_ints
  · exact ev_name rfl
  rotate_left 1
  · rfl
  · rfl
  · rfl
  · rfl
  · rfl
  · exact free_one (nb_ints cs)
  · rfl
  · intro _; rfl
  rw [← hrs] at H5
  have e34 : Ext [] s s3 := (e1.trans e2).trans e3
  have H6 : Holds w _ (sg n c v cs rs rs' rs' hs aC aB aP aH aR' aT) s5 := H5.less (Sub.less ⟨rfl, rfl, rfl, rfl, rfl, rfl, rfl, rfl, rfl, rfl, trivial⟩)
  have e4 := wkT ho x4.one
  have nR1 : New s aR' := H.base.newer e34 (newer_S x4.one nR' fun b hb => by rw [List.mem_singleton.mp hb]; exact at_there (T := true) (y := "tags") H4 rfl)
  have e05 := ((e34.wk0 ho).trans e4).trans (wkO ho e5)
  exact wpAny_execs_nil ⟨rfl, kk aR' rs' s5 (by omega) (.inr nR1) e05 H6⟩
end Mine
end
section
open PySem PySem.W PyProof.Rows PySem.Builtin
set_option Elab.async false
set_option maxRecDepth 100000
namespace Mine

theorem tk4 {w : World} : Is (TK w 4 (turnOf w.params) (scopeOf w.params)) := by
  refine law_cut (P := w.params) (TK w 4) (fun P => by k_is) (by rfl) ?_
  refine ⟨?_⟩
  intro A L aR aT n c v cs rs hs aC aB aP aH s R hA hz hc nR nT v1 v2 hj ne1 ne2 ne3 ne4 hh H kk
  have ho := law_own H nT nR
  show wpAny (md w) A (execs [Stmt.If _ _ _ _] _) _ _ _
  with_reducible refine blk_else ?_ H fun s1 e1 H1 => ?_
  · exact tst_kind rfl (by rw [hj]; rfl)
  with_reducible refine blk_else ?_ H1 fun s2 e2 H2 => ?_
  · exact tst_kind rfl (by rw [hj]; rfl)
  with_reducible refine blk_else ?_ H2 fun sa f1 Ha => ?_
  · exact tst_kind rfl (by rw [hj]; rfl)
  with_reducible refine blk_else ?_ Ha fun sb f2 Hb => ?_
  · exact tst_kind rfl (by rw [hj]; rfl)
  with_reducible refine blk_then ?_ Hb fun s3 f3 H3 => ?_
  · exact tst_kind rfl (by rw [hj]; rfl)
  have e3 := (f1.trans f2).trans f3
  obtain ⟨rs', hrs⟩ : ∃ rs', rs' = rs.filter fun r => !cs.any (· == r.1) := ⟨_, rfl⟩
  have hl : rs'.length ≤ rs.length := by rw [hrs]; exact List.length_filter_le ..
  with_reducible refine wpAny_execs_cons (wpAny_If (wpAny_isTrue_Compare1 (wpAny_noE (Q := fun v s' => ∃ b, v = .ref b ∧ New s3 b ∧ Val s'.heap (rowsD (rs.filter fun r => cs.any (· == r.1))) v ∧ Chg w (.ref cTags) aT (tagsD (rs.filter fun r => !cs.any (· == r.1))) s3 s') ?_ fun u s4 q4 => ?_) ?_))
  · exact ev_pop (k := 36) hA.room nT (by omega) hc (ev_name rfl) (ev_at (ev_name rfl)) H3 (fun C r => ev_tuple (evs2 (ev_code (k := 30) (hA.room.mono (by omega)) (ev_name rfl)) (ev_value (k := 30) (hA.room.mono (by omega)) (ev_name rfl))))
  rotate_left 1
  · with_unfolding_all rfl
  obtain ⟨b, hb, nb, hu, x4⟩ := q4
  rw [← hrs] at x4
  have H4 := sg_tags H3 rfl x4 ne4
  with_reducible refine wpAny_noE (ev_run (d := rowsD (rs.filter fun r => cs.any (· == r.1))) ?_ H4) fun v5 s5 q5 => ?_
  · exact EvF.ev (comp_ev decRow_ok (fun r => cs.any (· == r.1)) rowD (xs := rs) (iter_list hA.room.handled (ev_at (ev_name rfl))) (by omega) (fun C a _ => tst_cmp (ev_at0 (ev_name rfl)) (ev_at (ev_name rfl)) cmp_in_ints) (fun C a _ _ => ev_name rfl) (fun _ => rfl) rfl rfl rfl (free_one (nb_ints cs)) (fun _ => rfl))
  have H5 := H4.ext q5.1
  with_reducible refine wpAny_mono (cmp_run hA.ne_rows H5.base (q5.1.val0 H4.base hu) q5.2) (fun x s6 z => ?_) fun _ _ f => f
  obtain ⟨rfl, z⟩ := z
  refine wpAny_truthy_bool ?_
  refine wpAny_execs_nil ?_
  have H6 := H5.ext z
  have e36 : Ext [aT] s3 s6 := (x4.one.trans (q5.1.wk0 x4.one.own)).trans (z.wk0 x4.one.own)
  with_reducible refine run_comp (rest := []) decRow_ok (fun r => !cs.any (· == r.1)) rowD (xs := rs) ?_ (by omega) H6 (fun C a _ => ?_) (fun C a _ _ => ?_) (fun _ => rfl) (fun aR' s7 nR' e7 H7 => ?_) ?_ ?_ ?_ ?_ ?_ ?_ ?_ ?_
  · exact iter_list hA.room.handled (ev_at (ev_name rfl))
  · exact tst_cmp (ev_at0 (ev_name rfl)) (ev_at (ev_name rfl)) cmp_notin_ints
  · exact ev_name rfl
  rotate_left 1
  · rfl
  · rfl
  · rfl
  · rfl
  · rfl
  · exact free_one (nb_ints cs)
  · rfl
  · intro _; rfl
  rw [← hrs] at H7
  have e34 : Ext [] s s3 := (e1.trans e2).trans e3
  have H8 : Holds w _ (sg n c v cs rs rs' rs' hs aC aB aP aH aR' aT) s7 := H7.less (Sub.less ⟨rfl, rfl, rfl, rfl, rfl, rfl, rfl, rfl, rfl, rfl, trivial⟩)
  have e4 := wkT ho e36
  have nR1 : New s aR' := H.base.newer e34 (newer_S e36 nR' fun b hb => by rw [List.mem_singleton.mp hb]; exact at_there (T := true) (y := "tags") H6 rfl)
  have e05 := ((e34.wk0 ho).trans e4).trans (wkO ho e7)
  exact wpAny_execs_nil ⟨rfl, kk aR' rs' s7 (by omega) (.inr nR1) e05 H8⟩
end Mine
end
section
open PySem PySem.W PyProof.Rows PySem.Builtin
set_option Elab.async false
set_option maxRecDepth 100000
namespace Mine


section
variable {w : World} {A : Around} {env : Env} {σ : List (Str × D)} {s s' : Shared}
/-- x[0] of a row of numbers -/
theorem ev_head {e : Expr} {p q : Pos} {k n : Nat} {t : List Nat} (h : Ev w A env σ e (natsD (n :: t))) (hz : (n :: t).length ≤ 1000) : Ev w A env σ (.Subscript e (.Constant (.int 0) k p) q) (.int (n : Int)) :=
  ev_item_list h ev_int (by decide) rfl (by simpa using hz) (fun _ _ => rfl)
theorem tst_hits {e : Expr} {hs : List Nat} (h : Ev w A env σ e (natsD hs)) (hz : hs.length ≤ 1000) (he : ∀ whole, isTrue e env whole = (do let v ← whole; standAt e.pos; holding [v] (truthy v)) := by intro _; rfl) : Tst w A env σ e (!hs.isEmpty) := by
  have := tst_ev h (by show Nat.ble _ 1000 = true; rw [Nat.ble_eq]; simpa using hz) he
  have e2 : tru (natsD hs) = !hs.isEmpty := by cases hs <;> rfl
  rwa [e2] at this
theorem run_exprU {a : Addr} {d' : D} {e : Expr} {pos : Pos} {rest : List Stmt} {Q : Flow → Shared → Prop} {E : Value → Shared → Prop} (h : wpAny (md w) A (eval e env) (fun v s' => v = .none ∧ ∃ sm, Upto [env] s sm ∧ Chg w (.ref cTags) a d' sm s') noE s) (k : ∀ sm s', Upto [env] s sm → Chg w (.ref cTags) a d' sm s' → wpAny (md w) A (execs rest env) Q E s')
    (hi : interactive env = false := by rfl) (hs : swapsWith e none pos.line env = pure false := by rfl) : wpAny (md w) A (execs (.Expr e pos :: rest) env) Q E s :=
  run_expr h (fun s' q => let ⟨sm, x, y⟩ := q; k sm s' x y) hi hs
theorem m_setf (w : World) : TMeth w "set_first" (.ref 287) (.type "function") := ⟨by kernel_rfl, by kernel_rfl, rfl⟩
theorem k_keep_setf (P : Params) : keepIn (KB P) (.ref 287) = true := by kernel_rfl
end

theorem tk1 {w : World} : Is (TK w 1 (turnOf w.params) (scopeOf w.params)) := by
  refine law_cut (P := w.params) (TK w 1) (fun P => by k_is) (by rfl) ?_
  refine ⟨?_⟩
  intro A L aR aT n c v cs rs hs aC aB aP aH s R hA hz hc nR nT v1 v2 hj ne1 ne2 ne3 ne4 hh H kk
  have ho := law_own H nT nR
  show wpAny (md w) A (execs [Stmt.If _ _ _ _] _) _ _ _
  with_reducible refine blk_else ?_ H fun s1 e1 H1 => ?_
  · exact tst_kind rfl (by rw [hj]; rfl)
  with_reducible refine blk_then ?_ H1 fun s3 e3 H3 => ?_
  · exact tst_kind rfl (by rw [hj]; rfl)
  have e03 := e1.trans e3
  cases hs with
  | cons n0 t =>
    have hn := idxs_first0 hh.symm
    have hL : (n0 :: t).length ≤ 1000 := by rw [hh]; exact Nat.le_trans idxs_len (by omega)
    obtain ⟨hlt, hno, r0, hr0, hyes⟩ := hn
    obtain ⟨rs', hrs⟩ : ∃ rs', rs' = rs.set n0 (c, v) := ⟨_, rfl⟩
    have hl : rs'.length ≤ rs.length := by rw [hrs]; simp
    with_reducible refine run_expr (R := fun s' => Chg w (.ref cTags) aT (tagsD rs') s3 s') ?_ (fun s4 x4 => ?_) ?_ ?_
    · rw [hrs]
      exact wpAny_noE (meth_chg (k := 6) (ev_name rfl) (m_setf _) (k_keep_setf _) (evs1 (ev_make (k := 30) (hA.room.mono (by omega)) rfl (ev_name rfl) (ev_name rfl))) (fn_set_first1 nT (by omega) hlt hno hr0 hyes) (hA.room.mono (by omega)) H3) fun v s' z => ⟨z.1, z.2⟩
    rotate_left 1
    · rfl
    · rfl
    have H4 := sg_tags H3 rfl x4 ne4
    with_reducible refine blk_then ?_ H4 fun s5 e5 H5 => ?_
    · exact tst_hits (hs := n0 :: t) (ev_at (ev_name rfl)) hL
    with_reducible refine run_setrow (rest := []) (rs := rs) (j := n0) (r := (c, v)) ?_ ?_ ?_ hlt (by omega) nR H5 (fun s6 x6 => ?_) ?_
    · exact ev_name rfl
    · exact ev_head (ev_at (ev_name rfl)) hL
    · exact ev_tuple (evs2 (ev_name rfl) (ev_name rfl))
    rotate_left 1
    · rfl
    rw [← hrs] at x6
    have H6 := sg_rows H5 rfl x6 ne1 ne2 ne3
    exact wpAny_execs_nil ⟨rfl, kk aR rs' s6 (by omega) (.inl rfl) ((((e03.wk0 ho).trans (wkT ho x4.one)).trans (e5.wk0 ho)).trans (wkR ho x6.one)) H6⟩
  | nil =>
    have hn := idxs_nil hh.symm
    obtain ⟨rs', hrs⟩ : ∃ rs', rs' = rs ++ [(c, v)] := ⟨_, rfl⟩
    have hl : rs'.length = rs.length + 1 := by rw [hrs]; simp
    with_reducible refine run_exprU (a := aT) (d' := tagsD rs') ?_ (fun sm s4 um x4 => ?_) ?_ ?_
    · rw [hrs]
      exact wpAny_noE (meth_chgU (k := 6) (ev_name rfl) (m_setf _) (k_keep_setf _) (evs1 (ev_make (k := 30) (hA.room.mono (by omega)) rfl (ev_name rfl) (ev_name rfl))) (fn_set_first0 nT (by omega) fun i hi r hr => hn r (List.mem_of_getElem? hr)) (hA.room.mono (by omega)) (hA.stk H3) H3) fun v s' z => ⟨z.1, z.2⟩
    rotate_left 1
    · rfl
    · rfl
    have Hm := hA.upto H3 um
    have H4 := sg_tags Hm rfl x4 ne4
    with_reducible refine blk_else ?_ H4 fun s5 e5 H5 => ?_
    · exact tst_hits (hs := []) (ev_at (ev_name rfl)) (by decide)
    with_reducible refine run_expr (R := fun s' => Chg w (.type "list") aR (rowsD rs') s5 s') ?_ (fun s6 x6 => ?_) ?_ ?_
    · rw [show rowsD rs' = .list (rs.map rowD ++ [rowD (c, v)]) by rw [hrs]; show D.list _ = _; simp]
      exact ev_lappend nR (ev_name rfl) (ev_tuple (evs2 (ev_name rfl) (ev_name rfl))) (by simp; omega) (fun d hd => (List.mem_append.mp hd).elim (fun q => by obtain ⟨r', _, rfl⟩ := List.mem_map.mp q; rfl) fun q => by rw [List.mem_singleton.mp q]; rfl) H5
    rotate_left 1
    · rfl
    · rfl
    have H6 := sg_rows H5 rfl x6 ne1 ne2 ne3
    exact wpAny_execs_nil ⟨rfl, kk aR rs' s6 (by omega) (.inl rfl) (((((e03.wk0 ho).trans (wkO ho (hA.own H3 um))).trans (wkT ho x4.one)).trans (e5.wk0 ho)).trans (wkR ho x6.one)) H6⟩
end Mine
end
section
open PySem PySem.W PyProof.Rows PySem.Builtin
set_option Elab.async false
set_option maxRecDepth 100000
namespace Mine


section
variable {w : World} {A : Around} {env : Env} {σ : List (Str × D)} {s s' : Shared}
theorem chg_of {y : Str} {a : Addr} {ds : List D} {d : D} (H : Holds w env σ s) (hl : σ.lookup y = some (.at a (.tags ds))) (e : Ext [a] s s') (hv : Val s'.heap d (.ref a)) : Chg w (.ref cTags) a d s s' := by
  refine ⟨⟨s, Ext.refl s, e, fun o g => ?_⟩, hv⟩
  obtain ⟨v, _, rfl, h⟩ := H.vals _ _ hl
  obtain ⟨a', vs, n, dx, m, q, g', _⟩ := h
  cases q
  rw [g] at g'; cases g'
  exact ⟨rfl, (fun _ q => by cases q), (fun _ _ q => by cases q)⟩
/-- x = e, whatever e may change -/
theorem run_assignG {T : Shared → Prop} {σ' : List (Str × D)} {x : Str} {px pos : Pos} {e : Expr} {d : D} {rest : List Stmt} {Q : Flow → Shared → Prop} {E : Value → Shared → Prop} (h : wpAny (md w) A (eval e env) (fun v s' => Val s'.heap d v ∧ T s') noE s) (hT : ∀ s', T s' → Holds w env σ' s')
    (k : ∀ s1 s', T s1 → Ext (own env) s1 s' → Holds w env ((x, d) :: σ') s' → wpAny (md w) A (execs rest env) Q E s')
    (hk : env.kindOf x = some .local ∨ (env.kindOf x = some .cell ∧ (env.cells.lookup x).isSome = true)) (hf : env.func.isSome = true) (hs : swapsWith e (some (.Name x px)) pos.line env = pure false) : wpAny (md w) A (execs (.Assign [.Name x px] e pos :: rest) env) Q E s := by
  refine wpAny_execs_cons (wpAny_Assign_Name (wpAny_noE h fun v s1 q => ?_) hs)
  have H1 := hT s1 q.2
  exact H1.store q.1 hk (.inl hf) fun s' H' e _ _ _ => k s1 s' q.2 (own_wk H1 e) H'
end
theorem tk0 {w : World} : Is (TK w 0 (turnOf w.params) (scopeOf w.params)) := by
  refine law_cut (P := w.params) (TK w 0) (fun P => by k_is) (by rfl) ?_
  refine ⟨?_⟩
  intro A L aR aT n c v cs rs hs aC aB aP aH s R hA hz hc nR nT v1 v2 hj ne1 ne2 ne3 ne4 hh H kk
  have ho := law_own H nT nR
  show wpAny (md w) A (execs [Stmt.If _ _ _ _] _) _ _ _
  with_reducible refine blk_then ?_ H fun s3 e3 H3 => ?_
  · exact tst_kind rfl (by rw [hj]; rfl)
  cases hs with
  | cons n0 t =>
    have hn := idxs_first0 hh.symm
    have hL : (n0 :: t).length ≤ 1000 := by rw [hh]; exact Nat.le_trans idxs_len (by omega)
    obtain ⟨hlt, hno, r0, hr0, hyes⟩ := hn
    obtain ⟨rs', hrs⟩ : ∃ rs', rs' = rs.set n0 (c, v) := ⟨_, rfl⟩
    have hl : rs'.length ≤ rs.length := by rw [hrs]; simp
    with_reducible refine run_assignG (T := fun s' => Ext [aT] s3 s' ∧ Val s'.heap (tagsD rs') (.ref aT)) (d := .list [.none]) ?_ (fun s4 q4 => sg_tags H3 ?_ (chg_of (y := "tags") (ds := rs.map tagD) H3 ?_ q4.1 q4.2) ne4) (fun s4 s5 q4 e5 H5 => ?_) ?_ ?_ ?_
    · rw [hrs]
      exact ev_first_ok (k := 38) (S := [aT]) (K := fun z => Val z.heap (tagsD (rs.set n0 (c, v))) (.ref aT)) (σ' := freeOf _ (sg n c v cs rs rs rs (n0 :: t) aC aB aP aH aR aT)) (fun a ha => by rw [List.mem_singleton.mp ha]; exact nT) (fun a b B k e => e.val0 B k) hA.room H3 rfl rfl rfl rfl rfl rfl rfl (names_free rfl) rfl (fun _ _ _ _ => rfl) (fun y d q => ⟨(freeOf_lookup q).2, (freeOf_lookup q).1⟩)
        fun A' L' f cv s0 r' H0 => wpAny_noE (meth_chg (k := 5) (ev_name rfl) (m_update _) (k_keep_update _) (evs1 (ev_make (k := 30) (r'.mono (by omega)) rfl (ev_name rfl) (ev_name rfl))) (fn_update nT (by omega) hlt hno hr0 hyes) (r'.mono (by omega)) H0) fun v s' z => ⟨z.1, z.2.one, z.2.val⟩
    · rfl
    · rfl
    rotate_left 1
    · exact .inl rfl
    · rfl
    · rfl
    with_reducible refine run_if (c := false) ?_ H5 (fun q => by cases q) fun _ s6 e6 H6 => ?_
    · exact tst_cmp (ev_cmp (ev_name rfl) ev_none (cmp_is_none (fun h v hv q => by obtain ⟨a, vs, n, q', _⟩ := hv; rw [q] at q'; cases q'))) (ev_cmp (ev_at (ev_name rfl)) (EvF.ev (evF_list (ds := []) rfl)) (cmp_eq_empty hA.room.cline)) cmp_ne_bool
    have H7 : Holds w _ (sg n c v cs rs rs rs' (n0 :: t) aC aB aP aH aR aT) s6 := H6.less (Sub.less ⟨rfl, rfl, rfl, rfl, rfl, rfl, rfl, rfl, rfl, rfl, trivial⟩)
    with_reducible refine blk_then ?_ H7 fun s8 e8 H8 => ?_
    · exact tst_hits (hs := n0 :: t) (ev_at (ev_name rfl)) hL
    with_reducible refine run_setrow (rest := []) (rs := rs) (j := n0) (r := (c, v)) ?_ ?_ ?_ hlt (by omega) nR H8 (fun s9 x9 => ?_) ?_
    · exact ev_name rfl
    · exact ev_head (ev_at (ev_name rfl)) hL
    · exact ev_tuple (evs2 (ev_name rfl) (ev_name rfl))
    rotate_left 1
    · rfl
    rw [← hrs] at x9
    have H9 := sg_rows H8 rfl x9 ne1 ne2 ne3
    exact wpAny_execs_nil ⟨rfl, kk aR rs' s9 (by omega) (.inl rfl) ((((((e3.wk0 ho).trans (wkT ho q4.1)).trans (wkO ho e5)).trans (e6.wk0 ho)).trans (e8.wk0 ho)).trans (wkR ho x9.one)) H9⟩
  | nil =>
    have hn := idxs_nil hh.symm
    with_reducible refine run_assignG (T := fun s' => Upto [_] s3 s') (d := .none) (evU_run ?_ H3) (fun s4 q4 => hA.upto H3 q4) (fun s4 s5 q4 e5 H5 => ?_) ?_ ?_ ?_
    · exact evU_none hA fun A' L' f cv l' s0 r' K' H0 => meth_raise (k := 5) (ev_at (ev_name rfl)) (m_update _) (k_keep_update _) (evs1 (ev_make (k := 30) (r'.mono (by omega)) rfl (ev_name rfl) (ev_name rfl))) (fnx_update (q := (c, v)) (by omega) fun i hi r hr => hn r (List.mem_of_getElem? hr)) (r'.mono (by omega)) K' H0
    rotate_left 1
    · exact .inl rfl
    · rfl
    · rfl
    with_reducible refine run_if (c := false) ?_ H5 (fun q => by cases q) fun _ s6 e6 H6 => ?_
    · exact tst_cmp (ev_cmp (ev_name rfl) ev_none cmp_none_none) (ev_cmp (ev_at (ev_name rfl)) (EvF.ev (evF_list (ds := []) rfl)) (cmp_eq_empty hA.room.cline)) cmp_ne_bool
    have H7 : Holds w _ (sg n c v cs rs rs rs [] aC aB aP aH aR aT) s6 := H6.less (Sub.less ⟨rfl, rfl, rfl, rfl, rfl, rfl, rfl, rfl, rfl, rfl, trivial⟩)
    with_reducible refine blk_else ?_ H7 fun s8 e8 H8 => ?_
    · exact tst_hits (hs := []) (ev_at (ev_name rfl)) (by decide)
    exact wpAny_execs_nil ⟨rfl, kk aR rs s8 (by omega) (.inl rfl) (((((e3.wk0 ho).trans (wkO ho (hA.own H3 q4))).trans (wkO ho e5)).trans (e6.wk0 ho)).trans (e8.wk0 ho)) H8⟩
end Mine
end
section
open PySem PySem.W PyProof.Rows PySem.Builtin
set_option Elab.async false
set_option maxRecDepth 100000
namespace Mine


theorem m_repl (w : World) : TMeth w "replace_handle" (.ref 230) (.type "function") := ⟨by kernel_rfl, by kernel_rfl, rfl⟩
theorem k_keep_repl (P : Params) : keepIn (KB P) (.ref 230) = true := by kernel_rfl
theorem tk5 {w : World} : Is (TK w 5 (turnOf w.params) (scopeOf w.params)) := by
  refine law_cut (P := w.params) (TK w 5) (fun P => by k_is) (by rfl) ?_
  refine ⟨?_⟩
  intro A L aR aT n c v cs rs hs aC aB aP aH s R hA hz hc nR nT v1 v2 hj ne1 ne2 ne3 ne4 hh H kk
  have ho := law_own H nT nR
  show wpAny (md w) A (execs [Stmt.If _ _ _ _] _) _ _ _
  with_reducible refine blk_else ?_ H fun s1 e1 H1 => ?_
  · exact tst_kind rfl (by rw [hj]; rfl)
  with_reducible refine blk_else ?_ H1 fun s2 e2 H2 => ?_
  · exact tst_kind rfl (by rw [hj]; rfl)
  with_reducible refine blk_else ?_ H2 fun s3 e3 H3 => ?_
  · exact tst_kind rfl (by rw [hj]; rfl)
  with_reducible refine blk_else ?_ H3 fun s4 e4 H4 => ?_
  · exact tst_kind rfl (by rw [hj]; rfl)
  with_reducible refine blk_else ?_ H4 fun s5 e5 H5 => ?_
  · exact tst_kind rfl (by rw [hj]; rfl)
  have e05 := (((e1.trans e2).trans e3).trans e4).trans e5
  obtain ⟨v', hv'⟩ : ∃ v' : Str, v' = v ++ ("1" : Str) := ⟨_, rfl⟩
  have hcat : ∀ {A : Around}, Bin w A .Add (.str v) (.str "1") (.str v') := fun {A} => by rw [hv']; exact bin_cat v1 rfl v2
  obtain ⟨ps, hps⟩ : ∃ ps, ps = idxsF (fun r => isH r.1) 0 rs := ⟨_, rfl⟩
  have hL : ps.length ≤ 1000 := by rw [hps]; exact Nat.le_trans idxs_len (by omega)
  obtain ⟨rs', hrs⟩ : ∃ rs', rs' = (match ps with | [] => rs | n0 :: _ => rs.set n0 ((rs.getD n0 (0, "")).1, v')) := ⟨_, rfl⟩
  have hl : rs'.length = rs.length := by rw [hrs]; cases ps <;> simp
  with_reducible refine run_expr (R := fun s' => Chg w (.ref cTags) aT (tagsD rs') s5 s') ?_ (fun s6 x6 => ?_) ?_ ?_
  · rw [hrs]
    cases ps with
    | nil => exact wpAny_noE (meth_chg (k := 3) (ev_name rfl) (m_repl _) (k_keep_repl _) (evs1 (ev_bin (ev_name rfl) ev_str hcat)) (fn_replace0 nT (by omega) (idxs_nil hps.symm)) (hA.room.mono (by omega)) H5) fun v s' z => ⟨z.1, z.2⟩
    | cons n0 t =>
      obtain ⟨hlt, hno, r0, hr0, hyes⟩ := idxs_first0 hps.symm
      have e0 : rs.getD n0 (0, "") = r0 := by rw [List.getD_eq_getElem?_getD, hr0]; rfl
      simp only [e0]
      exact wpAny_noE (meth_chg (k := 3) (ev_name rfl) (m_repl _) (k_keep_repl _) (evs1 (ev_bin (ev_name rfl) ev_str hcat)) (fn_replace1 nT (by omega) hno hr0 hyes) (hA.room.mono (by omega)) H5) fun v s' z => ⟨z.1, z.2⟩
  rotate_left 1
  · rfl
  · rfl
  have H6 := sg_tags H5 rfl x6 ne4
  with_reducible refine run_hits (fun r => isH r.1) (rs := rs) hA.room.handled ?_ (by omega) H6 (fun C r i => ?_) (fun aL s7 nL e7 H7 => ?_) ?_ ?_ ?_ ?_ ?_ ?_ ?_ ?_ ?_ ?_ ?_
  · exact ev_at (ev_name rfl)
  · exact tst_cmp (ev_at0 (ev_name rfl)) (ev_inttup (ns := [5, 105]) (by kernel_rfl) (by decide)) cmp_in_tup
  rotate_left 1
  · rfl
  · rfl
  · rfl
  · rfl
  · rfl
  · rfl
  · rfl
  · rfl
  · rfl
  · intro _; rfl
  · rfl
  rw [← hps] at H7
  have e57 := (((e05.wk0 ho).trans (wkT ho x6.one)).trans (wkO ho e7))
  cases ps with
  | nil =>
    with_reducible refine blk_else ?_ H7 fun s8 e8 H8 => ?_
    · exact tst_hits (hs := []) (ev_at (ev_name rfl)) (by decide)
    have H9 : Holds w _ (sg n c v cs rs rs rs' hs aC aB aP aH aR aT) s8 := H8.less (Sub.less ⟨rfl, rfl, rfl, rfl, rfl, rfl, rfl, rfl, rfl, rfl, trivial⟩)
    rw [show rs' = rs from hrs] at H9
    exact wpAny_execs_nil ⟨rfl, kk aR rs s8 (by omega) (.inl rfl) (e57.trans (e8.wk0 ho)) H9⟩
  | cons n0 t =>
    obtain ⟨hlt, hno, r0, hr0, hyes⟩ := idxs_first0 hps.symm
    have e0 : rs.getD n0 (0, "") = r0 := by rw [List.getD_eq_getElem?_getD, hr0]; rfl
    have hrs2 : rs' = rs.set n0 (r0.1, v') := by rw [hrs]; simp only [e0]
    with_reducible refine blk_then ?_ H7 fun s8 e8 H8 => ?_
    · exact tst_hits (hs := n0 :: t) (ev_at (ev_name rfl)) hL
    with_reducible refine run_setrow (rest := []) (rs := rs) (j := n0) (r := (r0.1, v')) ?_ ?_ ?_ hlt (by omega) nR H8 (fun s9 x9 => ?_) ?_
    · exact ev_name rfl
    · exact ev_head (ev_at (ev_name rfl)) hL
    · exact ev_tuple (evs2 (ev_at0 (r := r0) (ev_item_list (ev_at (ev_name rfl)) (ev_head (ev_at (ev_name rfl)) hL) (by omega) (by rw [Int.toNat_natCast, List.getElem?_map, hr0]; rfl) (by simp; omega) (fun _ _ => rfl))) (ev_bin (ev_name rfl) ev_str hcat))
    rotate_left 1
    · rfl
    rw [← hrs2] at x9
    have H9 : Holds w _ (sg n c v cs rs rs rs' hs aC aB aP aH aR aT) s8 := H8.less (Sub.less ⟨rfl, rfl, rfl, rfl, rfl, rfl, rfl, rfl, rfl, rfl, trivial⟩)
    have H10 := sg_rows H9 rfl x9 ne1 ne2 ne3
    exact wpAny_execs_nil ⟨rfl, kk aR rs' s9 (by omega) (.inl rfl) ((e57.trans (e8.wk0 ho)).trans (wkR ho x9.one)) H10⟩
end Mine
end
section
open PySem PySem.W PyProof.Rows PySem.Builtin
set_option Elab.async false
set_option maxRecDepth 100000

namespace Mine

/-- the names after the change -/
abbrev sA (n c : Int) (cs : List Int) (rs : List Row) (hs : List Nat) (fD : D) (aC aH aR aT : Addr) : List (Str × D) :=
  [("first", fD), ("hits", .at aH (natsD hs)), ("codes", .at aC (.list (cs.map .int))), ("code", .int c), ("number", .int n), ("rows", .at aR (rowsD rs)), ("tags", .at aT (tagsD rs))]
/-- the hits and the first of them -/
def Hits (c : Int) (rs : List Row) (hs : List Nat) (fD : D) : Prop := hs = idxsF (fun r => r.1 == c) 0 rs ∧ ((hs = [] ∧ fD = .none ∧ firstOf rs c = none) ∨ ∃ n0 t r0, hs = n0 :: t ∧ fD = rowD r0 ∧ firstOf rs c = some r0)
theorem firstOf_hits {c : Int} {rs : List Row} {n0 : Nat} {t : List Nat} (h : n0 :: t = idxsF (fun r => r.1 == c) 0 rs) : ∃ r0, rs[n0]? = some r0 ∧ firstOf rs c = some r0 := by
  obtain ⟨hlt, hno, r0, hr0, hyes⟩ := idxs_first0 h.symm
  refine ⟨r0, hr0, ?_⟩
  unfold firstOf
  rw [List.find?_eq_some_iff_getElem]
  refine ⟨hyes, n0, hlt, ?_, fun j hj => ?_⟩
  · rw [List.getElem?_eq_getElem hlt] at hr0; exact Option.some.inj hr0
  · have hjl : j < rs.length := Nat.lt_trans hj hlt
    simpa using hno j hj _ (List.getElem?_eq_getElem hjl)

section
variable {w : World} {A : Around} {env : Env} {σ : List (Str × D)} {s s' : Shared}
/-- [(tag.code, tag.value) for tag in x] -/
theorem ev_pairs {e : Expr} {rs : List Row} {p1 p2 p3 p4 p5 px pos : Pos} {k : Nat} {scope : Scope} (hA : LA A env) (he : Ev w A env σ e (tagsD rs)) (hz : rs.length ≤ 100)
    (hx : scope.names.lookup ("tag" : Str) = some .local := by rfl) (ok : compOk scope env = true := by rfl) (kind : scope.kind = .function := by rfl) (free : ((freeOf scope σ).all fun p => !bears (.type "dict") p.2) = true := by rfl)
    (hs : ∀ x, foldedSetIterable e env x = pure x := by intro _; rfl) :
    Ev w A env σ (.ListComp (.Tuple [.Attribute (.Name "tag" p1) "code" p2, .Attribute (.Name "tag" p3) "value" p4] k p5) [⟨.Name "tag" px, e, [], 0⟩] scope pos) (rowsD rs) :=
  EvF.ev (comp_all decTag_ok rowD (iter_tags hA.room.handled he) hz (fun C a => ev_tuple (evs2 (ev_code (k := 30) (hA.room.mono (by omega)) (ev_name rfl)) (ev_value (k := 30) (hA.room.mono (by omega)) (ev_name rfl)))) (fun _ => rfl) hx ok kind free hs)
theorem noneU2 {e f : Expr} (h1 : TstU w A env σ e false) (h2 : TstU w A env σ f false) : NoneU w A env σ [e, f] := ⟨h1, h2, trivial⟩
theorem noneU3 {e f g : Expr} (h1 : TstU w A env σ e false) (h2 : TstU w A env σ f false) (h3 : TstU w A env σ g false) : NoneU w A env σ [e, f, g] := ⟨h1, h2, h3, trivial⟩
end

def TA (w : World) (tb : List Stmt) (sc : Scope) : Prop := ∀ (A : Around) (L aR aT : Addr) (n c : Int) (v : Str) (cs : List Int) (old rs : List Row) (hs : List Nat) (aC aB aP aH : Addr) (s : Shared) (Q : Flow → Shared → Prop),
  LA A (lenv sc L) → old.length ≤ 20 → rs.length ≤ 20 → Holds w (lenv sc L) (sg n c v cs old rs rs hs aC aB aP aH aR aT) s →
  (∀ aH' hs' fD s', Hits c rs hs' fD → Ext (own (lenv sc L)) s s' → Holds w (lenv sc L) (sA n c cs rs hs' fD aC aH' aR aT) s' → wpAny (md w) A (execs (tb.drop 8) (lenv sc L)) Q noE s') →
  wpAny (md w) A (execs (tb.drop 5) (lenv sc L)) Q noE s

theorem ta {w : World} : Is (TA w (turnOf w.params) (scopeOf w.params)) := by
  refine law_cut (P := w.params) (TA w) (fun P => by k_is) (by rfl) ?_
  refine ⟨?_⟩
  intro A L aR aT n c v cs old rs hs aC aB aP aH s Q hA hz0 hz H kk
  show wpAny (md w) A (execs (Stmt.If _ _ _ _ :: _) _) _ _ _
  with_reducible refine run_ifU hA (tstU_or hA (noneU2 ?_ ?_)) H fun s1 e1 H1 => ?_
  · exact Tst.u hA (tst_cmp (ev_pairs hA (ev_at (ev_name rfl)) (by omega)) (ev_at (ev_name rfl)) hA.ne_rows)
  · exact Tst.u hA (tst_cmp (ev_pairs hA (ev_at (ev_name rfl)) (by omega)) (ev_at (ev_name rfl)) hA.ne_rows)
  with_reducible refine run_hits (fun r => r.1 == c) (rs := rs) hA.room.handled ?_ (by omega) H1 (fun C r i => ?_) (fun aH' s2 nH e2 H2 => ?_) ?_ ?_ ?_ ?_ ?_ ?_ ?_ ?_ ?_ ?_ ?_
  · exact ev_at (ev_name rfl)
  · exact tst_cmp (ev_at0 (ev_name rfl)) (ev_name rfl) cmp_eq_int
  rotate_left 1
  · rfl
  · rfl
  · rfl
  · rfl
  · rfl
  · rfl
  · rfl
  · rfl
  · rfl
  · intro _; rfl
  · rfl
  obtain ⟨hs', hh⟩ : ∃ hs', hs' = idxsF (fun r => r.1 == c) 0 rs := ⟨_, rfl⟩
  rw [← hh] at H2
  have hL : hs'.length ≤ 1000 := by rw [hh]; exact Nat.le_trans idxs_len (by omega)
  obtain ⟨fD, hf, hev⟩ : ∃ fD, Hits c rs hs' fD ∧ ((hs' = [] ∧ fD = .none) ∨ ∃ n0 t r0, hs' = n0 :: t ∧ rs[n0]? = some r0 ∧ fD = rowD r0) := by
    cases hs' with
    | nil => exact ⟨.none, ⟨hh, .inl ⟨rfl, rfl, List.find?_eq_none.mpr fun r hr => by rw [idxs_nil hh.symm r hr]; simp⟩⟩, .inl ⟨rfl, rfl⟩⟩
    | cons n0 t =>
      obtain ⟨r0, h1, h2⟩ := firstOf_hits hh
      exact ⟨rowD r0, ⟨hh, .inr ⟨n0, t, r0, rfl, rfl, h2⟩⟩, .inr ⟨n0, t, r0, rfl, h1, rfl⟩⟩
  with_reducible refine run_assign (d := fD) (ev_ifexp (b := !hs'.isEmpty) ?_ (fun hb => ?_) (fun hb => ?_)) H2 (fun s3 e3 H3 => ?_) ?_ ?_ ?_
  · exact tst_hits (ev_at (ev_name rfl)) hL
  · rcases hev with ⟨rfl, rfl⟩ | ⟨n0, t, r0, rfl, hr, rfl⟩
    · cases hb
    · exact ev_item_list (ev_at (ev_name rfl)) (ev_head (ev_at (ev_name rfl)) hL) (by omega) (by rw [Int.toNat_natCast, List.getElem?_map, hr]; rfl) (by simp; omega) (fun _ _ => rfl)
  · rcases hev with ⟨rfl, rfl⟩ | ⟨n0, t, r0, rfl, hr, rfl⟩
    · exact ev_none
    · cases hb
  rotate_left 1
  · exact .inl rfl
  · rfl
  · rfl
  exact kk aH' hs' fD s3 hf ((e1.trans e2).trans e3) (H3.less (Sub.less ⟨rfl, rfl, rfl, rfl, rfl, rfl, rfl, trivial⟩))
end Mine
end
section
open PySem PySem.W PyProof.Rows PySem.Builtin
set_option Elab.async false
set_option maxRecDepth 100000
namespace Mine

theorem k_strip_ga (P : Params) : specialIn (KB P) (.ref cTags) "__getattribute__" = some (some (.builtin "type.__getattribute__")) := by kernel_rfl
theorem k_strip_mc (P : Params) : readsIn (KB P) cTags (.type "type") = true := by kernel_rfl
theorem k_strip_cls (P : Params) : findCls (KB P) (.ref cTags) (.type "type") "strip" = some (.get (.builtin "classmethod.__get__") (.ref 331) .none (.ref cTags)) := by kernel_rfl
theorem k_strip_rec (P : Params) : ∃ r, recIn (KB P) 331 "classmethod" = some (.ref 329 :: r) := rec_head (by kernel_rfl)
theorem k_strip_fn (P : Params) : fnIn (KB P) 329 = true := by kernel_rfl
section
variable {w : World} {A : Around} {env : Env} {σ : List (Str × D)} {E : Value → Shared → Prop}
theorem callM {pos : Pos} {q g : Addr} {self : Value} {es : List Expr} {ds : List D} {s : Shared} {Q : Value → Shared → Prop} (hf : fnIn (KB w.params) g = true) (hq : s.heap.get? q = some (methodObj (.ref g) self)) (h : Evs w A env σ es ds) (H : Holds w env σ s) (hst : noStar es = true) (hne : es ≠ [])
    (hc : ∀ vs s', Ext [] s s' → Holds w env σ s' → Vals s'.heap ds vs → s'.heap.get? q = some (methodObj (.ref g) self) → wpAny (md w) A (call (.ref q) vs) Q E s') : wpAny (md w) A (callWith pos (.ref q) [] (backTo pos (starEach es env)) []) Q E s := by
  refine callWith_of (P := MethP (KB w.params) q g self) (by rw [star_false hst]; rfl) (keeps_M hf) ?_
  have key : wpAny (md w) A (spliced (backTo pos (starEach es env))) (fun vs s' => MethP (KB w.params) q g self s'.heap ∧ wpAny (md w) A (call (.ref q) ([] ++ vs)) Q E s') E s :=
    wpAny_noE (evs_run h hst H) fun vs s' z => by
      have h2 := z.1.at0 H.base hq (by simp)
      exact ⟨⟨h2, (H.base.ext z.1).KB⟩, hc vs s' z.1 (H.ext z.1) z.2 h2⟩
  cases es with
  | nil => exact absurd rfl hne
  | cons e r =>
    have e1 : backTo pos (starEach (e :: r) env) = (false, eval e env) :: backTo pos (starEach r env) := by
      unfold noStar at hst
      rw [List.all_cons, Bool.and_eq_true] at hst
      cases e <;> first | rfl | (simp at hst; done)
    rw [e1] at key ⊢
    exact Calls.evalArgs_plain key

/-- Tags.strip(x, y) -/
theorem ev_strip {k : Nat} {px apos pos : Pos} {e1 e2 : Expr} {rs : List Row} {cs : List Int} {pl : Sem Bool} (hx : env.kindOf "Tags" = some .globalImplicit) (h1 : Ev w A env σ e1 (tagsD rs)) (h2 : Ev w A env σ e2 (.list (cs.map .int))) (hz : rs.length ≤ 100) (hc : cs.length ≤ 50) (r : Room (k + 3) A)
    (hst : noStar [e1, e2] = true := by rfl)
    (he : eval (.Call (.Attribute (.Name "Tags" px) "strip" apos) [e1, e2] [] pos) env = (do
      let ov ← eval (.Name "Tags" px) env
      standAt apos.atName
      let (f, first) ← holding [ov] (getMethod ov "strip" pl)
      callWith pos f first (backTo pos (starEach [e1, e2] env)) (backToKw pos (keywordEach [] env))) := by rfl) :
    Ev w A env σ (.Call (.Attribute (.Name "Tags" px) "strip" apos) [e1, e2] [] pos) (tagsD (rs.filter fun r => !cs.any (· == r.1))) := fun s H => by
  refine eval_meth (wpAny_noE ((gl_main hx (k_g_tags _) : Gl w A env σ _ _) s H) fun v s₁ q1 => ?_) he
  obtain ⟨rfl, rfl⟩ := q1
  obtain ⟨rr, hr⟩ := k_strip_rec w.params
  refine method_cls H.base.KB (k_strip_ga _) ?_
  refine cls_bind H.base.KB (k_strip_mc _) (k_strip_cls _) (wpAny_call (cm_get (s := { s₁ with toks := s₁.toks + 1 }) H.base.KB hr (handed_on rfl ?_)))
  have e1 : Ext [] s₁ { s₁ with heap := s₁.heap.push (methodObj (.ref 329) (.ref cTags)), toks := s₁.toks + 1 } := Ext.push
  refine callM (k_strip_fn _) (Heap.get?_push_size _ rfl) (evs2 h1 h2) (H.ext e1) hst (by simp) fun vs s2 e2 H2 hv hq => ?_
  refine wpAny_call (method_call hq (codeAny_mono (fn_strip (k := k) hz hc A s2 (.ref cTags :: vs) r H2.base ⟨_, _, rfl, rfl, hv⟩) fun r s3 z => ?_))
  obtain ⟨v, rfl, z⟩ := z
  exact ⟨(e1.trans e2).trans z.1, z.2⟩
end
end Mine
end
section
open PySem PySem.W PyProof.Rows PySem.Builtin
set_option Elab.async false
set_option maxRecDepth 100000
namespace Mine

theorem m_has (w : World) : TMeth w "has_tag" (.ref 244) (.type "function") := ⟨by kernel_rfl, by kernel_rfl, rfl⟩
theorem m_fv (w : World) : TMeth w "get_first_value" (.ref 252) (.type "function") := ⟨by kernel_rfl, by kernel_rfl, rfl⟩
theorem m_ft (w : World) : TMeth w "get_first_tag" (.ref 260) (.type "function") := ⟨by kernel_rfl, by kernel_rfl, rfl⟩
theorem m_find (w : World) : TMeth w "find_all" (.ref 265) (.type "function") := ⟨by kernel_rfl, by kernel_rfl, rfl⟩
theorem m_filter (w : World) : TMeth w "filter" (.ref 309) (.type "function") := ⟨by kernel_rfl, by kernel_rfl, rfl⟩
theorem k_keep_b (P : Params) : keepIn (KB P) (.ref 244) = true ∧ keepIn (KB P) (.ref 252) = true ∧ keepIn (KB P) (.ref 260) = true ∧ keepIn (KB P) (.ref 265) = true ∧ keepIn (KB P) (.ref 309) = true := ⟨by kernel_rfl, by kernel_rfl, by kernel_rfl, by kernel_rfl, by kernel_rfl⟩
theorem any_hits {c : Int} {rs : List Row} : (rs.any fun r => r.1 == c) = !(idxsF (fun r => r.1 == c) 0 rs).isEmpty := by
  obtain ⟨hs, h⟩ : ∃ hs, hs = idxsF (fun r => r.1 == c) 0 rs := ⟨_, rfl⟩
  rw [← h]
  cases hs with
  | nil =>
    have := idxs_nil h.symm
    rw [List.any_eq_false.mpr fun r hr => by rw [this r hr]; simp]; rfl
  | cons n0 t =>
    obtain ⟨hlt, _, r0, hr0, hy⟩ := idxs_first0 h.symm
    rw [List.any_eq_true.mpr ⟨r0, List.mem_of_getElem? hr0, hy⟩]; rfl

theorem fv0 {w : World} {k : Nat} {rs : List Row} {c : Int} {y : Str} (hz : rs.length ≤ 100) (h : firstOf rs c = none) : Fn w (k + 3) 252 [tagsD rs, .int c, .str y] (.str y) := by
  have := fn_first_val (w := w) (k := k) (c := c) (y := y) hz
  rw [h] at this; exact this
theorem fv1 {w : World} {k : Nat} {rs : List Row} {c : Int} {y : Str} {r : Row} (hz : rs.length ≤ 100) (h : firstOf rs c = some r) : Fn w (k + 3) 252 [tagsD rs, .int c, .str y] (.str r.2) := by
  have := fn_first_val (w := w) (k := k) (c := c) (y := y) hz
  rw [h] at this; exact this
theorem ft0 {w : World} {k : Nat} {rs : List Row} {c : Int} {y : Str} (hz : rs.length ≤ 100) (h : firstOf rs c = none) : Fn w (k + 3) 260 [tagsD rs, .int c, .str y] (.str y) := by
  have := fn_first_tag (w := w) (k := k) (c := c) (y := y) hz
  rw [h] at this; exact this
theorem ft1 {w : World} {k : Nat} {rs : List Row} {c : Int} {y : Str} {r : Row} (hz : rs.length ≤ 100) (h : firstOf rs c = some r) : Fn w (k + 3) 260 [tagsD rs, .int c, .str y] (tagD r) := by
  have := fn_first_tag (w := w) (k := k) (c := c) (y := y) hz
  rw [h] at this; exact this

section
variable {w : World} {A : Around} {env : Env} {σ : List (Str × D)} {s s' : Shared}
/-- [row for row in rows if ..] -/
theorem ev_rows {e t : Expr} {rs : List Row} {px pe pos : Pos} {scope : Scope} (p : Row → Bool) (hA : LA A env) (he : Ev w A env σ e (rowsD rs)) (hz : rs.length ≤ 100)
    (test : ∀ C r, Tst w A (envK scope C env) (("row", rowD r) :: freeOf scope σ) t (p r)) (free : ((freeOf scope σ).all fun p => !bears (.type "dict") p.2) = true)
    (hx : scope.names.lookup ("row" : Str) = some .local := by rfl) (ok : compOk scope env = true := by rfl) (kind : scope.kind = .function := by rfl)
    (hs : ∀ x, foldedSetIterable e env x = pure x := by intro _; rfl) :
    Ev w A env σ (.ListComp (.Name "row" pe) [⟨.Name "row" px, e, [t], 0⟩] scope pos) (rowsD (rs.filter p)) :=
  EvF.ev (comp_ev decRow_ok p rowD (iter_list hA.room.handled he) hz (fun C a _ => test C a) (fun C a _ _ => ev_name rfl) (fun _ => rfl) hx ok kind free hs)
end

def TB (w : World) (tb : List Stmt) (sc : Scope) : Prop := ∀ (A : Around) (L aR aT : Addr) (n c : Int) (cs : List Int) (rs : List Row) (hs : List Nat) (fD : D) (aC aH : Addr) (s : Shared) (Q : Flow → Shared → Prop),
  LA A (lenv sc L) → rs.length ≤ 22 → cs.length ≤ 50 → Hits c rs hs fD → Holds w (lenv sc L) (sA n c cs rs hs fD aC aH aR aT) s →
  (∀ s', Ext (own (lenv sc L)) s s' → Holds w (lenv sc L) (sA n c cs rs hs fD aC aH aR aT) s' → wpAny (md w) A (execs (tb.drop 11) (lenv sc L)) Q noE s') →
  wpAny (md w) A (execs (tb.drop 8) (lenv sc L)) Q noE s

theorem tbb {w : World} : Is (TB w (turnOf w.params) (scopeOf w.params)) := by
  refine law_cut (P := w.params) (TB w) (fun P => by k_is) (by rfl) ?_
  refine ⟨?_⟩
  intro A L aR aT n c cs rs hs fD aC aH s Q hA hz hc hh H kk
  have hL : hs.length ≤ 1000 := by rw [hh.1]; exact Nat.le_trans idxs_len (by omega)
  show wpAny (md w) A (execs (Stmt.If _ _ _ _ :: _) _) _ _ _
  with_reducible refine run_ifU hA (tstU_or hA (noneU3 ?_ ?_ ?_)) H fun s1 e1 H1 => ?_
  · exact Tst.u hA (tst_of (tst_cmp (ev_meth (k := 38) (ev_at (ev_name rfl)) (m_has _) (k_keep_b _).1 (evs1 (ev_name rfl)) (fn_has_tag (k := 30)) (hA.room.mono (by omega))) (ev_cmp (ev_at (ev_name rfl)) (EvF.ev (evF_list (ds := []) rfl)) (cmp_ne_empty hA.room.cline)) cmp_ne_bool) (by rw [any_hits, ← hh.1]; cases hs <;> rfl))
  · rcases hh.2 with ⟨rfl, rfl, hf⟩ | ⟨n0, t, r0, rfl, rfl, hf⟩
    · exact Tst.u hA (tst_cmp (ev_meth (k := 33) (ev_at (ev_name rfl)) (m_fv _) (k_keep_b _).2.1 (evs2 (ev_name rfl) ev_str) (fv0 (k := 30) (by omega) hf) (hA.room.mono (by omega))) (ev_ifexp (tst_hits (ev_at (ev_name rfl)) hL) (fun q => by cases q) (fun _ => ev_str)) cmp_ne_str)
    · exact Tst.u hA (tst_cmp (ev_meth (k := 33) (ev_at (ev_name rfl)) (m_fv _) (k_keep_b _).2.1 (evs2 (ev_name rfl) ev_str) (fv1 (k := 30) (by omega) hf) (hA.room.mono (by omega))) (ev_ifexp (tst_hits (ev_at (ev_name rfl)) hL) (fun _ => ev_at1 (ev_name rfl)) (fun q => by cases q)) cmp_ne_str)
  · rcases hh.2 with ⟨rfl, rfl, hf⟩ | ⟨n0, t, r0, rfl, rfl, hf⟩
    · exact Tst.u hA (tst_cmp (ev_meth (k := 33) (ev_at (ev_name rfl)) (m_ft _) (k_keep_b _).2.2.1 (evs2 (ev_name rfl) ev_str) (ft0 (k := 30) (by omega) hf) (hA.room.mono (by omega))) (ev_ifexp (tst_hits (ev_at (ev_name rfl)) hL) (fun q => by cases q) (fun _ => ev_str)) cmp_ne_str)
    · exact Tst.u hA (tst_cmp (ev_meth (k := 33) (ev_at (ev_name rfl)) (m_ft _) (k_keep_b _).2.2.1 (evs2 (ev_name rfl) ev_str) (ft1 (k := 30) (by omega) hf) (hA.room.mono (by omega))) (ev_ifexp (tst_hits (ev_at (ev_name rfl)) hL) (fun _ => ev_name rfl) (fun q => by cases q)) (cmp_ne_tag (k := 34) hA.room))
  with_reducible refine run_ifU hA (tstU_or hA (noneU2 ?_ ?_)) H1 fun s2 e2 H2 => ?_
  · rcases hh.2 with ⟨rfl, rfl, hf⟩ | ⟨n0, t, r0, rfl, rfl, hf⟩
    · exact tstU_cmp hA (evU_none hA fun A' L' f cv l' s0 r' K' H0 => meth_raise (k := 33) (ev_at (ev_name rfl)) (m_fv _) (k_keep_b _).2.1 (evs1 (ev_name rfl)) (fnx_first_val (k := 30) (by omega) hf) (r'.mono (by omega)) K' H0) (ev_ifexp (tst_hits (ev_at (ev_name rfl)) hL) (fun q => by cases q) (fun _ => ev_none)) cmp_ne_none
    · exact tstU_cmp hA (evU_ok hA fun A' L' f cv r' => ev_meth (k := 33) (ev_at (ev_name rfl)) (m_fv _) (k_keep_b _).2.1 (evs1 (ev_name rfl)) (fn_first_val1 (k := 30) (by omega) hf) (r'.mono (by omega))) (ev_ifexp (tst_hits (ev_at (ev_name rfl)) hL) (fun _ => EvF.ev (evF_list (evs1 (ev_at1 (ev_name rfl))))) (fun q => by cases q)) (cmp_ne_lists ⟨eqV_str, trivial⟩ hA.room.cline)
  · rcases hh.2 with ⟨rfl, rfl, hf⟩ | ⟨n0, t, r0, rfl, rfl, hf⟩
    · exact tstU_cmp hA (evU_none hA fun A' L' f cv l' s0 r' K' H0 => meth_raise (k := 33) (ev_at (ev_name rfl)) (m_ft _) (k_keep_b _).2.2.1 (evs1 (ev_name rfl)) (fnx_first_tag (k := 30) (by omega) hf) (r'.mono (by omega)) K' H0) (ev_ifexp (tst_hits (ev_at (ev_name rfl)) hL) (fun q => by cases q) (fun _ => ev_none)) cmp_ne_none
    · exact tstU_cmp hA (evU_ok hA fun A' L' f cv r' => ev_meth (k := 33) (ev_at (ev_name rfl)) (m_ft _) (k_keep_b _).2.2.1 (evs1 (ev_name rfl)) (fn_first_tag1 (k := 30) (by omega) hf) (r'.mono (by omega))) (ev_ifexp (tst_hits (ev_at (ev_name rfl)) hL) (fun _ => EvF.ev (evF_list (evs1 (ev_name rfl)))) (fun q => by cases q)) (cmp_ne_lists ⟨eqV_tag (k := 35) hA.room.in1, trivial⟩ hA.room.cline)
  with_reducible refine run_ifU hA (tstU_or hA (noneU3 ?_ ?_ ?_)) H2 fun s3 e3 H3 => ?_
  · exact Tst.u hA (tst_cmp (ev_meth (k := 33) (ev_at (ev_name rfl)) (m_find _) (k_keep_b _).2.2.2.1 (evs1 (ev_name rfl)) (fn_find (k := 30) (by omega)) (hA.room.mono (by omega))) (ev_rows (fun r => r.1 == c) hA (ev_at (ev_name rfl)) (by omega) (fun C r => tst_cmp (ev_at0 (ev_name rfl)) (ev_name rfl) cmp_eq_int) rfl) (cmp_ne_tags (eqVs_tags (k := 35) hA.room.in1) hA.room.cline))
  · exact Tst.u hA (tst_cmp (EvF.ev (comp_all decTag_ok tagD (iter_list hA.room.handled (ev_meth (k := 33) (ev_at (ev_name rfl)) (m_filter _) (k_keep_b _).2.2.2.2 (evs1 (ev_at (ev_name rfl))) (fn_filter (k := 30) (by omega) hc) (hA.room.mono (by omega)))) (Nat.le_trans (List.length_filter_le ..) (by omega)) (fun C a => ev_name rfl) (fun _ => rfl))) (ev_rows (fun r => !cs.any (· == r.1)) hA (ev_at (ev_name rfl)) (by omega) (fun C r => tst_cmp (ev_at0 (ev_name rfl)) (ev_at (ev_name rfl)) cmp_notin_ints) (free_one (nb_ints cs))) (cmp_ne_lists (eqVs_tags (k := 35) hA.room.in1) hA.room.cline))
  · exact Tst.u hA (tst_cmp (ev_strip (k := 30) rfl (ev_at (ev_name rfl)) (ev_at (ev_name rfl)) (by omega) hc (hA.room.mono (by omega))) (ev_rows (fun r => !cs.any (· == r.1)) hA (ev_at (ev_name rfl)) (by omega) (fun C r => tst_cmp (ev_at0 (ev_name rfl)) (ev_at (ev_name rfl)) cmp_notin_ints) (free_one (nb_ints cs))) (cmp_ne_tags (eqVs_tags (k := 35) hA.room.in1) hA.room.cline))
  exact kk s3 ((e1.trans e2).trans e3) H3
end Mine
end
section
open PySem PySem.W PyProof.Rows PySem.Builtin
set_option Elab.async false
set_option maxRecDepth 100000
namespace Mine

theorem idxs_mem {p : Row → Bool} : ∀ {rs : List Row} {k j : Nat} {r : Row}, rs[j]? = some r → p r = true → k + j ∈ idxsF p k rs
  | [], _, _, _, h, _ => by simp at h
  | x :: rs, k, 0, r, h, hp => by
    cases h
    unfold idxsF
    rw [if_pos hp]; exact List.mem_cons_self ..
  | x :: rs, k, j + 1, r, h, hp => by
    have ih := idxs_mem (k := k + 1) (j := j) (rs := rs) (by simpa using h) hp
    rw [show k + (j + 1) = k + 1 + j by omega]
    unfold idxsF
    split
    · exact List.mem_cons_of_mem _ ih
    · exact ih
theorem idxs_sorted {p : Row → Bool} : ∀ {rs : List Row} {k : Nat}, (idxsF p k rs).Pairwise (· < ·)
  | [], _ => List.Pairwise.nil
  | x :: rs, k => by
    have ih := idxs_sorted (p := p) (rs := rs) (k := k + 1)
    unfold idxsF
    split
    · refine List.Pairwise.cons (fun i hi => ?_) ih
      obtain ⟨j, _, h, _⟩ := idxs_get hi
      omega
    · exact ih
theorem filt_nil {p : Row → Bool} {q : Nat → Bool} {rs : List Row} (h : (idxsF p 0 rs).filter q = []) {i : Nat} (hq : q i = true) {r : Row} (hr : rs[i]? = some r) : p r = false := by
  cases hp : p r with
  | false => rfl
  | true =>
    have m := idxs_mem (k := 0) hr hp
    rw [Nat.zero_add] at m
    have := List.mem_filter.mpr ⟨m, hq⟩
    rw [h] at this; cases this
theorem filt_cons {p : Row → Bool} {q : Nat → Bool} {rs : List Row} {m : Nat} {t : List Nat} (h : (idxsF p 0 rs).filter q = m :: t) : q m = true ∧ (∃ r, rs[m]? = some r ∧ p r = true) ∧ ∀ i, i < m → q i = true → ∀ r, rs[i]? = some r → p r = false := by
  have hm : m ∈ (idxsF p 0 rs).filter q := by rw [h]; exact List.mem_cons_self ..
  obtain ⟨h1, h2⟩ := List.mem_filter.mp hm
  obtain ⟨j, r, e, hr, hp⟩ := idxs_get h1
  rw [Nat.zero_add] at e
  subst e
  refine ⟨h2, ⟨r, hr, hp⟩, fun i hi hq r' hr' => ?_⟩
  cases hp' : p r' with
  | false => rfl
  | true =>
    have m1 := idxs_mem (k := 0) hr' hp'
    rw [Nat.zero_add] at m1
    have m2 := List.mem_filter.mpr ⟨m1, hq⟩
    have so := (idxs_sorted (p := p) (rs := rs) (k := 0)).filter q
    rw [h] at m2 so
    rcases List.mem_cons.mp m2 with q1 | q1
    · omega
    · have := (List.pairwise_cons.mp so).1 i q1
      omega

abbrev inB (a e : Nat) : Nat → Bool := fun k => decide ((a : Int) ≤ (k : Int)) && decide ((k : Int) < (e : Int))
abbrev inG (a : Nat) : Nat → Bool := fun k => decide ((k : Int) ≥ (a : Int))
theorem inB_iff {a e k : Nat} : inB a e k = true ↔ a ≤ k ∧ k < e := by simp
theorem inG_iff {a k : Nat} : inG a k = true ↔ a ≤ k := by simp
section
variable {w : World} {A : Around} {env : Env} {σ : List (Str × D)} {s s' : Shared}
theorem cmp_ge_int {a b : Int} : Cmp w A .GtE (.int a) (.int b) (decide (a ≥ b)) := by rintro _ _ s _ ⟨t, rfl⟩ ⟨u, rfl⟩; exact ge_int ⟨rfl, Ext.refl s⟩
theorem cmp_gt_int {a b : Int} : Cmp w A .Gt (.int a) (.int b) (decide (a > b)) := by rintro _ _ s _ ⟨t, rfl⟩ ⟨u, rfl⟩; exact gt_int ⟨rfl, Ext.refl s⟩
theorem ev_of {e : Expr} {d d' : D} (h : Ev w A env σ e d) (q : d = d') : Ev w A env σ e d' := q ▸ h
theorem ev_lenp {x : Expr} {rs : List Row} {px pos p1 p2 : Pos} {k1 : Nat} (hx : env.kindOf "len" = some .globalImplicit) (h : Ev w A env σ x (rowsD rs)) (hz : rs.length ≤ 100) (hst : noStar [x] = true := by rfl) : Ev w A env σ (.BinOp (.Call (.Name "len" px) [x] [] pos) .Add (.Constant (.int 1) k1 p1) p2) (.int ((rs.length : Int) + 1)) :=
  ev_of (ev_bin (ev_len_list hx h (by simp; omega) hst) ev_int bin_add) (by rw [List.length_map])
/-- x[:1] or None -/
theorem ev_one0 {e : Expr} {p1 p2 p3 p4 p5 : Pos} {k1 k2 : Nat} (h : Ev w A env σ e (.list [])) : Ev w A env σ (.BoolOp .Or [.Subscript e (.Slice none (some (.Constant (.int 1) k1 p1)) none p2) p3, .Constant .none k2 p4] p5) .none :=
  ev_or2 (a := .list []) (EvF.ev (evF_slice (ds := []) (lo := none) (hi := some 1) h rfl ⟨1, rfl, ev_int⟩ (by decide))) rfl (fun q => by cases q) fun _ => ev_none
theorem ev_one1 {e : Expr} {d : D} {ds : List D} {p1 p2 p3 p4 p5 : Pos} {k1 k2 : Nat} (h : Ev w A env σ e (.list (d :: ds))) (hz : (d :: ds).length ≤ 1000) : Ev w A env σ (.BoolOp .Or [.Subscript e (.Slice none (some (.Constant (.int 1) k1 p1)) none p2) p3, .Constant .none k2 p4] p5) (.list [d]) :=
  ev_or2 (a := .list [d]) (EvF.ev (evF_slice (ds := d :: ds) (lo := none) (hi := some 1) h rfl ⟨1, rfl, ev_int⟩ hz)) rfl (fun _ => rfl) fun q => by cases q
end

/-- the names in the last lines -/
abbrev sC (n c : Int) (cs : List Int) (rs : List Row) (hs inn : List Nat) (a e : Nat) (aC aH aI aR aT : Addr) : List (Str × D) :=
  [("inner", .at aI (natsD inn)), ("end", .int (e : Int)), ("start", .int (a : Int)), ("hits", .at aH (natsD hs)), ("codes", .at aC (.list (cs.map .int))), ("code", .int c), ("number", .int n), ("rows", .at aR (rowsD rs)), ("tags", .at aT (tagsD rs))]
def TC (w : World) (tb : List Stmt) (sc : Scope) : Prop := ∀ (A : Around) (L aR aT : Addr) (n c : Int) (cs : List Int) (rs : List Row) (hs : List Nat) (fD : D) (aC aH : Addr) (s : Shared) (Q : Flow → Shared → Prop),
  LA A (lenv sc L) → rs.length ≤ 22 → cs.length ≤ 50 → Hits c rs hs fD → Holds w (lenv sc L) (sA n c cs rs hs fD aC aH aR aT) s →
  (∀ a e aI s', a ≤ rs.length → e ≤ rs.length → Ext (own (lenv sc L)) s s' → Holds w (lenv sc L) (sC n c cs rs hs (hs.filter (inB a e)) a e aC aH aI aR aT) s' → wpAny (md w) A (execs (tb.drop 13) (lenv sc L)) Q noE s') →
  wpAny (md w) A (execs (tb.drop 11) (lenv sc L)) Q noE s
theorem fmod_nat {n : Int} {k : Nat} : ∃ a : Nat, a ≤ k ∧ n.fmod ((k : Int) + 1) = (a : Int) := by
  have h := fmod_range n (m := (k : Int) + 1) (by omega)
  exact ⟨(n.fmod ((k : Int) + 1)).toNat, by omega, by omega⟩

theorem tc {w : World} : Is (TC w (turnOf w.params) (scopeOf w.params)) := by
  refine law_cut (P := w.params) (TC w) (fun P => by k_is) (by rfl) ?_
  refine ⟨?_⟩
  intro A L aR aT n c cs rs hs fD aC aH s Q hA hz hc hh H kk
  have hLh : hs.length ≤ rs.length := by rw [hh.1]; exact idxs_len
  show wpAny (md w) A (execs (Stmt.Assign _ _ _ :: _) _) _ _ _
  obtain ⟨a, ha, ea⟩ := fmod_nat (n := n) (k := rs.length)
  obtain ⟨e, he, ee⟩ := fmod_nat (n := n.fdiv 7) (k := rs.length)
  with_reducible refine run_asg2 (d1 := .int (a : Int)) (d2 := .int (e : Int)) hA.room.handled ?_ H (fun s1 e1 H1 => ?_) ?_ ?_ ?_ ?_ ?_
  · refine ev_tuple (evs2 (ev_of (ev_bin (ev_name rfl) (ev_lenp rfl (ev_at (ev_name rfl)) (by omega)) (bin_mod (by omega))) (by rw [ea])) (ev_of (ev_bin (ev_bin (ev_name rfl) ev_int (bin_fdiv (by decide) (PyProof.noPylong_of_log2 (by decide +kernel)))) (ev_lenp rfl (ev_at (ev_name rfl)) (by omega)) (bin_mod (by omega))) (by rw [ee])))
  rotate_left 1
  · exact .inr ⟨rfl, rfl⟩
  · exact .inr ⟨rfl, rfl⟩
  · rfl
  · rfl
  · rfl
  with_reducible refine run_comp decNat_ok (inB a e) (fun k : Nat => .int (k : Int)) (xs := hs) ?_ (by omega) H1 (fun C k _ => ?_) (fun C k _ _ => ?_) (fun _ => rfl) (fun aI s2 nI e2 H2 => ?_) ?_ ?_ ?_ ?_ ?_ ?_ ?_ ?_
  · exact iter_list hA.room.handled (ev_at (ev_name rfl))
  · exact tst_chain (ev_name rfl) (ev_name rfl) (ev_name rfl) cmp_le_int cmp_lt_int
  · exact ev_name rfl
  rotate_left 1
  · rfl
  · rfl
  · rfl
  · rfl
  · rfl
  · rfl
  · rfl
  · intro _; rfl
  exact kk a e aI s2 ha he (e1.trans e2) (H2.less (Sub.less ⟨rfl, rfl, rfl, rfl, rfl, rfl, rfl, rfl, rfl, trivial⟩))
end Mine
end
section
open PySem PySem.W PyProof.Rows PySem.Builtin
set_option Elab.async false
set_option maxRecDepth 100000
namespace Mine

def TD (w : World) (tb : List Stmt) (sc : Scope) : Prop := ∀ (A : Around) (L aR aT : Addr) (n c : Int) (cs : List Int) (rs : List Row) (hs : List Nat) (a e : Nat) (aC aH aI : Addr) (s : Shared) (Q : Flow → Shared → Prop),
  LA A (lenv sc L) → rs.length ≤ 22 → cs.length ≤ 50 → a ≤ rs.length → e ≤ rs.length → hs = idxsF (fun r => r.1 == c) 0 rs → Holds w (lenv sc L) (sC n c cs rs hs (hs.filter (inB a e)) a e aC aH aI aR aT) s →
  (∀ s', Ext (own (lenv sc L)) s s' → Holds w (lenv sc L) (sC n c cs rs hs (hs.filter (inB a e)) a e aC aH aI aR aT) s' → wpAny (md w) A (execs (tb.drop 14) (lenv sc L)) Q noE s') →
  wpAny (md w) A (execs (tb.drop 13) (lenv sc L)) Q noE s

theorem td {w : World} : Is (TD w (turnOf w.params) (scopeOf w.params)) := by
  refine law_cut (P := w.params) (TD w) (fun P => by k_is) (by rfl) ?_
  refine ⟨?_⟩
  intro A L aR aT n c cs rs hs a e aC aH aI s Q hA hz hc ha he hh H kk
  have hLh : hs.length ≤ rs.length := by rw [hh]; exact idxs_len
  show wpAny (md w) A (execs (Stmt.If _ _ _ _ :: _) _) _ _ _
  with_reducible refine run_ifU hA (tstU_or hA (noneU2 ?_ ?_)) H fun s1 e1 H1 => ?_
  · obtain ⟨inn, hi⟩ : ∃ inn, inn = hs.filter (inB a e) := ⟨_, rfl⟩
    rw [← hi]
    have hLi : inn.length ≤ hs.length := by rw [hi]; exact List.length_filter_le ..
    rw [hh] at hi
    cases inn with
    | nil =>
      exact tstU_cmp hA (evU_none hA fun A' L' f cv l' s0 r' K' H0 => meth_raise (k := 34) (ev_at (ev_name rfl)) (m_index _) (k_keep_index _) (evs3 (ev_name rfl) (ev_name rfl) (ev_name rfl)) (fnx_index3 (k := 30) (by omega) he fun i h1 h2 r hr => filt_nil (p := fun r => r.1 == c) hi.symm (inB_iff.mpr ⟨h1, h2⟩) hr) (r'.mono (by omega)) K' H0) (ev_one0 (ev_at (ev_name rfl))) cmp_ne_none
    | cons m t =>
      obtain ⟨h1, ⟨r0, hr0, hp⟩, h3⟩ := filt_cons (p := fun r => r.1 == c) hi.symm
      obtain ⟨h1, h2⟩ := inB_iff.mp h1
      obtain ⟨j, rfl⟩ : ∃ j, m = a + j := ⟨m - a, by omega⟩
      exact tstU_cmp hA (evU_ok hA fun A' L' f cv r' => ev_meth (k := 34) (ev_at (ev_name rfl)) (m_index _) (k_keep_index _) (evs3 (ev_name rfl) (ev_name rfl) (ev_name rfl)) (fn_index3 (k := 30) (n := j) (by omega) he h2 (fun i hi r hr => h3 (a + i) (by omega) (inB_iff.mpr ⟨by omega, by omega⟩) r hr) r0 hr0 hp) (r'.mono (by omega))) (ev_one1 (ev_at (ev_name rfl)) (by simp at hLi ⊢; omega)) (cmp_ne_lists ⟨eqV_int, trivial⟩ hA.room.cline)
  · obtain ⟨inn, hi⟩ : ∃ inn, inn = hs.filter (inG a) := ⟨_, rfl⟩
    have hLi : inn.length ≤ hs.length := by rw [hi]; exact List.length_filter_le ..
    have hi' := hi
    rw [hh] at hi'
    cases inn with
    | nil =>
      exact tstU_cmp hA (evU_none hA fun A' L' f cv l' s0 r' K' H0 => meth_raise (k := 34) (ev_at (ev_name rfl)) (m_index _) (k_keep_index _) (evs2 (ev_name rfl) (ev_name rfl)) (fnx_index2 (k := 30) (by omega) fun i h1 h2 r hr => filt_nil (p := fun r => r.1 == c) hi'.symm (inG_iff.mpr h1) hr) (r'.mono (by omega)) K' H0)
        (ev_one0 (ev_of (EvF.ev (comp_ev decNat_ok (inG a) (fun k : Nat => .int (k : Int)) (xs := hs) (iter_list hA.room.handled (ev_at (ev_name rfl))) (by omega) (fun C k _ => tst_cmp (ev_name rfl) (ev_name rfl) cmp_ge_int) (fun C k _ _ => ev_name rfl) (fun _ => rfl) rfl rfl rfl rfl (fun _ => rfl))) (by rw [← hi]; rfl))) cmp_ne_none
    | cons m t =>
      obtain ⟨h1, ⟨r0, hr0, hp⟩, h3⟩ := filt_cons (p := fun r => r.1 == c) hi'.symm
      have h1 := inG_iff.mp h1
      have hml : m < rs.length := (List.getElem?_eq_some_iff.mp hr0).1
      obtain ⟨j, rfl⟩ : ∃ j, m = a + j := ⟨m - a, by omega⟩
      exact tstU_cmp hA (evU_ok hA fun A' L' f cv r' => ev_meth (k := 34) (ev_at (ev_name rfl)) (m_index _) (k_keep_index _) (evs2 (ev_name rfl) (ev_name rfl)) (fn_index2 (k := 30) (n := j) (by omega) hml (fun i hi r hr => h3 (a + i) (by omega) (inG_iff.mpr (by omega)) r hr) r0 hr0 hp) (r'.mono (by omega)))
        (ev_one1 (d := .int ((a + j : Nat) : Int)) (ds := t.map fun i : Nat => .int (i : Int)) (ev_of (EvF.ev (comp_ev decNat_ok (inG a) (fun k : Nat => .int (k : Int)) (xs := hs) (iter_list hA.room.handled (ev_at (ev_name rfl))) (by omega) (fun C k _ => tst_cmp (ev_name rfl) (ev_name rfl) cmp_ge_int) (fun C k _ _ => ev_name rfl) (fun _ => rfl) rfl rfl rfl rfl (fun _ => rfl))) (by rw [← hi]; rfl)) (by simp at hLi ⊢; omega)) (cmp_ne_lists ⟨eqV_int, trivial⟩ hA.room.cline)
  exact kk s1 e1 H1
end Mine
end
section
open PySem PySem.W PyProof.Rows PySem.Builtin
set_option Elab.async false
set_option maxRecDepth 100000
namespace Mine

theorem m_coll (w : World) : TMeth w "collect_consecutive_tags" (.ref 317) (.type "function") := ⟨by kernel_rfl, by kernel_rfl, rfl⟩
theorem k_keep_coll (P : Params) : keepIn (KB P) (.ref 317) = true := by kernel_rfl
theorem scan {rs : List Row} {cs : List Int} {e : Nat} : ∀ (d a : Nat), e - a = d → ∃ N, (a + N ≤ e ∨ N = 0) ∧ (∀ i, i < N → ∀ r, rs[a + i]? = some r → cs.any (· == r.1) = true) ∧ (a + N < e → ∀ r, rs[a + N]? = some r → cs.any (· == r.1) = false)
  | 0, a, h => ⟨0, .inr rfl, fun i hi => absurd hi (Nat.not_lt_zero _), fun hl => by omega⟩
  | d + 1, a, h => by
    cases hr : rs[a]? with
    | none => exact ⟨0, .inr rfl, fun i hi => absurd hi (Nat.not_lt_zero _), fun _ r hr' => by rw [Nat.add_zero, hr] at hr'; cases hr'⟩
    | some r =>
      cases hb : cs.any (· == r.1) with
      | false => exact ⟨0, .inr rfl, fun i hi => absurd hi (Nat.not_lt_zero _), fun _ r' hr' => by rw [Nat.add_zero, hr] at hr'; cases hr'; exact hb⟩
      | true =>
        obtain ⟨N, h1, h2, h3⟩ := scan (rs := rs) (cs := cs) (e := e) d (a + 1) (by omega)
        refine ⟨N + 1, .inl (by omega), fun i hi r' hr' => ?_, fun hl r' hr' => h3 (by omega) r' (by rw [← hr']; congr 1; omega)⟩
        cases i with
        | zero => rw [Nat.add_zero, hr] at hr'; cases hr'; exact hb
        | succ i => exact h2 i (by omega) r' (by rw [← hr']; congr 1; omega)
theorem fn_coll' {w : World} {k : Nat} {rs : List Row} {cs : List Int} {a e n : Nat} (hz : rs.length ≤ 100) (hc : cs.length ≤ 50) (hle : a + n ≤ e ∨ n = 0) (he : e ≤ rs.length)
    (hyes : ∀ i, i < n → ∀ r, rs[a + i]? = some r → cs.any (· == r.1) = true) (hend : a + n < e → ∀ r, rs[a + n]? = some r → cs.any (· == r.1) = false) :
    Fn w (k + 3) 317 [tagsD rs, .list (cs.map .int), .int (a : Int), .int (e : Int)] (tagsD ((rs.drop a).take n)) := by
  intro A s vs r B hv
  obtain ⟨b, hv'⟩ := Vals.toAt rfl hv
  exact fn_collect (aS := b) hz hc hle he hyes hend A s vs r B hv'
theorem sl_rows {rs : List Row} {a n : Nat} : sl (some a) (some (a + n)) (rs.map rowD) = ((rs.drop a).take n).map rowD := by
  show ((rs.map rowD).take (a + n)).drop a = _
  rw [List.drop_take, Nat.add_sub_cancel_left, List.map_take, List.map_drop]

def TE (w : World) (tb : List Stmt) (sc : Scope) : Prop := ∀ (A : Around) (L aR aT : Addr) (n c : Int) (cs : List Int) (rs : List Row) (hs inn : List Nat) (a e : Nat) (aC aH aI : Addr) (s : Shared) (Q : Flow → Shared → Prop),
  LA A (lenv sc L) → rs.length ≤ 22 → cs.length ≤ 50 → a ≤ rs.length → e ≤ rs.length → Holds w (lenv sc L) (sC n c cs rs hs inn a e aC aH aI aR aT) s →
  (∀ s', Ext (own (lenv sc L)) s s' → Holds w (lenv sc L) (sC n c cs rs hs inn a e aC aH aI aR aT) s' → wpAny (md w) A (execs (tb.drop 17) (lenv sc L)) Q noE s') →
  wpAny (md w) A (execs (tb.drop 14) (lenv sc L)) Q noE s

theorem te {w : World} : Is (TE w (turnOf w.params) (scopeOf w.params)) := by
  refine law_cut (P := w.params) (TE w) (fun P => by k_is) (by rfl) ?_
  refine ⟨?_⟩
  intro A L aR aT n c cs rs hs inn a e aC aH aI s Q hA hz hc ha he H kk
  obtain ⟨N, hN1, hN2, hN3⟩ := scan (rs := rs) (cs := cs) (e := e) (e - a) a rfl
  show wpAny (md w) A (execs (Stmt.Assign _ _ _ :: _) _) _ _ _
  with_reducible refine run_assign (d := .int ((a + 0 : Nat) : Int)) ?_ H (fun s1 e1 H1 => ?_) ?_ ?_ ?_
  · exact ev_name rfl
  rotate_left 1
  · exact .inl rfl
  · rfl
  · rfl
  with_reducible refine wpAny_execs_cons (wpAny_noE (while_run (S := own (lenv _ L)) (σ := fun i => ("many", .int ((a + i : Nat) : Int)) :: sC n c cs rs hs inn a e aC aH aI aR aT) (res := none) N H1.big (fun i hi => ⟨?_, fun s2 H2 => ?_⟩) ?_ s1 H1) fun f s2 q => ?_)
  · have hlt : a + i < e := by omega
    have hl : a + i < rs.length := by omega
    exact tst_of (tst_and ⟨true, [true], rfl, tst_of (tst_cmp (ev_name rfl) (ev_name rfl) cmp_lt_int) (by simp only [decide_eq_true_eq]; omega), fun _ => ⟨true, [], rfl, tst_of (tst_cmp (ev_at0 (r := rs[a + i]) (ev_item_list (ev_at (ev_name rfl)) (ev_name rfl) (by omega) (by rw [Int.toNat_natCast, List.getElem?_map, List.getElem?_eq_getElem hl]; rfl) (by simp; omega) (fun _ _ => rfl))) (ev_at (ev_name rfl)) cmp_in_ints) (hN2 i hi _ (List.getElem?_eq_getElem hl)), fun _ => rfl⟩⟩) rfl
  · refine wpAny_execs_cons (wpAny_noE (aug_int (i := ((a + i : Nat) : Int)) (j := 1) rfl ev_int H2 rfl rfl) fun f s3 q => ?_)
    obtain ⟨rfl, H3, e3⟩ := q
    refine wpAny_execs_nil ⟨e3.wk (fun i hi => by rw [List.mem_singleton.mp hi]; exact List.mem_cons_self ..) H2.big, rfl, ?_⟩
    rw [show ((a + i : Nat) : Int) + 1 = ((a + (i + 1) : Nat) : Int) by omega] at H3
    exact H3.less (Sub.less ⟨rfl, rfl, rfl, rfl, rfl, rfl, rfl, rfl, rfl, rfl, trivial⟩)
  · refine .inl ⟨?_, rfl⟩
    by_cases hlt : a + N < e
    · have hl : a + N < rs.length := by omega
      exact tst_of (tst_and ⟨true, [false], rfl, tst_of (tst_cmp (ev_name rfl) (ev_name rfl) cmp_lt_int) (by simp only [decide_eq_true_eq]; omega), fun _ => ⟨false, [], rfl, tst_of (tst_cmp (ev_at0 (r := rs[a + N]) (ev_item_list (ev_at (ev_name rfl)) (ev_name rfl) (by omega) (by rw [Int.toNat_natCast, List.getElem?_map, List.getElem?_eq_getElem hl]; rfl) (by simp; omega) (fun _ _ => rfl))) (ev_at (ev_name rfl)) cmp_in_ints) (hN3 hlt _ (List.getElem?_eq_getElem hl)), fun _ => rfl⟩⟩) rfl
    · exact tst_of (tst_and ⟨false, [], rfl, tst_of (tst_cmp (ev_name rfl) (ev_name rfl) cmp_lt_int) (by simp only [decide_eq_false_iff_not]; omega), fun q => by cases q⟩) rfl
  obtain ⟨x2, rfl, H2⟩ := q
  with_reducible refine run_ifU hA ?_ H2 fun s3 e3 H3 => ?_
  · exact Tst.u hA (tst_cmp (ev_meth (k := 33) (ev_at (ev_name rfl)) (m_coll _) (k_keep_coll _) (evs3 (ev_at (ev_name rfl)) (ev_name rfl) (ev_name rfl)) (fn_coll' (k := 30) (n := N) (by omega) hc hN1 he hN2 hN3) (hA.room.mono (by omega)))
      (ev_of (EvF.ev (evF_slice (ds := rs.map rowD) (lo := some a) (hi := some (a + N)) (ev_at (ev_name rfl)) ⟨a, rfl, ev_name rfl⟩ ⟨a + N, rfl, ev_name rfl⟩ (by simp; omega))) (by rw [sl_rows])) (cmp_ne_tags (eqVs_tags (k := 35) hA.room.in1) hA.room.cline))
  exact kk s3 ((e1.trans x2).trans e3) (H3.less (Sub.less ⟨rfl, rfl, rfl, rfl, rfl, rfl, rfl, rfl, rfl, trivial⟩))
end Mine
end
section
open PySem PySem.W PyProof.Rows PySem.Builtin
set_option Elab.async false
set_option maxRecDepth 100000
namespace Mine

theorem m_gh (w : World) : TMeth w "get_handle" (.ref 223) (.type "function") := ⟨by kernel_rfl, by kernel_rfl, rfl⟩
theorem k_keep_gh (P : Params) : keepIn (KB P) (.ref 223) = true := by kernel_rfl
theorem isHH_eq {c : Int} : isHH c = isH c := by
  unfold isHH isH
  rw [Bool.eq_iff_iff]
  simp
  constructor
  · rintro (h | h)
    · exact .inl h.symm
    · exact .inr h.symm
  · rintro (h | h)
    · exact .inl h.symm
    · exact .inr h.symm
theorem filter_first {p : Row → Bool} : ∀ {rs : List Row} {n : Nat} {r0 : Row}, rs[n]? = some r0 → p r0 = true → (∀ i, i < n → ∀ r, rs[i]? = some r → p r = false) → ∃ t, rs.filter p = r0 :: t
  | [], _, _, h, _, _ => by simp at h
  | x :: rs, 0, r0, h, hp, _ => by cases h; exact ⟨_, List.filter_cons_of_pos hp⟩
  | x :: rs, n + 1, r0, h, hp, hno => by
    have hx := hno 0 (by omega) x rfl
    obtain ⟨t, ht⟩ := filter_first (rs := rs) (n := n) (by simpa using h) hp fun i hi r hr => hno (i + 1) (by omega) r (by simpa using hr)
    exact ⟨t, by rw [List.filter_cons_of_neg (by rw [hx]; decide), ht]⟩
abbrev strsD (ss : List Str) : D := .list (ss.map .str)
def hdls (rs : List Row) : List Str := if rs.length > 1 then (((rs.drop 1).take 1 ++ rs).filter fun r => isH r.1).map (·.2) else []
theorem hdls_len {rs : List Row} : (hdls rs).length ≤ rs.length + 1 := by
  unfold hdls
  split
  · rw [List.length_map]
    refine Nat.le_trans (List.length_filter_le ..) ?_
    rw [List.length_append]
    have := List.length_take_le 1 (rs.drop 1)
    omega
  · simp
/-- what get_handle comes to -/
theorem handle_out {w : World} {k : Nat} {rs : List Row} (hz : rs.length ≤ 100) : (hdls rs = [] ∧ FnX w (k + 5) 223 [tagsD rs]) ∨ ∃ x t, hdls rs = x :: t ∧ Fn w (k + 5) 223 [tagsD rs] (.str x) := by
  by_cases h2 : rs.length < 2
  · exact .inl ⟨if_neg (by omega), fnx_handle0 h2⟩
  have h1 : 1 < rs.length := by omega
  have hr1 : rs[1]? = some rs[1] := List.getElem?_eq_getElem h1
  have hd : (rs.drop 1).take 1 = [rs[1]] := by rw [List.drop_eq_getElem_cons h1, List.take_succ_cons, List.take_zero]
  have hl : hdls rs = ((rs[1] :: rs).filter fun r => isH r.1).map (·.2) := by unfold hdls; rw [if_pos (by omega), hd]; rfl
  cases hy : isH rs[1].1 with
  | true => exact .inr ⟨rs[1].2, _, by rw [hl, List.filter_cons_of_pos (p := fun r : Row => isH r.1) hy]; rfl, fn_handle1 hz hr1 (by rw [isHH_eq]; exact hy)⟩
  | false =>
    rw [List.filter_cons_of_neg (p := fun r : Row => isH r.1) (by rw [hy]; decide)] at hl
    obtain ⟨ps, hps⟩ : ∃ ps, ps = idxsF (fun r => isH r.1) 0 rs := ⟨_, rfl⟩
    cases ps with
    | nil =>
      have hn := idxs_nil hps.symm
      refine .inl ⟨by rw [hl, List.filter_eq_nil_iff.mpr fun r hr => by rw [hn r hr]; decide]; rfl, fnx_handle2 hz hr1 fun r hr => by rw [isHH_eq]; exact hn r hr⟩
    | cons n0 t =>
      obtain ⟨_, hno, r0, hr0, hp⟩ := idxs_first0 hps.symm
      obtain ⟨t', ht⟩ := filter_first (p := fun r => isH r.1) hr0 hp hno
      exact .inr ⟨r0.2, _, by rw [hl, ht]; rfl, fn_handle2 hz hr1 (by rw [isHH_eq]; exact hy) (fun i hi r hr => by rw [isHH_eq]; exact hno i hi r hr) hr0 (by rw [isHH_eq]; exact hp)⟩

/-- the names in the very last lines -/
abbrev sF (n : Int) (rs : List Row) (aR aT : Addr) : List (Str × D) := [("number", .int n), ("rows", .at aR (rowsD rs)), ("tags", .at aT (tagsD rs))]
def TF (w : World) (tb : List Stmt) (sc : Scope) : Prop := ∀ (A : Around) (L aR aT : Addr) (n : Int) (rs : List Row) (s : Shared) (Q : Flow → Shared → Prop),
  LA A (lenv sc L) → rs.length ≤ 22 → Holds w (lenv sc L) (sF n rs aR aT) s →
  (∀ s', Ext (own (lenv sc L)) s s' → Holds w (lenv sc L) (sF n rs aR aT) s' → wpAny (md w) A (execs (tb.drop 19) (lenv sc L)) Q noE s') →
  wpAny (md w) A (execs (tb.drop 17) (lenv sc L)) Q noE s
section
variable {w : World} {A : Around} {env : Env} {σ : List (Str × D)}
theorem evF_of {e : Expr} {d d' : D} (h : EvF w A env σ e d) (q : d = d') : EvF w A env σ e d' := q ▸ h
end
theorem tf {w : World} : Is (TF w (turnOf w.params) (scopeOf w.params)) := by
  refine law_cut (P := w.params) (TF w) (fun P => by k_is) (by rfl) ?_
  refine ⟨?_⟩
  intro A L aR aT n rs s Q hA hz H kk
  have hL := hdls_len (rs := rs)
  show wpAny (md w) A (execs (Stmt.Assign _ _ _ :: _) _) _ _ _
  with_reducible refine run_assignF (d := strsD (hdls rs)) (evF_ifexp (b := decide (rs.length > 1)) ?_ (fun hb => ?_) (fun hb => ?_)) H (fun aX s1 nX e1 H1 => ?_) ?_ ?_ ?_
  · exact tst_of (tst_cmp (ev_len_list rfl (ev_at (ev_name rfl)) (by simp; omega)) ev_int cmp_gt_int) (by rw [List.length_map]; simp only [decide_eq_decide]; omega)
  · refine evF_of (comp_ev decRow_ok (fun r => isH r.1) (fun r => .str r.2) (xs := (rs.drop 1).take 1 ++ rs) (iter_list hA.room.handled (ev_of (ev_bin (EvF.ev (evF_slice (ds := rs.map rowD) (lo := some 1) (hi := some 2) (ev_at (ev_name rfl)) ⟨1, rfl, ev_int⟩ ⟨2, rfl, ev_int⟩ (by simp; omega))) (ev_at (ev_name rfl)) (bin_lists ?_)) ?_)) ?_ (fun C a _ => tst_cmp (ev_at0 (ev_name rfl)) (ev_inttup (ns := [5, 105]) (by kernel_rfl) (by decide)) cmp_in_tup) (fun C a _ _ => ev_at1 (ev_name rfl)) (fun _ => rfl) rfl rfl rfl rfl (fun _ => rfl)) ?_
    · show ((List.take 2 (rs.map rowD)).drop 1).length + _ ≤ 1000
      simp; omega
    · rw [show (some 2 : Option Nat) = some (1 + 1) from rfl, sl_rows, ← List.map_append]
    · have := List.length_take_le 1 (rs.drop 1)
      rw [List.length_append]; omega
    · unfold hdls
      rw [if_pos (by simpa using hb), strsD, List.map_map]; rfl
  · refine evF_of (evF_list (ds := []) rfl) ?_
    unfold hdls
    rw [if_neg (by simpa using hb)]; rfl
  rotate_left 1
  · exact .inl rfl
  · rfl
  · rfl
  with_reducible refine run_ifU hA ?_ H1 fun s2 e2 H2 => ?_
  · rcases handle_out (w := w) (k := 30) (rs := rs) (by omega) with ⟨hd, hx⟩ | ⟨x, t, hd, hx⟩
    · rw [hd]
      exact tstU_cmp hA (evU_none hA fun A' L' f cv l' s0 r' K' H0 => meth_raise (k := 35) (ev_at (ev_name rfl)) (m_gh _) (k_keep_gh _) (ds := []) rfl hx (r'.mono (by omega)) K' H0) (ev_one0 (ev_at (ev_name rfl))) cmp_ne_none
    · rw [hd] at hL ⊢
      exact tstU_cmp hA (evU_ok hA fun A' L' f cv r' => ev_meth (k := 35) (ev_at (ev_name rfl)) (m_gh _) (k_keep_gh _) (ds := []) rfl hx (r'.mono (by omega))) (ev_one1 (d := .str x) (ds := t.map .str) (ev_at (ev_name rfl)) (by simp at hL ⊢; omega)) (cmp_ne_lists ⟨eqV_str, trivial⟩ hA.room.cline)
  exact kk s2 (e1.trans e2) (H2.less (Sub.less ⟨rfl, rfl, rfl, trivial⟩))
end Mine
end
section
open PySem PySem.W PyProof.Rows PySem.Builtin
set_option Elab.async false
set_option maxRecDepth 100000
namespace Mine

theorem m_p1 (w : World) : TMeth w "get_soft_pointers" (.ref 337) (.type "function") := ⟨by kernel_rfl, by kernel_rfl, rfl⟩
theorem m_p2 (w : World) : TMeth w "get_hard_pointers" (.ref 342) (.type "function") := ⟨by kernel_rfl, by kernel_rfl, rfl⟩
theorem m_p3 (w : World) : TMeth w "get_soft_owner_handles" (.ref 347) (.type "function") := ⟨by kernel_rfl, by kernel_rfl, rfl⟩
theorem m_p4 (w : World) : TMeth w "get_hard_owner_handles" (.ref 352) (.type "function") := ⟨by kernel_rfl, by kernel_rfl, rfl⟩
theorem k_keep_p (P : Params) : keepIn (KB P) (.ref 337) = true ∧ keepIn (KB P) (.ref 342) = true ∧ keepIn (KB P) (.ref 347) = true ∧ keepIn (KB P) (.ref 352) = true := ⟨by kernel_rfl, by kernel_rfl, by kernel_rfl, by kernel_rfl⟩
def kindL (rs : List Row) : List (List Row) := [rs.filter fun r => isSoft r.1, rs.filter fun r => isHard r.1, rs.filter fun r => isSO r.1, rs.filter fun r => isHO r.1]
abbrev kindsD (rs : List Row) : D := .list ((kindL rs).map rowsD)
section
variable {w : World} {A : Around} {env : Env} {σ : List (Str × D)} {s s' : Shared}
theorem evs4 {e f g i : Expr} {d c b a : D} (h : Ev w A env σ e d) (h2 : Ev w A env σ f c) (h3 : Ev w A env σ g b) (h4 : Ev w A env σ i a) : Evs w A env σ [e, f, g, i] [d, c, b, a] := ⟨_, _, rfl, h, evs3 h2 h3 h4⟩
/-- lo <= row[0] < hi -/
theorem tst_band {e : Expr} {lo hi : Int} {k1 k2 k3 : Nat} {p1 p2 p3 p4 p5 : Pos} {r : Row} (h : Ev w A env σ e (rowD r)) :
    Tst w A env σ (.Compare (.Constant (.int lo) k1 p1) [.LtE, .Lt] [.Subscript e (.Constant (.int 0) k2 p2) p3, .Constant (.int hi) k3 p4] p5) (decide (lo ≤ r.1) && decide (r.1 < hi)) :=
  tst_chain ev_int (ev_at0 h) ev_int cmp_le_int cmp_lt_int
end
abbrev sK (n : Int) (rs : List Row) (aK aR aT : Addr) : List (Str × D) := [("kinds", .at aK (kindsD rs)), ("number", .int n), ("rows", .at aR (rowsD rs)), ("tags", .at aT (tagsD rs))]
def TG (w : World) (tb : List Stmt) (sc : Scope) : Prop := ∀ (A : Around) (L aR aT : Addr) (n : Int) (rs : List Row) (s : Shared) (Q : Flow → Shared → Prop),
  LA A (lenv sc L) → rs.length ≤ 22 → Holds w (lenv sc L) (sF n rs aR aT) s →
  (∀ aK s', Ext (own (lenv sc L)) s s' → Holds w (lenv sc L) (sK n rs aK aR aT) s' → wpAny (md w) A (execs (tb.drop 21) (lenv sc L)) Q noE s') →
  wpAny (md w) A (execs (tb.drop 19) (lenv sc L)) Q noE s
theorem tg {w : World} : Is (TG w (turnOf w.params) (scopeOf w.params)) := by
  refine law_cut (P := w.params) (TG w) (fun P => by k_is) (by rfl) ?_
  refine ⟨?_⟩
  intro A L aR aT n rs s Q hA hz H kk
  show wpAny (md w) A (execs (Stmt.Assign _ _ _ :: _) _) _ _ _
  with_reducible refine run_assignF (d := kindsD rs) ?_ H (fun aK s1 nK e1 H1 => ?_) ?_ ?_ ?_
  · refine evF_list (evs4 (ev_rows (fun r => isSoft r.1) hA (ev_at (ev_name rfl)) (by omega) (fun C r => tst_of (tst_or ⟨_, [r.1 == 1005], rfl, tst_band (ev_name rfl), fun _ => ⟨_, [], rfl, tst_cmp (ev_at0 (ev_name rfl)) ev_int cmp_eq_int, fun _ => rfl⟩⟩) ?_) rfl)
      (ev_rows (fun r => isHard r.1) hA (ev_at (ev_name rfl)) (by omega) (fun C r => tst_of (tst_or ⟨_, [decide (390 ≤ r.1) && decide (r.1 < 400), decide (480 ≤ r.1) && decide (r.1 < 482)], rfl, tst_band (ev_name rfl), fun _ => ⟨_, [decide (480 ≤ r.1) && decide (r.1 < 482)], rfl, tst_band (ev_name rfl), fun _ => ⟨_, [], rfl, tst_band (ev_name rfl), fun _ => rfl⟩⟩⟩) ?_) rfl)
      (ev_rows (fun r => isSO r.1) hA (ev_at (ev_name rfl)) (by omega) (fun C r => tst_of (tst_band (ev_name rfl)) ?_) rfl)
      (ev_rows (fun r => isHO r.1) hA (ev_at (ev_name rfl)) (by omega) (fun C r => tst_of (tst_band (ev_name rfl)) ?_) rfl))
    · rw [Bool.eq_iff_iff]; simp [isSoft]; omega
    · rw [Bool.eq_iff_iff]; simp [isHard]; omega
    · rw [Bool.eq_iff_iff]; simp [isSO]; omega
    · rw [Bool.eq_iff_iff]; simp [isHO]; omega
  rotate_left 1
  · exact .inr ⟨rfl, rfl⟩
  · rfl
  · rfl
  with_reducible refine run_ifU hA ?_ H1 fun s2 e2 H2 => ?_
  · have r1 : Room 38 A.in1.in1 := (hA.room.in1).in1
    have e : ∀ {rs : List Row}, EqV w A.in1 (tagsD rs) (rowsD rs) := fun {rs} => eqV_of (cmp_eq_tags (eqVs_tags (k := 34) r1) hA.room.in1.cline) rfl rfl
    exact Tst.u hA (tst_cmp (EvF.ev (evF_list (evs4 (ev_meth (k := 34) (ev_at (ev_name rfl)) (m_p1 _) (k_keep_p _).1 (ds := []) rfl (fn_gsoft (k := 30) (by omega)) (hA.room.mono (by omega)))
      (ev_meth (k := 34) (ev_at (ev_name rfl)) (m_p2 _) (k_keep_p _).2.1 (ds := []) rfl (fn_ghard (k := 30) (by omega)) (hA.room.mono (by omega)))
      (ev_meth (k := 34) (ev_at (ev_name rfl)) (m_p3 _) (k_keep_p _).2.2.1 (ds := []) rfl (fn_gso (k := 30) (by omega)) (hA.room.mono (by omega)))
      (ev_meth (k := 34) (ev_at (ev_name rfl)) (m_p4 _) (k_keep_p _).2.2.2 (ds := []) rfl (fn_gho (k := 30) (by omega)) (hA.room.mono (by omega)))))) (ev_at (ev_name rfl)) (cmp_ne_lists ⟨e, e, e, e, trivial⟩ hA.room.cline))
  exact kk aK s2 (e1.trans e2) H2
end Mine
end
section
open PySem PySem.W PyProof.Rows PySem.Builtin
set_option Elab.async false
set_option maxRecDepth 100000
namespace Mine

section
variable {w : World} {A : Around} {env : Env} {σ : List (Str × D)} {s : Shared} {scope : Scope} {iter elt : Expr} {ifs : List Expr} {pos px spos : Pos} {x : Str} {α : Type}
  {inj : α → D} {dec : D → Option α}
theorem envK_kindc {C : Addr} (h : scope.names.lookup x = some .cell) : (envK scope C env).kindOf x = some .cell := by
  show (relabel scope env).names.lookup x = _
  rw [lookup_relabel, h]; rfl
theorem free_nec {y : Str} {d : D} (hx : scope.names.lookup x = some .cell) (h : (freeOf scope σ).lookup y = some d) : y ≠ x := fun e => by
  have := (freeOf_lookup h).2
  rw [e, hx] at this; cases this
/-- a comprehension whose name is looked at from within -/
theorem comp_cellH (hdec : ∀ a, dec (inj a) = some a) (p : α → Bool) (g : α → D) {xs : List α} (hz : xs.length ≤ 100)
    (test : ∀ C a, a ∈ xs → Tsts w A (envK scope C env) ((x, inj a) :: freeOf scope σ) ifs (p a))
    (elts : ∀ C a, a ∈ xs → p a = true → Ev w A (envK scope C env) ((x, inj a) :: freeOf scope σ) elt (g a)) (fl : ∀ a, flat (g a) = true) (fg : ∀ a, bears (.type "dict") (g a) = false) (fi : ∀ a, bears (.type "dict") (inj a) = false)
    (hx : scope.names.lookup x = some .cell) (hc : ∀ C, ∃ c, C + 1 ≤ c ∧ (envK scope C env).cells.lookup x = some c) (ok : compOk scope env = true) (kind : scope.kind = .function) (free : ((freeOf scope σ).all fun p => !bears (.type "dict") p.2) = true) :
    CompH w A env σ scope (.Name x px) ifs elt (xs.map inj) (fun d => [(x, d)]) (outOf dec p g) false where
  ok := ok
  kind := kind
  free := nodict free
  size := by simpa using Nat.le_trans hz (by decide)
  asg := fun C s v d hd hv _ H => by
    obtain ⟨a, ha, rfl⟩ := List.mem_map.mp hd
    obtain ⟨c, h1, h2⟩ := hc C
    have hk := envK_kindc (env := env) (C := C) hx
    refine wpAny_assign_Name (H.store hv (.inr ⟨hk, by rw [h2]; rfl⟩) (.inr (.inl (fi a))) fun s' H' e _ _ _ => ⟨H', (fun q => by cases q), _, e, fun t ht => .inr ?_⟩)
    unfold place at ht
    rw [hk] at ht
    rw [h2] at ht
    have : t = c := by simpa using ht
    exact ⟨by rw [this]; exact h1, x, by rw [this]; exact h2⟩
  less := fun d hd y e h => by
    show List.lookup y ((x, d) :: freeOf scope σ) = _
    rw [List.lookup_cons, show (y == x) = false by simpa using free_nec hx h]; exact h
  test := fun C d hd => by
    obtain ⟨a, ha, rfl⟩ := List.mem_map.mp hd
    have e : (outOf dec p g (inj a)).isSome = p a := by unfold outOf; rw [hdec]; simp only; cases p a <;> rfl
    rw [e]; exact test C a ha
  elt := fun C d e hd he => by
    obtain ⟨a, ha, rfl⟩ := List.mem_map.mp hd
    unfold outOf at he
    rw [hdec] at he
    simp only at he
    split at he
    · rename_i hp; cases he; exact elts C a ha hp
    · cases he
  flat := fun d hd e he => by
    obtain ⟨a, ha, rfl⟩ := List.mem_map.mp hd
    unfold outOf at he
    rw [hdec] at he
    simp only at he
    split at he
    · cases he; exact ⟨fl a, fun _ => fg a⟩
    · cases he
/-- y = [.. for x in ..], x looked at from within -/
theorem run_compc (hdec : ∀ a, dec (inj a) = some a) (p : α → Bool) (g : α → D) {xs : List α} {y : Str} {py : Pos} {rest : List Stmt} {Q : Flow → Shared → Prop} {E : Value → Shared → Prop} (it : Iter w A env σ (.Name x px) iter (xs.map inj)) (hz : xs.length ≤ 100) (H : Holds w env σ s)
    (test : ∀ C a, a ∈ xs → Tsts w A (envK scope C env) ((x, inj a) :: freeOf scope σ) ifs (p a))
    (elts : ∀ C a, a ∈ xs → p a = true → Ev w A (envK scope C env) ((x, inj a) :: freeOf scope σ) elt (g a)) (fl : ∀ a, flat (g a) = true) (fg : ∀ a, bears (.type "dict") (g a) = false) (fi : ∀ a, bears (.type "dict") (inj a) = false)
    (k : ∀ b s', New s b → Ext (own env) s s' → Holds w env ((y, .at b (.list ((xs.filter p).map g))) :: σ) s' → wpAny (md w) A (execs rest env) Q E s')
    (hy : env.kindOf y = some .local) (hf : env.func.isSome = true) (hx : scope.names.lookup x = some .cell) (hc : ∀ C, ∃ c, C + 1 ≤ c ∧ (envK scope C env).cells.lookup x = some c) (ok : compOk scope env = true) (kind : scope.kind = .function) (free : ((freeOf scope σ).all fun p => !bears (.type "dict") p.2) = true)
    (hsw : swapsWith (.ListComp elt [⟨.Name x px, iter, ifs, 0⟩] scope pos) (some (.Name y py)) spos.line env = pure true) (hs : ∀ x, foldedSetIterable iter env x = pure x) :
    wpAny (md w) A (execs (.Assign [.Name y py] (.ListComp elt [⟨.Name x px, iter, ifs, 0⟩] scope pos) spos :: rest) env) Q E s := by
  refine wpAny_execs_cons (wpAny_noE (stm_comp it (comp_cellH hdec p g hz test elts fl fg fi hx hc ok kind free) H hsw hy hf hs) fun f s' q => ?_)
  obtain ⟨rfl, a, ga, ha, e', H'⟩ := q
  rw [outOf_map hdec] at H'
  exact k a s' ⟨ga, ha⟩ e' H'

def decRows : D → Option (List Row)
  | .list ds => some (ds.filterMap decRow)
  | _ => none
theorem decRows_ok : ∀ rs, decRows (rowsD rs) = some rs := fun rs => by
  show some ((rs.map rowD).filterMap decRow) = some rs
  congr 1
  induction rs with
  | nil => rfl
  | cons r rs ih => rw [List.map_cons, List.filterMap_cons_some (decRow_ok r), ih]
end
theorem m_tr (w : World) : TMeth w "get_translatable_pointers" (.ref 362) (.type "function") := ⟨by kernel_rfl, by kernel_rfl, rfl⟩
theorem m_htr (w : World) : TMeth w "has_translatable_pointers" (.ref 357) (.type "function") := ⟨by kernel_rfl, by kernel_rfl, rfl⟩
theorem k_keep_tr (P : Params) : keepIn (KB P) (.ref 362) = true ∧ keepIn (KB P) (.ref 357) = true := ⟨by kernel_rfl, by kernel_rfl⟩
/-- a row in one of the kinds -/
theorem in_kinds {rs : List Row} {r : Row} (h : r ∈ rs) : ((kindL rs).any fun part => part.any (· == r)) = isTr r.1 := by
  have key : ∀ p : Row → Bool, ((rs.filter p).any (· == r)) = p r := fun p => by
    rw [Bool.eq_iff_iff, List.any_eq_true]
    constructor
    · rintro ⟨q, hq, e⟩
      rw [← beq_iff_eq.mp e]; exact (List.mem_filter.mp hq).2
    · intro hp; exact ⟨r, List.mem_filter.mpr ⟨h, hp⟩, beq_self_eq_true r⟩
  unfold kindL isTr
  simp only [List.any_cons, List.any_nil, key, Bool.or_false, Bool.or_assoc]

theorem any_filter {α : Type} {q : α → Bool} : ∀ (xs : List α) {β : Type} {f : α → β}, (!((xs.filter q).map f).isEmpty) = xs.any q
  | [], _, _ => rfl
  | x :: xs, _, f => by
    cases h : q x with
    | true => rw [List.filter_cons_of_pos h, List.any_cons, h]; rfl
    | false => rw [List.filter_cons_of_neg (by rw [h]; decide), List.any_cons, h, any_filter xs]; rfl
theorem tru_list {ds : List D} : tru (.list ds) = !ds.isEmpty := rfl
theorem bl_kinds : ∀ {xs : List (List Row)}, bearsL (.type "dict") (xs.map rowsD) = false
  | [] => rfl
  | x :: xs => by rw [List.map_cons, bearsL, bl_kinds, bears, bl_rows rfl]; rfl

def TH (w : World) (tb : List Stmt) (sc : Scope) : Prop := ∀ (A : Around) (L aK aR aT : Addr) (n : Int) (rs : List Row) (s : Shared),
  LA A (lenv sc L) → rs.length ≤ 22 → Holds w (lenv sc L) (sK n rs aK aR aT) s →
  wpAny (md w) A (execs (tb.drop 21) (lenv sc L)) (fun f s' => f = .next ∧ Ext (own (lenv sc L)) s s' ∧ Holds w (lenv sc L) (sF n rs aR aT) s') noE s
theorem th {w : World} : Is (TH w (turnOf w.params) (scopeOf w.params)) := by
  refine law_cut (P := w.params) (TH w) (fun P => by k_is) (by rfl) ?_
  refine ⟨?_⟩
  intro A L aK aR aT n rs s hA hz H
  show wpAny (md w) A (execs (Stmt.Assign _ _ _ :: _) _) _ _ _
  with_reducible refine run_compc decRow_ok (fun r => (kindL rs).any fun part => part.any (· == r)) rowD (xs := rs) ?_ (by omega) H (fun C r hr => ?_) (fun C r _ _ => ?_) (fun _ => rfl) (fun _ => rfl) (fun _ => rfl) (fun aM s1 nM e1 H1 => ?_) ?_ ?_ ?_ ?_ ?_ ?_ ?_ ?_ ?_
  · exact iter_list hA.room.handled (ev_at (ev_name rfl))
  · have hu : A.units + 2 < cLine := by
      have := hA.room.units
      show _ < 9900
      omega
    show Tst _ _ _ _ _ _
    refine tst_of (tst_ev (EvF.ev (comp_ev decRows_ok (fun part => part.any (· == r)) (fun _ => .int 1) (xs := kindL rs) (iter_list hA.room.handled (ev_at (ev_name rfl))) (by show (4 : Nat) ≤ 100; decide) (fun C2 a _ => tst_cmp (ev_name rfl) (ev_name rfl) (cmp_in_rows hu)) (fun C2 a _ _ => ev_int) (fun _ => rfl) rfl rfl rfl rfl (fun _ => rfl))) ?_) ?_
    · show Nat.ble _ 1000 = true
      rw [Nat.ble_eq, List.length_map]
      exact Nat.le_trans (List.length_filter_le ..) (by show (4 : Nat) ≤ 1000; decide)
    · rw [tru_list, any_filter]
  · exact ev_name rfl
  rotate_left 1
  · rfl
  · rfl
  · rfl
  · intro C; exact ⟨C + 1, Nat.le_refl _, rfl⟩
  · rfl
  · rfl
  · exact free_one (by show bears (.type "dict") (kindsD rs) = false; rw [bears, bl_kinds]; rfl)
  · rfl
  · intro _; rfl
  rw [List.filter_congr fun r hr => in_kinds hr] at H1
  with_reducible refine run_ifU hA (tstU_or hA (noneU2 ?_ ?_)) H1 fun s2 e2 H2 => ?_
  · exact Tst.u hA (tst_cmp (ev_meth (k := 34) (ev_at (ev_name rfl)) (m_tr _) (k_keep_tr _).1 (ds := []) rfl (fn_gtr (k := 30) (by omega)) (hA.room.mono (by omega))) (ev_at (ev_name rfl)) (cmp_ne_tags (eqVs_tags (k := 35) hA.room.in1) hA.room.cline))
  · exact Tst.u hA (tst_of (tst_cmp (ev_meth (k := 34) (ev_at (ev_name rfl)) (m_htr _) (k_keep_tr _).2 (ds := []) rfl (fn_hastr (k := 30) (by omega)) (hA.room.mono (by omega))) (ev_cmp (ev_at (ev_name rfl)) (EvF.ev (evF_list (ds := []) rfl)) (cmp_ne_empty hA.room.cline)) cmp_ne_bool) (by rw [any_filter]; simp))
  exact wpAny_execs_nil ⟨rfl, e1.trans e2, H2.less (Sub.less ⟨rfl, rfl, rfl, trivial⟩)⟩
end Mine
end
section
open PySem PySem.W PyProof.Rows PySem.Builtin
set_option Elab.async false
set_option maxRecDepth 100000
namespace Mine

section
variable {w : World} {A : Around} {env : Env} {s : Shared}
theorem run_take {l : List Stmt} {Q : Flow → Shared → Prop} (h : wpAny (md w) A (execs (l.take 1) env) (fun f s₁ => f = .next ∧ wpAny (md w) A (execs (l.drop 1) env) Q noE s₁) noE s) : wpAny (md w) A (execs l env) Q noE s := by
  cases l with
  | nil => exact fun Γ p hΓ => (h Γ p hΓ).2 Γ p hΓ
  | cons x l => exact run_one h
end
theorem val4_ok (j : Nat) (h : j < 4) : ((vals4.getD j "").length == 0) = false ∧ (vals4.getD j "" ++ ("1" : Str)).length ≤ 1000 := by
  match j, h with
  | 0, _ => exact ⟨by decide +kernel, by decide +kernel⟩
  | 1, _ => exact ⟨by decide +kernel, by decide +kernel⟩
  | 2, _ => exact ⟨by decide +kernel, by decide +kernel⟩
  | 3, _ => exact ⟨by decide +kernel, by decide +kernel⟩
theorem lt_ok (n : Int) : ((lt n).2.length == 0) = false ∧ ((lt n).2 ++ ("1" : Str)).length ≤ 1000 := by
  have h4 := fmod_range ((n.fdiv 6).fdiv 14) (m := 4) (by decide)
  exact val4_ok _ (by omega)

/-- where a turn ends -/
def Turned (w : World) (env : Env) (n : Int) (rs : List Row) (aR aT : Addr) (s : Shared) (f : Flow) (s' : Shared) : Prop :=
  f = .next ∧ ∃ aR' rs', rs'.length ≤ rs.length + 1 ∧ (aR' = aR ∨ New s aR') ∧ Ext (aT :: aR :: own env) s s' ∧ Holds w env (sF n rs' aR' aT) s'

structure AllT (w : World) (tb : List Stmt) (sc : Scope) : Prop where
  t1 : Is (T1 w tb sc)
  k0 : Is (TK w 0 tb sc)
  k1 : Is (TK w 1 tb sc)
  k2 : Is (TK w 2 tb sc)
  k3 : Is (TK w 3 tb sc)
  k4 : Is (TK w 4 tb sc)
  k5 : Is (TK w 5 tb sc)
  ta : Is (TA w tb sc)
  tbb : Is (TB w tb sc)
  tc : Is (TC w tb sc)
  td : Is (TD w tb sc)
  te : Is (TE w tb sc)
  tf : Is (TF w tb sc)
  tg : Is (TG w tb sc)
  th : Is (TH w tb sc)
theorem allT {w : World} : AllT w (turnOf w.params) (scopeOf w.params) := ⟨t1, tk0, tk1, tk2, tk3, tk4, tk5, ta, tbb, tc, td, te, tf, tg, th⟩

/-- the lines after the change -/
theorem turn_end {tb : List Stmt} {sc : Scope} {w : World} (T : AllT w tb sc) {A : Around} {L aR aT : Addr} {n c : Int} {v : Str} {cs : List Int} {old rs : List Row} {hs : List Nat} {aC aB aP aH : Addr} {s : Shared} (hA : LA A (lenv sc L)) (h0 : old.length ≤ 20) (hz : rs.length ≤ 20) (hc : cs.length ≤ 50)
    (H : Holds w (lenv sc L) (sg n c v cs old rs rs hs aC aB aP aH aR aT) s) :
    wpAny (md w) A (execs (tb.drop 5) (lenv sc L)) (fun f s' => f = .next ∧ Ext (own (lenv sc L)) s s' ∧ Holds w (lenv sc L) (sF n rs aR aT) s') noE s := by
  refine T.ta.out A L aR aT n c v cs old rs hs aC aB aP aH s _ hA h0 hz H fun aH1 hs1 fD s1 hh e1 H1 => ?_
  refine T.tbb.out A L aR aT n c cs rs hs1 fD aC aH1 s1 _ hA (by omega) hc hh H1 fun s2 e2 H2 => ?_
  refine T.tc.out A L aR aT n c cs rs hs1 fD aC aH1 s2 _ hA (by omega) hc hh H2 fun a e aI s3 ha he e3 H3 => ?_
  refine T.td.out A L aR aT n c cs rs hs1 a e aC aH1 aI s3 _ hA (by omega) hc ha he hh.1 H3 fun s4 e4 H4 => ?_
  refine T.te.out A L aR aT n c cs rs hs1 _ a e aC aH1 aI s4 _ hA (by omega) hc ha he H4 fun s5 e5 H5 => ?_
  refine T.tf.out A L aR aT n rs s5 _ hA (by omega) (H5.less (Sub.less ⟨rfl, rfl, rfl, trivial⟩)) fun s6 e6 H6 => ?_
  refine T.tg.out A L aR aT n rs s6 _ hA (by omega) H6 fun aK s7 e7 H7 => ?_
  refine wpAny_noE (T.th.out A L aK aR aT n rs s7 hA (by omega) H7) fun f s8 q => ⟨q.1, ?_, q.2.2⟩
  exact ((((((e1.trans e2).trans e3).trans e4).trans e5).trans e6).trans e7).trans q.2.1

theorem turn {tb : List Stmt} {sc : Scope} {w : World} (T : AllT w tb sc) {A : Around} {L aR aT : Addr} {n : Int} {rs : List Row} {s : Shared} (hA : LA A (lenv sc L)) (hz : rs.length ≤ 19) (nR : nTop ≤ aR) (nT : nTop ≤ aT)
    (H : Holds w (lenv sc L) (sg0 n rs rs aR aT) s) :
    wpAny (md w) A (execs tb (lenv sc L)) (Turned w (lenv sc L) n rs aR aT s) noE s := by
  refine T.t1.out A L aR aT n rs s _ hA (by omega) H fun aC aB aP aH s1 ne1 ne2 ne3 ne4 e1 H1 => ?_
  refine run_take ?_
  rw [List.drop_drop]
  have ho := law_own H nT nR
  have tk : ∀ j, Is (TK w j tb sc) → n.fmod 6 = j → wpAny (md w) A (execs ((tb.drop 4).take 1) (lenv sc L)) (fun f s₁ => f = .next ∧ wpAny (md w) A (execs (tb.drop (4 + 1)) (lenv sc L)) (Turned w (lenv sc L) n rs aR aT s) noE s₁) noE s1 := fun j h hj => by
    refine h.out A L aR aT n (lt n).1 (lt n).2 (lcs n) rs _ aC aB aP aH s1 _ hA (by omega) (by show (2 : Nat) ≤ 50; decide) nR nT (lt_ok n).1 (lt_ok n).2 hj ne1 ne2 ne3 ne4 rfl H1 fun aR' rs' s2 hl hR e2 H2 => ?_
    refine wpAny_noE (turn_end T hA (by omega) (by omega) (by show (2 : Nat) ≤ 50; decide) H2) fun f s3 q => ⟨q.1, aR', rs', hl, hR.imp id fun hn => newer_S e1 hn (own_there hA H1), ?_, q.2.2⟩
    exact ((wkO ho e1).trans e2).trans (wkO ho q.2.1)
  have h6 := fmod_range n (m := 6) (by decide)
  have : n.fmod 6 = 0 ∨ n.fmod 6 = 1 ∨ n.fmod 6 = 2 ∨ n.fmod 6 = 3 ∨ n.fmod 6 = 4 ∨ n.fmod 6 = 5 := by omega
  rcases this with q | q | q | q | q | q
  · exact tk 0 T.k0 q
  · exact tk 1 T.k1 q
  · exact tk 2 T.k2 q
  · exact tk 3 T.k3 q
  · exact tk 4 T.k4 q
  · exact tk 5 T.k5 q
end Mine
end
section
open PySem PySem.W PyProof.Rows PySem.Builtin
set_option Elab.async false
set_option maxRecDepth 100000
namespace Mine

abbrev sR (rs : List Row) (aR aT : Addr) : List (Str × D) := [("rows", .at aR (rowsD rs)), ("tags", .at aT (tagsD rs))]
/-- what may be changed in the loop -/
def Fine (env : Env) (s0 : Shared) (ax aR0 aT b : Addr) : Prop := nTop ≤ b ∧ b ≠ ax ∧ (b = aR0 ∨ b = aT ∨ b ∈ own env ∨ s0.heap.get? b = none)
structure LInv (w : World) (env : Env) (s0 : Shared) (I ax aR0 aT : Addr) (items : Array Value) (i : Nat) (aR : Addr) (rs : List Row) (W : List Addr) (s : Shared) : Prop where
  len : rs.length ≤ 9 + i
  holds : Holds w env (sR rs aR aT) s
  fineR : Fine env s0 ax aR0 aT aR ∧ aR ≠ I
  ext : Ext W s0 s
  fineW : ∀ b ∈ W, Fine env s0 ax aR0 aT b
  it : s.heap.IsListIter I ax i
  seq : SeqAt s.heap ax items

theorem iter_dull {s : Shared} {I ax : Addr} {i : Nat} (x : s.heap.IsListIter I ax i) : Dull s [I] := fun a ha o g => by
  obtain ⟨o', g', _, d⟩ := x
  rw [List.mem_singleton.mp ha, g'] at g; cases g
  exact ⟨fun v q => (by rw [d] at q; cases q), fun es ep q => (by rw [d] at q; cases q)⟩
section
variable {tb : List Stmt} {sc : Scope} {w : World} {A : Around} {L aR0 aT I ax : Addr} {s0 s s' : Shared} {items : Array Value} {i : Nat} {aR : Addr} {rs : List Row} {W : List Addr} {env : Env} {σ : List (Str × D)}
theorem Holds.iter (H : Holds w env σ s) (x : s.heap.IsListIter I ax i) (e : Ext [I] s s') : Holds w env σ s' :=
  H.extS e (iter_dull x) fun y d _ a ha o g => .inl (iter_free x a ha o g).2
/-- a turn done -/
theorem LInv.next (hA : LA A env) (V : LInv w env s0 I ax aR0 aT items i aR rs W s) (H0 : Holds w env (sR rs0 aR0 aT) s0) (nT : nTop ≤ aT) (nR : nTop ≤ aR0) (nI : New s0 I) (nax : New s0 ax) (hne : ax ≠ I) {s1 s2 : Shared} {n : Int} {f : Flow} (e1 : Ext [I] s s1) (i1 : s1.heap.IsListIter I ax (i + 1)) (e2 : Ext (own env) s1 s2) (q : Turned w env n rs aR aT s2 f s') :
    f = .next ∧ ∃ aR' rs' W', LInv w env s0 I ax aR0 aT items (i + 1) aR' rs' W' s' := by
  obtain ⟨rfl, aR', rs', hl, hR, e3, H'⟩ := q
  have thT : ∃ o, s0.heap.get? aT = some o := at_there (T := true) (y := "tags") H0 rfl
  have thO := own_there hA H0
  have TI : ∀ b, (∃ o, s0.heap.get? b = some o) → b ≠ I ∧ b ≠ ax := fun b ⟨o, g⟩ => ⟨fun q => (by rw [q, nI.1] at g; cases g), fun q => (by rw [q, nax.1] at g; cases g)⟩
  have keepO : ∀ {b o}, b ≠ I → (b = ax) → s.heap.get? b = some o → s1.heap.get? b = some o := fun {b o} h1 h2 g => e1.keep b o g (by simpa using h1) (nTop_PH (h2 ▸ nax.2)) (nTop_PL (h2 ▸ nax.2))
  have inOwn : ∀ b ∈ own env, b ≠ I ∧ b ≠ ax := fun b hb => TI b (thO b hb)
  have nO : ∀ b, (b = I ∨ b = ax) → b ∉ own env := fun b hb m => (inOwn b m).elim fun h1 h2 => hb.elim (fun q => h1 q) fun q => h2 q
  have nS : ∀ b, (b = I ∨ b = ax) → b ∉ aT :: aR :: own env := fun b hb m => by
    rcases List.mem_cons.mp m with q | m
    · exact (TI aT thT).elim fun h1 h2 => hb.elim (fun z => h1 (q ▸ z)) fun z => h2 (q ▸ z)
    · rcases List.mem_cons.mp m with q | m
      · exact hb.elim (fun z => V.fineR.2 (q ▸ z)) fun z => V.fineR.1.2.1 (q ▸ z)
      · exact nO b hb m
  have big : ∀ b, (b = I ∨ b = ax) → nTop ≤ b := fun b hb => hb.elim (fun q => q ▸ nI.2) fun q => q ▸ nax.2
  have k13 : ∀ b o, (b = I ∨ b = ax) → s1.heap.get? b = some o → s'.heap.get? b = some o := fun b o hb g => e3.keep b o (e2.keep b o g (nO b hb) (nTop_PH (big b hb)) (nTop_PL (big b hb))) (nS b hb) (nTop_PH (big b hb)) (nTop_PL (big b hb))
  have sq1 : SeqAt s1.heap ax items := V.seq.at fun o g => keepO hne rfl g
  have thI : ∃ o, s2.heap.get? I = some o := by
    obtain ⟨o, g, _⟩ := i1
    exact ⟨o, e2.keep I o g (nO I (.inl rfl)) (nTop_PH nI.2) (nTop_PL nI.2)⟩
  have thX : ∃ o, s2.heap.get? ax = some o := by
    obtain ⟨o, m, g, _⟩ := sq1
    exact ⟨o, e2.keep ax o g (nO ax (.inr rfl)) (nTop_PH nax.2) (nTop_PL nax.2)⟩
  have fo : ∀ b ∈ I :: aT :: aR :: own env ++ W, Fine env s0 ax aR0 aT b := fun b hb => by
    rcases List.mem_append.mp hb with hb | hb
    · rcases List.mem_cons.mp hb with q | hb
      · rw [q]; exact ⟨nI.2, hne.symm, .inr (.inr (.inr nI.1))⟩
      · rcases List.mem_cons.mp hb with q | hb
        · rw [q]; exact ⟨nT, (TI aT thT).2, .inr (.inl rfl)⟩
        · rcases List.mem_cons.mp hb with q | hb
          · rw [q]; exact V.fineR.1
          · exact ⟨H0.big b hb, (inOwn b hb).2, .inr (.inr (.inl hb))⟩
    · exact V.fineW b hb
  have big' : ∀ b ∈ I :: aT :: aR :: own env ++ W, nTop ≤ b := fun b hb => (fo b hb).1
  have eA : Ext (I :: aT :: aR :: own env ++ W) s0 s' := by
    have a1 := V.ext.wk (fun b hb => List.mem_append_right _ hb) big'
    have a2 := e1.wk (fun b hb => by rw [List.mem_singleton.mp hb]; exact List.mem_cons_self ..) big'
    have a3 := e2.wk (fun b hb => List.mem_append_left _ (List.mem_cons_of_mem _ (List.mem_cons_of_mem _ (List.mem_cons_of_mem _ hb)))) big'
    have a4 := e3.wk (fun b hb => List.mem_append_left _ (List.mem_cons_of_mem _ hb)) big'
    exact ((a1.trans a2).trans a3).trans a4
  refine ⟨rfl, aR', rs', _, ⟨by have := V.len; omega, H'.less (Sub.less ⟨rfl, rfl, trivial⟩), ?_, eA, fo, i1.at fun o g => k13 I o (.inl rfl) g, sq1.at fun o g => k13 ax o (.inr rfl) g⟩⟩
  rcases hR with q | hn
  · rw [q]; exact V.fineR
  · have hI' : aR' ≠ I := fun q => by obtain ⟨o, g⟩ := thI; rw [q] at hn; rw [hn.1] at g; cases g
    have hX' : aR' ≠ ax := fun q => by obtain ⟨o, g⟩ := thX; rw [q] at hn; rw [hn.1] at g; cases g
    refine ⟨⟨hn.2, hX', ?_⟩, hI'⟩
    by_cases m : aR' ∈ I :: own env ++ W
    · rcases List.mem_append.mp m with m | m
      · rcases List.mem_cons.mp m with q | m
        · exact absurd q hI'
        · exact .inr (.inr (.inl m))
      · exact (V.fineW _ m).2.2
    · refine .inr (.inr (.inr ?_))
      have e02 : Ext (I :: own env ++ W) s0 s2 := by
        have ho : ∀ b ∈ I :: own env ++ W, nTop ≤ b := fun b hb => by
          rcases List.mem_append.mp hb with hb | hb
          · rcases List.mem_cons.mp hb with q | hb
            · rw [q]; exact nI.2
            · exact H0.big b hb
          · exact (V.fineW b hb).1
        exact ((V.ext.wk (fun b hb => List.mem_append_right _ hb) ho).trans (e1.wk (fun b hb => by rw [List.mem_singleton.mp hb]; exact List.mem_cons_self ..) ho)).trans (e2.wk (fun b hb => List.mem_append_left _ (List.mem_cons_of_mem _ hb)) ho)
      cases g : s0.heap.get? aR' with
      | none => rfl
      | some o =>
        have := e02.keep aR' o g m (nTop_PH hn.2) (nTop_PL hn.2)
        rw [hn.1] at this; cases this
end
end Mine
end
section
open PySem PySem.W PyProof.Rows PySem.Builtin
set_option Elab.async false
set_option maxRecDepth 100000
namespace Mine

theorem ints_get {h : Heap} {ns : List Int} {vs : List Value} (hv : Vals h (ns.map .int) vs) {i : Nat} (hi : i < ns.length) : ∃ n t, vs[i]? = some (.int n t) := by
  obtain ⟨v, h1, t, h2⟩ := hv.get (i := i) (d := .int ns[i]) (by rw [List.getElem?_map, List.getElem?_eq_getElem hi]; rfl)
  exact ⟨_, t, by rw [h1, h2]⟩
theorem loop_run {w : World} {A : Around} {env : Env} {aR aT I ax : Addr} {tb : List Stmt} {rs0 : List Row} {px : Pos} {s0 z : Shared} {N : Nat} {items : Array Value} {R : Result → Shared → Prop} (hA : LA A env) (hN : items.size = N) (hN6 : N ≤ 6) (nR : nTop ≤ aR) (nT : nTop ≤ aT)
    (items_int : ∀ i, i < N → ∃ n t, items[i]? = some (.int n t)) (nI : New s0 I) (nax : New s0 ax) (hne : ax ≠ I) (H0 : Holds w env (sR rs0 aR aT) s0) (V : ∃ W, LInv w env s0 I ax aR aT items 0 aR rs0 W z) (hx : env.kindOf "number" = some .local)
    (turn : ∀ n rs aR' s, rs.length ≤ 19 → nTop ≤ aR' → Holds w env (sg0 n rs rs aR' aT) s → wpAny (md w) A (execs tb env) (Turned w env n rs aR' aT s) noE s)
    (hR : ∀ s', Ext (aT :: aR :: own env) s0 s' → Holds w env [] s' → R (.ok .next) s') :
    codeAny (md w) A (.forLoop (.Name "number" px) (.ref I) tb [] env) R z := by
  refine codeAny_forLoop_any (fun m s => ∃ i aR' rs W, m = N - i ∧ i ≤ N ∧ LInv w env s0 I ax aR aT items i aR' rs W s) ?_ N ?_
  · rintro m s ⟨i, aR', rs, W, rfl, hi, V⟩
    have h1 := V.it
    have hfree := iter_free h1
    by_cases hlt : i < N
    · obtain ⟨n, t, hv⟩ := items_int i hlt
      refine wpAny_noE (Q := fun r s1 => r = some (.int n t) ∧ Ext [I] s s1 ∧ s1.heap.IsListIter I ax (i + 1)) ?_ fun r s1 q => ?_
      · exact pyNext_item h1 V.seq hv fun h' hit' hs' => ⟨rfl, Ext.sets (t := s.toks) (S := [I]) (fun a ha => by rw [List.mem_singleton.mp ha]; exact nI.2) (fun a ha o g => (hfree a ha o g).1) (fun b o hb g => (hs'.2 b (by simpa using hb)).trans g), hit'⟩
      obtain ⟨rfl, e1, i1⟩ := q
      have H1 := Holds.iter V.holds h1 e1
      refine wpAny_pure ?_
      refine wpAny_noE (store1 H1 (d := .int n) ⟨t, rfl⟩ (.inl hx) hA.func) fun _ s2 q2 => ?_
      obtain ⟨H2, e2⟩ := q2
      have e2' := own_wk H1 e2
      refine wpAny_noE (turn n rs aR' s2 (by have := V.len; omega) V.fineR.1.1 H2) fun f s3 q3 => ?_
      obtain ⟨rfl, aR2, rs2, W2, V2⟩ := LInv.next hA V H0 nT nR nI nax hne e1 i1 e2' q3
      exact ⟨N - (i + 1), by omega, i + 1, aR2, rs2, W2, rfl, hlt, V2⟩
    · have hiN : i = N := by omega
      refine wpAny_noE (Q := fun r s1 => r = none ∧ Ext [I] s s1) ?_ fun r s1 q => ?_
      · exact pyNext_end hA.room.handled h1 V.seq (by simp [hN, hiN]) fun h' hk => ⟨rfl, Ext.sets (t := s.toks) (S := [I]) (fun a ha => by rw [List.mem_singleton.mp ha]; exact nI.2) (fun a ha o g => (hfree a ha o g).1) (fun b o hb g => hk b o (by simpa using hb) g)⟩
      obtain ⟨rfl, e1⟩ := q
      have H1 := Holds.iter V.holds h1 e1
      refine wpAny_execs_nil (hR s1 ?_ (H1.less fun y d q => by cases q))
      have ho : ∀ b ∈ W ++ [I], nTop ≤ b := fun b hb => by
        rcases List.mem_append.mp hb with hb | hb
        · exact (V.fineW b hb).1
        · rw [List.mem_singleton.mp hb]; exact nI.2
      refine ((V.ext.wk (fun b hb => List.mem_append_left _ hb) ho).trans (e1.wk (fun b hb => List.mem_append_right _ hb) ho)).drop (fun b hb => ?_) (law_own H0 nT nR)
      rcases List.mem_append.mp hb with hb | hb
      · rcases (V.fineW b hb).2.2 with q | q | q | q
        · exact .inl (by rw [q]; exact List.mem_cons_of_mem _ (List.mem_cons_self ..))
        · exact .inl (by rw [q]; exact List.mem_cons_self ..)
        · exact .inl (List.mem_cons_of_mem _ (List.mem_cons_of_mem _ q))
        · exact .inr q
      · rw [List.mem_singleton.mp hb]; exact .inr nI.1
  · obtain ⟨W, V⟩ := V
    exact ⟨0, aR, rs0, W, by simp, Nat.zero_le _, V⟩

theorem for_law {tb : List Stmt} {sc : Scope} {w : World} {A : Around} {L aR aT : Addr} {ns : List Int} {px pos : Pos} {it : Expr} {rest : List Stmt} {Q : Flow → Shared → Prop} {s : Shared} {rs0 : List Row} {σ : List (Str × D)}
    (T : AllT w tb sc) (hA : LA A (lenv sc L)) (nR : nTop ≤ aR) (nT : nTop ≤ aT) (hz : rs0.length ≤ 9) (hn : ns.length ≤ 6) (hsub : Sub σ (sR rs0 aR aT))
    (hit : EvF w A (lenv sc L) σ it (.list (ns.map .int))) (H : Holds w (lenv sc L) σ s) (hx : (lenv sc L).kindOf "number" = some .local)
    (k : ∀ s', Ext (aT :: aR :: own (lenv sc L)) s s' → Holds w (lenv sc L) [] s' → wpAny (md w) A (execs rest (lenv sc L)) Q noE s') (hs : ∀ x, foldedSetIterable it (lenv sc L) x = pure x) :
    wpAny (md w) A (execs (.For (.Name "number" px) it tb [] pos :: rest) (lenv sc L)) Q noE s := by
  have H0 : Holds w (lenv sc L) (sR rs0 aR aT) s := H.less hsub.less
  refine wpAny_execs_cons (wpAny_For (wpAny_noE (hit s H) fun x s1 q => ?_) hs)
  obtain ⟨⟨e1, ax, vs, n, rfl, g, hv⟩, a', q', nax'⟩ := q
  have nax : New s ax := by cases q'; exact nax'
  have B1 := H.base.ext e1
  refine wpAny_pyIter_list ⟨_, g, rfl, n, rfl⟩ ?_
  have e2 : Ext [] s1 { s1 with heap := s1.heap.push { cls := .type "list_iterator", data := .fields #[.ref ax, .int 0 0] } } := Ext.push (t := s1.toks)
  have nI : New s s1.heap.objs.size := ⟨H.base.fresh e1 (gone (Nat.le_refl _)), B1.big⟩
  have hne : ax ≠ s1.heap.objs.size := Nat.ne_of_lt (Heap.lt_size g)
  have e02 := e1.trans e2
  have thR : ∃ o, s.heap.get? aR = some o := at_there (T := false) (y := "rows") H0 rfl
  have V0 : ∃ W, LInv w (lenv sc L) s s1.heap.objs.size ax aR aT vs.toArray 0 aR rs0 W { s1 with heap := s1.heap.push { cls := .type "list_iterator", data := .fields #[.ref ax, .int 0 0] } } := by
    obtain ⟨oR, gR⟩ := thR
    refine ⟨[], hz, H0.ext e02, ⟨⟨nR, fun q => ?_, .inl rfl⟩, fun q => ?_⟩, e02, (fun b hb => by cases hb), it_objs, ⟨_, _, Heap.get?_push_of_some _ g, rfl⟩⟩
    · rw [q, nax.1] at gR; cases gR
    · rw [q, nI.1] at gR; cases gR
  have hl := hv.length
  refine loop_run hA (N := ns.length) (by simpa using hl) hn nR nT (fun i hi => ?_) nI nax hne H0 V0 hx (fun m rs aR' s' h1 h2 h3 => turn T hA h1 h2 nT h3) fun s' e' H' => k s' e' H'
  obtain ⟨m, t, h⟩ := ints_get hv hi
  exact ⟨m, t, by simpa using h⟩
end Mine
end
section
open PySem PySem.W PyProof.Rows PySem.Builtin
set_option Elab.async false
set_option maxRecDepth 100000
namespace Mine

theorem law_eq {P : Params} {name qual : Str} {params : Arguments} {body tb : List Stmt} {scope : Scope} {dV kV doc pm cdv ct oc : Value} {an od : Option Addr} {osl : Array (Option Value)} {a b c : Stmt} {t it : Expr} {p : Pos} {rest els : List Stmt}
    (ho : ∀ P, (hd.heap_39 P).lookup 388 = some ⟨oc, od, .func (fnX name qual params body scope [] dV kV doc pm an cdv ct), osl⟩) (hb : body = a :: b :: c :: .For t it tb els p :: rest) : turnOf P = tb ∧ scopeOf P = scope :=
  (law_cut (P := P) (fun x y => x = tb ∧ y = scope) ho hb ⟨⟨rfl, rfl⟩⟩).out

/-- the numbers that the turns get -/
def turnsOf (ns : List Int) : List Int := if ns.length > 9 then (ns.take 15).drop 9 else if ns.isEmpty then [1] else ns.take 2
theorem turnsOf_len {ns : List Int} : (turnsOf ns).length ≤ 6 := by
  unfold turnsOf
  split
  · rw [List.length_drop, List.length_take]; omega
  · split
    · decide
    · rw [List.length_take]; omega
theorem sl_map {α : Type} {f : α → D} {lo hi : Option Nat} {xs : List α} : sl lo hi (xs.map f) = (sl lo hi xs).map f := by
  unfold sl
  cases hi with
  | none => rw [List.map_drop]
  | some b => rw [List.map_drop, List.map_take]

def LawEnd (env : Env) (s₀ : Shared) (f : Flow) (s' : Shared) : Prop := f = .ret (.bool true) ∧ Ext (own env) s₀ s'
theorem law_mono {M : Model} {A : Around} {env : Env} {body : List Stmt} {s₀ : Shared} {Q : Flow → Shared → Prop} {E : Value → Shared → Prop} (h : wpAny M A (execs body env) (LawEnd env s₀) noE s₀) (k : ∀ f s', LawEnd env s₀ f s' → Q f s') : wpAny M A (execs body env) Q E s₀ := wpAny_mono h k fun _ _ f => f.elim
theorem law_true {w : World} {s : Shared} {v : Value} {ns : List Int} (B : Base w s) (hv : Val s.heap (.list (ns.map .int)) v) (hn : ns.length ≤ 63) :
    codeAny (md w) callerA (.call (.ref 388) ⟨[v], []⟩) (fun r s' => r = .ok (.ret (.bool true)) ∧ Ext [] s s') s := by
  have r : Room 41 callerA := ⟨rfl, by show 301 + 41 < 1000; decide, by show 4 + 200 * 41 < 9000; decide⟩
  have T := allT (w := w)
  obtain ⟨q1, q2⟩ := law_eq (P := w.params) (fun P => by k_is) (by rfl)
  rw [q1, q2] at T
  clear q1 q2
  refine fn_enter (k := 40) (ds := [.list (ns.map .int)]) (binds := [("script", v)]) B r (by k_is) (by kernel_rfl) (BindsTo.of_eq (by rfl)) ⟨v, [], rfl, hv, rfl⟩ (fun L s₀ e hnew H r' => ?_) (hnd := by show (["script"] : List Str).Nodup; decide)
  have hA : LA (callerA.deeper (lenv _ L)) (lenv _ L) := ⟨r', Around.frames_deeper rfl, rfl, rfl, fun p hp => by
    repeat (rcases List.mem_cons.mp hp with rfl | hp; · rfl)
    exact absurd hp List.not_mem_nil⟩
  refine law_mono ?_ fun f s' q => ?_
  rotate_left 1
  · obtain ⟨rfl, x⟩ := q
    exact ⟨rfl, ((e.wk0 x.own).trans x).drop (fun i hi => .inr (hnew i hi)) (by simp)⟩
  with_reducible refine run_assignF (d := .list ((ns.take 9).map .int)) ?_ H (fun aN s1 nN e1 H1 => ?_) ?_ ?_ ?_
  · refine evF_of (evF_slice (ds := ns.map .int) (lo := none) (hi := some 9) (ev_name rfl) rfl ⟨9, rfl, ev_int⟩ (by simp; omega)) ?_
    rw [sl_map]; rfl
  rotate_left 1
  · exact .inl rfl
  · rfl
  · rfl
  have h9 : (ns.take 9).length ≤ 9 := List.length_take_le ..
  obtain ⟨rs, hrs⟩ : ∃ rs, rs = (ns.take 9).map lawTag := ⟨_, rfl⟩
  have hz : rs.length ≤ 9 := by rw [hrs, List.length_map]; exact h9
  with_reducible refine run_comp decInt_ok (fun _ => true) (fun n => rowD (lawTag n)) (xs := ns.take 9) ?_ (by omega) H1 (fun C a _ => ?_) (fun C a _ _ => ?_) (fun _ => rfl) (fun aR s2 nR e2 H2 => ?_) ?_ ?_ ?_ ?_ ?_ ?_ ?_ ?_
  · exact iter_list hA.room.handled (ev_at (ev_name rfl))
  · rfl
  · exact ev_fn (k := 40) fn_lawTag (gl_main rfl (k_g_lt _)) (k_keep_lt _) (evs1 (ev_name rfl)) hA.room
  rotate_left 1
  · rfl
  · rfl
  · rfl
  · rfl
  · rfl
  · rfl
  · rfl
  · intro _; rfl
  have er : (((ns.take 9).filter fun _ => true).map fun n => rowD (lawTag n)) = rs.map rowD := by rw [List.filter_eq_self.mpr fun _ _ => rfl, hrs, List.map_map]; rfl
  rw [er] at H2
  with_reducible refine run_assignF (d := tagsD rs) ?_ H2 (fun aT s3 nT e3 H3 => ?_) ?_ ?_ ?_
  · exact evF_tags rfl (EvF.ev (comp_all decRow_ok tagD (iter_list hA.room.handled (ev_at (ev_name rfl))) (by omega) (fun C a => ev_make (k := 30) (hA.room.mono (by omega)) rfl (ev_at0 (ev_name rfl)) (ev_at1 (ev_name rfl))) (fun _ => rfl))) (by simp; omega) (flat_tags _)
  rotate_left 1
  · exact .inr ⟨rfl, rfl⟩
  · rfl
  · rfl
  with_reducible refine for_law (ns := turnsOf ns) (rs0 := rs) (aR := aR) (aT := aT) T hA nR.2 nT.2 hz turnsOf_len ?_ ?_ H3 ?_ (fun s4 e4 H4 => ?_) ?_
  · exact ⟨rfl, rfl, trivial⟩
  · refine evF_ifexp (b := decide (ns.length > 9)) (tst_of (tst_cmp (ev_len_list rfl (ev_name rfl) (by simp; omega)) ev_int cmp_gt_int) (by rw [List.length_map]; simp only [decide_eq_decide]; omega)) (fun hb => ?_) (fun hb => ?_)
    · have hb' : ns.length > 9 := by simpa using hb
      refine evF_of (evF_slice (ds := ns.map .int) (lo := some 9) (hi := some 15) (ev_name rfl) ⟨9, rfl, ev_int⟩ ⟨15, rfl, ev_int⟩ (by simp; omega)) ?_
      unfold turnsOf
      rw [sl_map, if_pos hb']; rfl
    · have hb' : ¬ ns.length > 9 := by simpa using hb
      have e2' : turnsOf ns = if ns.isEmpty then [1] else ns.take 2 := by unfold turnsOf; rw [if_neg hb']
      rw [e2']
      refine evF_or2 (a := .list ((ns.take 2).map .int)) (evF_of (evF_slice (ds := ns.map .int) (lo := none) (hi := some 2) (ev_name rfl) rfl ⟨2, rfl, ev_int⟩ (by simp; omega)) (by rw [sl_map]; rfl)) ?_ (fun ht => ?_) fun ht => ?_
      · show Nat.ble _ 1000 = true
        rw [Nat.ble_eq, List.length_map]
        exact Nat.le_trans (List.length_take_le ..) (by decide)
      · cases ns with
        | nil => cases ht
        | cons n t => rfl
      · cases ns with
        | nil => exact evF_list (evs1 ev_int)
        | cons n t => cases ht
  · rfl
  rotate_left 1
  · intro _; rfl
  have nT0 : New s₀ aT := newer_S (e1.trans e2) nT (own_there hA H2)
  have nR0 : New s₀ aR := newer_S e1 nR (own_there hA H1)
  have ho := law_own H nT.2 nR.2
  with_reducible refine wpAny_execs_cons (wpAny_Return_some (wpAny_noE (ev_run (ev_bool (b := true)) H4) fun v s5 q5 => ?_))
  obtain ⟨e5, rfl⟩ := q5
  refine ⟨rfl, (((wkO ho ((e1.trans e2).trans e3)).trans e4).trans (e5.wk0 ho)).drop (fun i hi => ?_) H.big⟩
  rcases List.mem_cons.mp hi with q | hi
  · rw [q]; exact .inr nT0.1
  · rcases List.mem_cons.mp hi with q | hi
    · rw [q]; exact .inr nR0.1
    · exact .inl hi
end Mine
end
section
open PySem PySem.W PyProof.Rows PySem.Builtin
set_option Elab.async false
set_option maxRecDepth 100000
namespace Mine

theorem tabI_0 {h : Heap} {c P : Addr} {q : Str} {oc : Value} {od : Option Addr} {os : Array (Option Value)} {vs : Array Value} {file : Str} {tf : PySem.Tok} {flags : Int} {tg : PySem.Tok} {inF : Bool} {text : Int} {tt : PySem.Tok} (g : h.get? c = some ⟨oc, od, .fields vs, os⟩) (gp : h.get? P = some (X.tableObj #[]))
    (h1 : vs.getD 11 .none = .ref P) (h2 : vs.getD 18 .none = .str file tf) (h3 : vs.getD 7 .none = .int flags tg) (h4 : vs.getD 9 .none = .bool inF) (h5 : vs.getD 10 .none = .int text tt) (hne : c ≠ P) : TabI h c P q #[] := by
  refine ⟨⟨_, vs, file, tf, flags, tg, inF, text, tt, _, g, rfl, h1, h2, h3, h4, h5, gp, rfl, ?_, hne⟩, gp, fun pos cv e => ?_⟩
  · trivial
  · cases (show codeAmong pos [] = some cv from e)
theorem base_of {w : World} {s : Shared} (KX : (hd.heap_39 w.params).In s.heap) (hg : s.gens = #[]) : Base w s where
  top := fun a o e _ _ => KX a o e
  big := by
    obtain ⟨o, h⟩ := Option.isSome_iff_exists.mp (last_top w.params)
    exact Heap.lt_size (KX _ _ h)
  tH := ⟨#[], tabI_0 (KX 243 _ (by k_is)) (KX PH _ (by k_is)) rfl rfl rfl rfl rfl (by decide)⟩
  tL := ⟨#[], tabI_0 (KX 387 _ (by k_is)) (KX PL _ (by k_is)) rfl rfl rfl rfl rfl (by decide)⟩
  bare := .of_eq hg
theorem oldK_of {w : World} {s s' : Shared} (KX : (hd.heap_39 w.params).In s.heap) (B : Base w s) (e : Ext [] s s') : OldK s.heap s'.heap := by
  have tbl : ∀ {c P : Addr} {q : Str} {ps : Array Value}, isCodeTable s.heap P → TabI s.heap c P q ps → (∃ more, TabI s'.heap c P q (ps ++ more)) → (∀ o, s.heap.get? P = some o → asItWas s.heap s'.heap P o) ∧ ∃ o', s'.heap.get? P = some o' := fun {c P q ps} ct t ⟨more, t'⟩ => by
    refine ⟨fun o g => ?_, _, t'.tab⟩
    rw [t.tab] at g; cases g
    exact .inr (.inl ⟨ct, rfl, ps, more, rfl, t'.tab⟩)
  obtain ⟨ps1, t1⟩ := B.tH
  obtain ⟨ps2, t2⟩ := B.tL
  have c1 : isCodeTable s.heap PH := ⟨243, _, _, KX 243 _ (by k_is), rfl, rfl, rfl⟩
  have c2 : isCodeTable s.heap PL := ⟨387, _, _, KX 387 _ (by k_is), rfl, rfl, rfl⟩
  have a1 := tbl c1 t1 (e.tH _ t1)
  have a2 := tbl c2 t2 (e.tL _ t2)
  refine ⟨fun b o g => ?_, fun b o g => ?_⟩
  · by_cases h1 : b = PH
    · subst h1; exact a1.1 o g
    · by_cases h2 : b = PL
      · subst h2; exact a2.1 o g
      · exact .inl (e.keep b o g (by simp) h1 h2)
  · by_cases h1 : b = PH
    · subst h1; exact a1.2
    · by_cases h2 : b = PL
      · subst h2; exact a2.2
      · exact ⟨o, e.keep b o g (by simp) h1 h2⟩
theorem well_list {P : Params} {h : Heap} {a : Addr} {xs : List WData} (W : Well P h (.ref a) (.list xs)) : ∃ us, h.get? a = some (listO us 0) := by
  cases W with
  | list h1 _ => exact ⟨_, h1⟩
theorem vals_ints {h : Heap} : ∀ {vs : List Value} {ns : List Int}, IntsAre vs ns → Vals h (ns.map .int) vs
  | _, _, .nil => rfl
  | _, _, .cons n t r => ⟨_, _, rfl, ⟨t, rfl⟩, vals_ints r⟩
end Mine
end
open PySem PySem.W PyProof.Rows PySem.Builtin PySem.W.X
set_option Elab.async false
set_option maxRecDepth 100000
set_option maxHeartbeats 4000000
namespace Mine
theorem law_end {w : World} {s₁ : Shared} {a : Addr} {ns : List Int} {vs : List Value} {c : ClaimW} {cl : Str → Option Addr} {mean : ExcName → Option Value} {args : List WData} {P : Params} {xs : List WData}
    (KX : (hd.heap_39 w.params).In s₁.heap) (hg : s₁.gens = #[]) (hL : s₁.heap.IsList a vs.toArray) (hI : IntsAre vs ns) (hn : ns.length ≤ 63) (W : Well P s₁.heap (.ref a) (.list xs))
    (hr : ∀ cls, c.raises args cls = false) (hp : c.post args (.bool true) args = true) :
    wpAny (md w) callerA (call (.ref 388) [.ref a]) (fun v s' => GoodWG c cl mean args s₁ (.ok (.ret v)) s') (fun e s' => GoodWG c cl mean args s₁ (.error e) s') s₁ := by
  have B := base_of KX hg
  have hv : Val s₁.heap (.list (ns.map .int)) (.ref a) := by
    obtain ⟨us, g⟩ := well_list W
    obtain ⟨o, g2, _, n, d⟩ := hL
    rw [g] at g2; cases g2
    cases d
    exact ⟨a, _, 0, rfl, g, vals_ints hI⟩
  refine wpAny_call (codeAny_mono (law_true B hv hn) fun r s' q => ?_)
  obtain ⟨rfl, e⟩ := q
  exact ⟨.inl ⟨_, _, [], rfl, hr, ReadsW.bool true, hp, fun _ => ⟨List.nodup_nil, fun _ hm => (nomatch hm)⟩⟩, oldK_of KX B e, e.os, e.bare B.bare⟩
end Mine
theorem PySem.Challenge.cw_fw0011_01_holds : PySem.Challenge.rw_fw0011_01.Holds := by
  refine Mine.hd ?_
  k_fill
  intro w s₀ s₁ mg mb G Y fa o pm cd doc dV kV ho hd hcd hD hmg hg args vals as hpre hlay hrd hwl hlo
  have KX := kIn_of Y
  have X := (Ground.X G).1
  have V := (Ground.X G).2
  refine Ground.open G ?_
  intro T B D TE TW
  wrow_args hpre hlay hrd hwl hlo
  all_goals (x_fa T KX hmg)
  rename_i hL _ W _ hI _ _ _
  exact Mine.law_end KX hg hL hI (by omega) W (fun _ => rfl) (by first | rfl | wrow_post)
