import PyProof.Rows.All
import Wide.All
import OpenK.AllK
import Wide.FinOn
import KE.KLam
import Open.Line
import Lean
import PySem.Challenge.RW_in0046_01
set_option Elab.async false
set_option linter.unusedVariables false
namespace Mine
section
open PySem PySem.W PyProof.Rows PySem.Calls
/-- the i-th statement of the text's top -/
noncomputable def tops : List Stmt := PySem.Challenge.pw_in0046_01.main.body
noncomputable def stAt (i : Nat) : Stmt := (tops[i]?).getD (.Pass default)
noncomputable def nameOf : Stmt → Str
  | .FunctionDef n .. => n
  | _ => Str.empty
noncomputable def prmOf : Stmt → Arguments
  | .FunctionDef _ a .. => a
  | _ => default
noncomputable def bodOf : Stmt → List Stmt
  | .FunctionDef _ _ b .. => b
  | _ => []
noncomputable def scpOf : Stmt → Scope
  | .FunctionDef _ _ _ _ _ _ sc .. => sc
  | _ => default

/-- the i-th def stands at a -/
noncomputable def FnAt (h : Heap) (a : Addr) (i : Nat) : Prop :=
  ∃ o pm cd doc, h.get? a = some o ∧ o.data = .func (docDef (nameOf (stAt i)) (prmOf (stAt i)) (bodOf (stAt i)) (scpOf (stAt i)) pm cd doc) ∧ h.CodeRec cd (nameOf (stAt i))
theorem FnAt.keeps {h h' : Heap} {a : Addr} {i : Nat} (x : FnAt h a i) (k : ∀ b o, h.get? b = some o → h'.get? b = some o) : FnAt h' a i := by
  obtain ⟨o, pm, cd, doc, h1, h2, h3⟩ := x
  exact ⟨o, pm, cd, doc, k _ _ h1, h2, h3.keeps k⟩

/-- what the text's top has laid, as far as the calls read it -/
structure G (mg mb : Str → Option Value) (fa : Nat → Addr) (h : Heap) : Prop where
  g : h.Ns mainGlobals mg
  b : h.Ns builtinsNs mb
  bb : ∀ x : Str, x ≠ "__name__" → mb x = bootBuiltins x
  nolimit : h.NoLimit
  fn : ∀ i ∈ [2, 3, 4, 5, 9, 11, 17, 18, 19, 20, 21, 22, 23], mg (nameOf (stAt i)) = some (.ref (fa i)) ∧ FnAt h (fa i) i
  free : ∀ x ∈ ([Str.ofString "len", "range", "min", "int", "sum", "zip", "iter", "isinstance", "str"] : List Str), mg x = none
theorem G.keeps {mg mb : Str → Option Value} {fa : Nat → Addr} {h h' : Heap} (x : G mg mb fa h) (k : ∀ b o, h.get? b = some o → h'.get? b = some o) : G mg mb fa h' :=
  ⟨x.g.keeps k, x.b.keeps k, x.bb, x.nolimit.keeps k, fun i hi => ⟨(x.fn i hi).1, (x.fn i hi).2.keeps k⟩, x.free⟩

/-- room for n more frames -/
structure Rm (A : Around) (n : Nat) : Prop where
  hd : A.handled = none
  dp : A.depth + n ≤ 500
  un : A.units + 10 * n ≤ 5000
theorem Rm.deeper {A : Around} {n : Nat} {env : Env} (r : Rm A (n + 1)) : Rm (A.deeper env) n :=
  ⟨r.hd, by have := r.dp; show A.depth + 1 + n ≤ 500; lia, by have := r.un; show A.units + 3 + 10 * n ≤ 5000; lia⟩
theorem Rm.room {A : Around} {n : Nat} (r : Rm A n) : A.depth < recursionLimit := by have := r.dp; show A.depth < 1000; lia
theorem Rm.mono {A : Around} {n k : Nat} (r : Rm A n) (h : k ≤ n) : Rm A k := ⟨r.hd, by have := r.dp; lia, by have := r.un; lia⟩
theorem Rm.units {A : Around} {n : Nat} (r : Rm A n) : A.units < cLine := by have := r.un; show A.units < 9900; lia

section
variable {M : Model} {A : Around} {E : Value → Shared → Prop} {s : Shared} {name : Str} {scope : Scope} {L a : Addr} {cd : Value} {h₀ : Heap} {m mg mb : Str → Option Value} {fa : Nat → Addr} {Q : Value → Shared → Prop} {news : List (Addr × Obj)}
/-- a def of the text by its name -/
theorem ldG (i : Nat) {x : Str} {pos : Pos} (F : Fr h₀ L s.heap m) (T : G mg mb fa h₀) (h : Q (.ref (fa i)) s) (hi : i ∈ [2, 3, 4, 5, 9, 11, 17, 18, 19, 20, 21, 22, 23] := by decide) (hn : nameOf (stAt i) = x := by rfl)
    (hk : scope.kind = .function := by rfl) (hx : (envOf name scope L a cd).kindOf x = some .globalImplicit := by rfl) (hd : (x == ("__debug__" : Str)) = false := by decide) :
    wpAny M A (eval (.Name x pos) (envOf name scope L a cd)) Q E s :=
  Name_function_global hk hx (loadGlobal_global (env := envOf name scope L a cd) (T.g.keeps F.keep) (hn ▸ (T.fn i hi).1) h) hd
/-- a built-in by its name -/
theorem ldB {x : Str} {v : Value} {pos : Pos} (F : Fr h₀ L s.heap m) (T : G mg mb fa h₀) (hv : bootBuiltins x = some v) (h : Q v s) (hf : x ∈ ([Str.ofString "len", "range", "min", "int", "sum", "zip", "iter", "isinstance", "str"] : List Str) := by decide)
    (hn : x ≠ "__name__" := by decide) (hk : scope.kind = .function := by rfl) (hx : (envOf name scope L a cd).kindOf x = some .globalImplicit := by rfl) (hd : (x == ("__debug__" : Str)) = false := by decide) :
    wpAny M A (eval (.Name x pos) (envOf name scope L a cd)) Q E s :=
  Name_function_global hk hx (loadGlobal_builtin (env := envOf name scope L a cd) (T.g.keeps F.keep) (T.free x hf) (T.b.keeps F.keep) ((T.bb x hn).trans hv) h) hd
end

/-- a call of the i-th def -/
theorem enterFn {prog : Program} {w : World} {A : Around} {R : Result → Shared → Prop} {s : Shared} {a : Addr} {i n : Nat} {args : List Value} {binds : List (Str × Value)} (X : FnAt s.heap a i) (hl : s.heap.NoLimit) (r : Rm A n)
    (hbind : ∀ pm cd doc, bindArgs (docDef (nameOf (stAt i)) (prmOf (stAt i)) (bodOf (stAt i)) (scpOf (stAt i)) pm cd doc) ⟨args, []⟩ = pure binds)
    (hloc : ∀ x ∈ binds, (scpOf (stAt i)).names.lookup x.1 = some .local)
    (h : ∀ h₁ cd, Fr s.heap s.heap.objs.size h₁ (fun x => binds.reverse.lookup x) →
      wpAny (model prog w) (A.deeper (envOf (nameOf (stAt i)) (scpOf (stAt i)) s.heap.objs.size a cd)) (execs (bodOf (stAt i)) (envOf (nameOf (stAt i)) (scpOf (stAt i)) s.heap.objs.size a cd))
        (fun f s' => R (.ok (.ret (match f with | .ret v => v | _ => .none))) s') (fun _ _ => False) { s with heap := h₁, toks := s.toks + binds.length })
    (hco : (scpOf (stAt i)).isCoroutine = false := by rfl) (hgen : (scpOf (stAt i)).isGenerator = false := by rfl) (hk : (scpOf (stAt i)).kind = .function := by rfl)
    (hcell : ∀ x ∈ (scpOf (stAt i)).names, x.2 ≠ .cell := by decide) : codeAny (model prog w) A (.call (.ref a) ⟨args, []⟩) R s := by
  obtain ⟨o, pm, cd, doc, h1, h2, h3⟩ := X
  exact call_plain_ret r.room h1 h2 hl h3 (hbind pm cd doc) hloc (fun h₁ F => h h₁ cd F) hco hgen hk hcell

/-- the frame where the list at H is turned in place -/
theorem frH {g h : Heap} {L H : Addr} {m : Str → Option Value} {o : Obj} (F : Fr g L h m) (ho : g.get? H = some o) : Fr (g.hide H) L h m ∧ News (g.hide H) L h [(H, o)] := by
  refine ⟨⟨F.ns, fun b o' e => F.keep b o' (Heap.of_hide e), by rw [Heap.hide_size]; exact F.above⟩, fun p hp => ?_⟩
  rw [List.mem_singleton.mp hp]
  refine ⟨F.keep _ _ ho, Nat.ne_of_lt (Nat.lt_of_lt_of_le (Heap.lt_size ho) F.above), ?_⟩
  cases q : (g.hide H).get? H with
  | none => rfl
  | some o' => rw [Heap.hide_self] at q; cases q
theorem keep_hide {g h : Heap} {H : Addr} (k : ∀ b o, (g.hide H).get? b = some o → h.get? b = some o) : ∀ b o, b ≠ H → g.get? b = some o → h.get? b = some o :=
  fun b o hb e => k b o ((Heap.hide_ne g hb).trans e)
theorem hide_keep {g h : Heap} {H : Addr} (k : ∀ b o, b ≠ H → g.get? b = some o → h.get? b = some o) : ∀ b o, (g.hide H).get? b = some o → h.get? b = some o := fun b o e => by
  by_cases hb : b = H
  · subst hb; rw [Heap.hide_self] at e; cases e
  · exact k b o hb (Heap.of_hide e)
end
section
open PySem PySem.W PyProof.Rows PySem.Calls PySem.Builtin PySem.W.X
set_option maxRecDepth 100000
/-- the text's statements that the head looks at -/
noncomputable def keptTops : List Stmt := [0, 2, 3, 4, 5, 6, 8, 9, 11, 13, 14, 17, 18, 19, 20, 21, 22, 23].map stAt
noncomputable def viewP : Program := { PySem.Challenge.pw_in0046_01 with main := { PySem.Challenge.pw_in0046_01.main with body := keptTops } }
noncomputable def looseN : List Str := ["_twin_re_1", "_special_chars_map", "_initial_missing", "reduce"]
/-- where the names stand -/
noncomputable def namesB (mg : Str → Option Value) : Bool := mg "reduce" == some (.ref 99) && mg "_special_chars_map" == some (.ref 66) && mg "_initial_missing" == some (.ref 91) && mg "cmp_to_key" == some (.ref 90) && mg "_law_right" == some (.ref 133) && (mg "__name__").isSome
/-- the table of a function's code -/
noncomputable def tabOf (h : Heap) (a : Addr) : Option Value := (h.get? a).bind fun o => match o.data with
  | .func fd => (match fd.code with
    | .ref c => (h.get? c).bind fun oc => (match oc.data with | .fields vs => some (vs.getD 11 .none) | _ => none)
    | _ => none)
  | _ => none
noncomputable def codeNm (h : Heap) (a : Addr) : Option Value := (h.get? a).bind fun o => match o.data with | .fields vs => vs[1]? | _ => none
noncomputable def seqOf (h : Heap) (a : Addr) : Option (List Value) := (h.get? a).bind fun o => match o.data with | .seq vs _ => some vs.toList | _ => none
noncomputable def dictB (h : Heap) (a : Addr) : Bool := match h.get? a with | some o => (match o.data with | .dict _ _ => true | _ => false) | none => false
noncomputable def keyI : Value → Int | .int k _ => k | _ => 0
noncomputable def intsB (o : Obj) : Bool := o.cls == .type "dict" && o.dict.isNone && o.slots.toList.isEmpty && (match o.data with
  | .dict es _ => es.toList.all (fun e => (match e.key with | .int k _ => e.hash == hashInt k | _ => false)) && decide (es.toList.map fun e => keyI e.key).Nodup && es.toList.all (fun e => !([97, 98, 99] : List Int).contains (keyI e.key))
  | _ => false)
noncomputable def intsAt (h : Heap) (a : Addr) : Bool := match h.get? a with | some o => intsB o | none => false
noncomputable def obsH (s : Shared) : Option Obj × Option Value × Option (List Value) × Option Value × Option Value × Bool :=
  (s.heap.get? 99, codeNm s.heap 98, seqOf s.heap 92, tabOf s.heap 90, tabOf s.heap 133, s.heap.isNs cStatics && (s.heap.nsMap cStatics "thirdparty.any").isNone && dictB s.heap sysModules && intsAt s.heap 66)
noncomputable def valH : Option Obj × Option Value × Option (List Value) × Option Value × Option Value × Bool :=
  (some ⟨.type "function", none, .func { docDef (nameOf (stAt 15)) (prmOf (stAt 15)) (bodOf (stAt 15)) (scpOf (stAt 15)) (.str "cpy313.functools" 540) (.ref 98) .none with defaults := .ref 92 }, #[]⟩, some (.str (nameOf (stAt 15)) 553), some [.ref 91], some (.ref 85), some (.ref 130), true)

noncomputable abbrev obsOk (w : World) : Prop := (openEnds treeTable PySem.Challenge.pw_in0046_01 w 4000).map (fun s => (openSeen viewP looseN (importedModules PySem.Challenge.pw_in0046_01.main.body) (fun s => namesB (s.heap.nsMap mainGlobals) && recOk [] s) true s, obsH s)) = some (openGood viewP looseN, valH)
end
section
open PySem PySem.W PyProof.Rows PySem.Calls PySem.Builtin PySem.W.X
set_option maxRecDepth 100000
/-- the run of the top at w, both ways of the row -/
noncomputable abbrev runOk (w : World) : Prop := (fencedOpening treeTable PySem.Challenge.pw_in0046_01 w 4000).map (fun s₀ =>
    ((topFrom treeTable PySem.Challenge.pw_in0046_01 (w.withFollow "comprehension-iter-twice" false) 4000 s₀).map (fun s => (openSeen viewP looseN (importedModules PySem.Challenge.pw_in0046_01.main.body) (fun s => namesB (s.heap.nsMap mainGlobals) && recOk [] s) true s, obsH s)),
     (topFrom treeTable PySem.Challenge.pw_in0046_01 (w.withFollow "comprehension-iter-twice" true) 4000 s₀).map (fun s => (openSeen viewP looseN (importedModules PySem.Challenge.pw_in0046_01.main.body) (fun s => namesB (s.heap.nsMap mainGlobals) && recOk [] s) true s, obsH s)))) =
  some (some (openGood viewP looseN, valH), some (openGood viewP looseN, valH))
theorem leftE (w : World) : runOk (w.withFollow "special-get-raises" false) := by kernel_rfl
theorem leftF (w : World) : runOk (w.withFollow "special-get-raises" true) := by kernel_rfl
theorem leftG : LeftO PySem.Challenge.pw_in0046_01 viewP looseN (fun s => namesB (s.heap.nsMap mainGlobals) && recOk [] s) obsH (fun _ => valH) 4000 :=
  LeftO.of_split "comprehension-iter-twice" fun w => byRow2 "special-get-raises" (P := runOk) leftE leftF w
end
section
noncomputable abbrev Wd := List Nat
inductive Pt where
  | star | any | sg (c : Nat)
  deriving DecidableEq

/-- the words that a row of parts takes -/
inductive M : List Pt → Wd → Prop
  | nil : M [] []
  | sg {c r w} : M r w → M (.sg c :: r) (c :: w)
  | any {c r w} : M r w → M (.any :: r) (c :: w)
  | skip {r w} : M r w → M (.star :: r) w
  | eat {c r w} : M (.star :: r) w → M (.star :: r) (c :: w)

noncomputable def takes (p : Pt) (c : Nat) : Bool := match p with
  | .star => true
  | .any => true
  | .sg a => a == c

theorem M_nil {w : Wd} : M [] w ↔ w = [] := ⟨fun h => by cases h; rfl, fun h => h ▸ .nil⟩
theorem M_star_cons {r c w} : M (.star :: r) (c :: w) ↔ M r (c :: w) ∨ M (.star :: r) w :=
  ⟨fun h => by cases h with | skip h => exact .inl h | eat h => exact .inr h, fun h => h.elim .skip .eat⟩
theorem M_star_nil {r} : M (.star :: r) [] ↔ M r [] := ⟨fun h => by cases h with | skip h => exact h, .skip⟩
theorem M_plain_cons {p : Pt} {r c w} (hp : p ≠ .star) : M (p :: r) (c :: w) ↔ takes p c = true ∧ M r w := by
  constructor
  · intro h
    cases h with
    | sg h => exact ⟨by simp [takes], h⟩
    | any h => exact ⟨rfl, h⟩
    | skip => exact absurd rfl hp
    | eat => exact absurd rfl hp
  · rintro ⟨h, hm⟩
    cases p with
    | star => exact absurd rfl hp
    | any => exact .any hm
    | sg a => simp [takes] at h; subst h; exact .sg hm
theorem M_plain_nil {p : Pt} {r} (hp : p ≠ .star) : ¬ M (p :: r) [] := by
  intro h; cases h; exact hp rfl

/-- a set of places in a row takes a word -/
noncomputable def Acc (row : List Pt) (ks : List Nat) (v : Wd) : Prop := ∃ k ∈ ks, k ≤ row.length ∧ M (row.drop k) v

noncomputable def closeStep (row : List Pt) (ks out : List Nat) (k : Nat) : List Nat :=
  if k ∈ ks ∨ (0 < k ∧ row[k-1]? = some .star ∧ (k - 1) ∈ out) then out ++ [k] else out
noncomputable def closeF (row : List Pt) (ks : List Nat) : List Nat := (List.range (row.length + 1)).foldl (closeStep row ks) []
noncomputable def onF (row : List Pt) (ks : List Nat) (c : Nat) : List Nat :=
  (ks.filter fun k => match row[k]? with | some p => takes p c | none => false).map fun k => if row[k]? = some .star then k else k + 1
noncomputable def stepF (row : List Pt) (ks : List Nat) (c : Nat) : List Nat := closeF row (onF row ks c)

/-- the places at n's turn -/
noncomputable def closeN (row : List Pt) (ks : List Nat) (n : Nat) : List Nat := (List.range n).foldl (closeStep row ks) []
theorem closeN_succ (row ks n) : closeN row ks (n + 1) = closeStep row ks (closeN row ks n) n := by
  unfold closeN; rw [List.range_succ, List.foldl_append]; rfl
theorem closeN_lt {row ks n k} (h : k ∈ closeN row ks n) : k < n := by
  induction n with
  | zero => simp [closeN] at h
  | succ n ih =>
    rw [closeN_succ] at h
    unfold closeStep at h
    split at h
    · rcases List.mem_append.mp h with h | h
      · exact Nat.lt_succ_of_lt (ih h)
      · simp at h; lia
    · exact Nat.lt_succ_of_lt (ih h)
theorem closeN_mono {row ks n k} (h : k ∈ closeN row ks n) : k ∈ closeN row ks (n + 1) := by
  rw [closeN_succ]; unfold closeStep; split
  · exact List.mem_append_left _ h
  · exact h
theorem closeN_mem {row ks n k} (hk : k < n) : k ∈ closeN row ks n ↔ (k ∈ ks ∨ (0 < k ∧ row[k-1]? = some .star ∧ (k - 1) ∈ closeN row ks n)) := by
  induction n with
  | zero => lia
  | succ n ih =>
    by_cases hkn : k < n
    · have e1 : k ∈ closeN row ks (n + 1) ↔ k ∈ closeN row ks n := by
        rw [closeN_succ]; unfold closeStep; split
        · simp only [List.mem_append, List.mem_singleton]; constructor
          · rintro (h | h)
            · exact h
            · lia
          · exact .inl
        · exact Iff.rfl
      have e2 : (k - 1) ∈ closeN row ks (n + 1) ↔ (k - 1) ∈ closeN row ks n := by
        rw [closeN_succ]; unfold closeStep; split
        · simp only [List.mem_append, List.mem_singleton]; constructor
          · rintro (h | h)
            · exact h
            · lia
          · exact .inl
        · exact Iff.rfl
      rw [e1, e2]; exact ih hkn
    · have : k = n := by lia
      subst this
      have e2 : 0 < k → ((k - 1) ∈ closeN row ks (k + 1) ↔ (k - 1) ∈ closeN row ks k) := by
        intro h0
        rw [closeN_succ]; unfold closeStep; split
        · simp only [List.mem_append, List.mem_singleton]; constructor
          · rintro (h | h)
            · exact h
            · lia
          · exact .inl
        · exact Iff.rfl
      constructor
      · intro h
        rw [closeN_succ] at h
        unfold closeStep at h
        split at h
        · rename_i c
          rcases c with c | ⟨c0, c1, c2⟩
          · exact .inl c
          · exact .inr ⟨c0, c1, (e2 c0).mpr c2⟩
        · exact absurd (closeN_lt h) (Nat.lt_irrefl _)
      · intro h
        rw [closeN_succ]; unfold closeStep
        rw [if_pos]
        · simp
        · rcases h with c | ⟨c0, c1, c2⟩
          · exact .inl c
          · exact .inr ⟨c0, c1, (e2 c0).mp c2⟩
theorem closeF_eq (row ks) : closeF row ks = closeN row ks (row.length + 1) := rfl
theorem closeF_le {row ks k} (h : k ∈ closeF row ks) : k ≤ row.length := Nat.le_of_lt_succ (closeN_lt h)
theorem closeF_sub {row ks k} (hk : k ≤ row.length) (h : k ∈ ks) : k ∈ closeF row ks := (closeN_mem (Nat.lt_succ_of_le hk)).mpr (.inl h)
theorem closeF_closed {row ks k} (h : k ∈ closeF row ks) (hs : row[k]? = some .star) : k + 1 ∈ closeF row ks := by
  have hl : k < row.length := by
    have := List.getElem?_eq_some_iff.mp hs; exact this.1
  exact (closeN_mem (by lia)).mpr (.inr ⟨Nat.succ_pos _, by simpa using hs, by simpa [closeF_eq] using h⟩)
theorem closeF_nodup (row ks) : (closeF row ks).Nodup ∧ (closeF row ks).Sublist (List.range (row.length + 1)) := by
  have : ∀ n, (closeN row ks n).Sublist (List.range n) := by
    intro n
    induction n with
    | zero => simp [closeN]
    | succ n ih =>
      rw [closeN_succ, List.range_succ]; unfold closeStep; split
      · exact List.Sublist.append ih (List.Sublist.refl _)
      · exact ih.trans (List.sublist_append_left _ _)
  exact ⟨(this _).nodup List.nodup_range, this _⟩

theorem drop_cons {row : List Pt} {k : Nat} {p : Pt} (h : row[k]? = some p) : row.drop k = p :: row.drop (k + 1) := by
  obtain ⟨hl, e⟩ := List.getElem?_eq_some_iff.mp h
  rw [List.drop_eq_getElem_cons hl, e]
theorem drop_end {row : List Pt} {k : Nat} (h : row[k]? = none) : row.drop k = [] := by
  rw [List.drop_eq_nil_iff]; exact List.getElem?_eq_none_iff.mp h

theorem acc_close {row ks v} (_hks : ∀ k ∈ ks, k ≤ row.length) : Acc row (closeF row ks) v ↔ Acc row ks v := by
  constructor
  · rintro ⟨k, hk, hl, hm⟩
    have : ∀ n k, k ≤ n → k ∈ closeF row ks → M (row.drop k) v → Acc row ks v := by
      intro n
      induction n with
      | zero =>
        intro k h0 hk hm
        rcases (closeN_mem (closeN_lt hk)).mp hk with c | ⟨c, _⟩
        · exact ⟨k, c, closeF_le hk, hm⟩
        · lia
      | succ n ih =>
        intro k h0 hk hm
        rcases (closeN_mem (closeN_lt hk)).mp hk with c | ⟨c0, c1, c2⟩
        · exact ⟨k, c, closeF_le hk, hm⟩
        · refine ih (k - 1) (by lia) c2 ?_
          rw [drop_cons c1, show k - 1 + 1 = k by lia]
          exact .skip hm
    exact this k k (Nat.le_refl _) hk hm
  · rintro ⟨k, hk, hl, hm⟩
    exact ⟨k, closeF_sub hl hk, hl, hm⟩

noncomputable def Closed (row : List Pt) (ks : List Nat) : Prop := (∀ k ∈ ks, k ≤ row.length) ∧ ∀ k ∈ ks, row[k]? = some .star → k + 1 ∈ ks
theorem closeF_ok (row ks) : Closed row (closeF row ks) := ⟨fun _ h => closeF_le h, fun _ h hs => closeF_closed h hs⟩

theorem acc_nil {row ks} (C : Closed row ks) : Acc row ks [] ↔ row.length ∈ ks := by
  constructor
  · rintro ⟨k, hk, hl, hm⟩
    have : ∀ n k, row.length - k = n → k ∈ ks → M (row.drop k) [] → row.length ∈ ks := by
      intro n
      induction n with
      | zero =>
        intro k e hk _
        have := C.1 k hk
        have e : k = row.length := by lia
        exact e ▸ hk
      | succ n ih =>
        intro k e hk hm
        have hl : k < row.length := by lia
        have hg : row[k]? = some row[k] := List.getElem?_eq_getElem hl
        rw [drop_cons hg] at hm
        by_cases hs : row[k] = .star
        · rw [hs] at hm hg
          exact ih (k + 1) (by lia) (C.2 k hk hg) (M_star_nil.mp hm)
        · exact absurd hm (M_plain_nil hs)
    exact this _ k rfl hk hm
  · intro h
    exact ⟨_, h, Nat.le_refl _, by rw [List.drop_length]; exact .nil⟩

theorem acc_step {row ks c v} (C : Closed row ks) : Acc row (stepF row ks c) v ↔ Acc row ks (c :: v) := by
  unfold stepF
  have hon : ∀ k ∈ onF row ks c, k ≤ row.length := by
    intro k hk
    unfold onF at hk
    obtain ⟨j, hj, rfl⟩ := List.mem_map.mp hk
    have hj' := (List.mem_filter.mp hj).2
    cases hg : row[j]? with
    | none => rw [hg] at hj'; simp at hj'
    | some p =>
      have := (List.getElem?_eq_some_iff.mp hg).1
      split <;> lia
  rw [acc_close hon]
  constructor
  · rintro ⟨k, hk, hl, hm⟩
    unfold onF at hk
    obtain ⟨j, hj, rfl⟩ := List.mem_map.mp hk
    obtain ⟨hj1, hj2⟩ := List.mem_filter.mp hj
    cases hg : row[j]? with
    | none => rw [hg] at hj2; simp at hj2
    | some p =>
      rw [hg] at hj2 hm
      simp only [Option.some.injEq] at hm
      refine ⟨j, hj1, C.1 j hj1, ?_⟩
      by_cases hs : p = .star
      · subst hs
        simp only [if_true] at hm
        rw [drop_cons hg] at hm ⊢
        exact .eat hm
      · rw [if_neg hs] at hm
        rw [drop_cons hg]
        exact (M_plain_cons hs).mpr ⟨hj2, hm⟩
  · rintro ⟨k, hk, hl, hm⟩
    -- go on along stars to the place that takes c
    have : ∀ n k, row.length - k = n → k ∈ ks → M (row.drop k) (c :: v) → Acc row (onF row ks c) v := by
      intro n
      induction n with
      | zero =>
        intro k e hk hm
        have := C.1 k hk
        have e : k = row.length := by lia
        subst e
        rw [List.drop_length] at hm
        cases hm
      | succ n ih =>
        intro k e hk hm
        have hl : k < row.length := by lia
        have hg : row[k]? = some row[k] := List.getElem?_eq_getElem hl
        have hm' := hm
        rw [drop_cons hg] at hm
        have put : takes row[k] c = true → (if row[k]? = some .star then k else k + 1) ∈ onF row ks c := by
          intro ht
          unfold onF
          refine List.mem_map.mpr ⟨k, List.mem_filter.mpr ⟨hk, ?_⟩, rfl⟩
          rw [hg]; exact ht
        by_cases hs : row[k] = .star
        · rw [hs] at hm hg
          rcases M_star_cons.mp hm with h | h
          · exact ih (k + 1) (by lia) (C.2 k hk hg) h
          · have := put (by rw [hs]; rfl)
            rw [if_pos hg] at this
            exact ⟨k, this, by lia, by rw [drop_cons hg]; exact h⟩
        · obtain ⟨ht, h⟩ := (M_plain_cons hs).mp hm
          have := put ht
          rw [if_neg (by rw [hg]; simpa using hs)] at this
          exact ⟨k + 1, this, by lia, h⟩
    exact this _ k rfl hk hm

theorem acc_start {row v} : Acc row (closeF row [0]) v ↔ M row v := by
  rw [acc_close (by simp)]
  constructor
  · rintro ⟨k, hk, _, hm⟩; simp at hk; subst hk; simpa using hm
  · intro h; exact ⟨0, by simp, Nat.zero_le _, by simpa using h⟩
end
section
noncomputable def abc : List Nat := [97, 98, 99]
noncomputable def cost (pr : Nat → Nat) (w : Wd) : Nat := (w.map pr).sum
@[simp] theorem cost_nil (pr) : cost pr [] = 0 := rfl
@[simp] theorem cost_cons (pr c w) : cost pr (c :: w) = pr c + cost pr w := by simp [cost]
noncomputable def Over (w : Wd) : Prop := ∀ c ∈ w, c ∈ abc

noncomputable def minL (l : List Nat) : Nat := l.foldl min 1000
theorem foldl_min_le_init (l : List Nat) (a : Nat) : l.foldl min a ≤ a := by
  induction l generalizing a with
  | nil => exact Nat.le_refl _
  | cons x l ih => exact Nat.le_trans (ih _) (Nat.min_le_left _ _)
theorem foldl_min_le (l : List Nat) (a x : Nat) (h : x ∈ l) : l.foldl min a ≤ x := by
  induction l generalizing a with
  | nil => cases h
  | cons y l ih =>
    rcases List.mem_cons.mp h with rfl | h
    · exact Nat.le_trans (foldl_min_le_init l _) (Nat.min_le_right _ _)
    · exact ih _ h
theorem foldl_min_mem (l : List Nat) (a : Nat) : l.foldl min a = a ∨ l.foldl min a ∈ l := by
  induction l generalizing a with
  | nil => exact .inl rfl
  | cons y l ih =>
    rcases ih (min a y) with h | h
    · simp only [List.foldl_cons]
      rw [h]
      by_cases q : a ≤ y
      · exact .inl (Nat.min_eq_left q)
      · right; rw [Nat.min_eq_right (by lia)]; exact List.mem_cons_self
    · right; exact List.mem_cons_of_mem _ h
theorem minL_le {l x} (h : x ∈ l) : minL l ≤ x := foldl_min_le l _ _ h
theorem minL_le_top (l) : minL l ≤ 1000 := foldl_min_le_init l _
theorem minL_mem (l) : minL l = 1000 ∨ minL l ∈ l := foldl_min_mem l _

/-- the cheapest sign that a part takes -/
noncomputable def cheap (pr : Nat → Nat) (q : Pt) : Nat := match q with
  | .sg c => pr c
  | _ => min (min (pr 97) (pr 98)) (pr 99)
noncomputable def bothS (pr : Nat → Nat) (p q : Pt) : List Nat := (abc.filter fun s => takes p s && takes q s).map pr
noncomputable def minB : List Nat → Nat
  | [] => 0
  | x :: l => l.foldl min x
noncomputable def starWays (pr : Nat → Nat) (rec : List Pt → List Pt → Nat) (first other : List Pt) : List Nat := match first with
  | .star :: r => rec r other :: (match other with
    | [] => []
    | q :: o => if q = .star then [] else [cheap pr q + rec first o])
  | _ => []
noncomputable def bothWays (pr : Nat → Nat) (rec : List Pt → List Pt → Nat) (one two : List Pt) : List Nat := match one, two with
  | p :: r, q :: o => if p = .star ∨ q = .star then [] else if bothS pr p q = [] then [] else [minB (bothS pr p q) + rec r o]
  | _, _ => []
noncomputable def leastN (pr : Nat → Nat) : Nat → List Pt → List Pt → Nat
  | 0, _, _ => 0
  | n + 1, one, two => if one = [] ∧ two = [] then 0 else
      minL (starWays pr (leastN pr n) one two ++ starWays pr (leastN pr n) two one ++ bothWays pr (leastN pr n) one two)

theorem leastN_le_top (pr n one two) : leastN pr n one two ≤ 1000 := by
  cases n with
  | zero => exact Nat.zero_le _
  | succ n => unfold leastN; split; exact Nat.zero_le _; exact minL_le_top _

theorem cheap_le {pr : Nat → Nat} {q c} (hq : q ≠ .star) (ht : takes q c = true) (hc : c ∈ abc) : cheap pr q ≤ pr c := by
  cases q with
  | star => exact absurd rfl hq
  | sg a => simp [takes] at ht; subst ht; exact Nat.le_refl _
  | any =>
    simp only [abc, List.mem_cons, List.mem_nil_iff, or_false] at hc
    unfold cheap
    rcases hc with rfl | rfl | rfl <;> simp only [] <;> lia
theorem minB_le {l x} (h : x ∈ l) : minB l ≤ x := by
  cases l with
  | nil => cases h
  | cons y l =>
    rcases List.mem_cons.mp h with rfl | h
    · exact foldl_min_le_init l _
    · exact foldl_min_le l _ _ h
theorem minB_mem {l} (h : l ≠ []) : minB l ∈ l := by
  cases l with
  | nil => exact absurd rfl h
  | cons y l =>
    rcases foldl_min_mem l y with q | q
    · show l.foldl min y ∈ y :: l
      rw [q]; exact List.mem_cons_self
    · exact List.mem_cons_of_mem _ q

/-- no common word is cheaper; and where there is one, the least is small -/
theorem least_le {pr : Nat → Nat} (h3 : ∀ c ∈ abc, pr c ≤ 3) : ∀ (n : Nat) (one two : List Pt), one.length + two.length ≤ n → ∀ w, Over w → M one w → M two w →
    leastN pr n one two ≤ cost pr w ∧ leastN pr n one two ≤ 3 * (one.length + two.length) := by
  intro n
  induction n with
  | zero => intro one two _ w _ _ _; exact ⟨Nat.zero_le _, Nat.zero_le _⟩
  | succ n ih =>
    intro one two hn w
    induction w with
    | nil =>
      intro ho h1 h2
      unfold leastN
      split
      · exact ⟨Nat.zero_le _, Nat.zero_le _⟩
      · rename_i hne
        cases h1 with
        | nil =>
          cases h2 with
          | nil => exact absurd ⟨rfl, rfl⟩ hne
          | @skip o _ h2 =>
            have z := ih o [] (by simp at hn ⊢; lia) [] ho h2 .nil
            have y := minL_le (l := starWays pr (leastN pr n) [] (.star :: o) ++ starWays pr (leastN pr n) (.star :: o) [] ++ bothWays pr (leastN pr n) [] (.star :: o)) (x := leastN pr n o []) (by simp [starWays])
            simp only [List.length_cons, List.length_nil] at z ⊢
            lia
        | @skip r _ h1 =>
          have z := ih r two (by simp at hn ⊢; lia) [] ho h1 h2
          have y := minL_le (l := starWays pr (leastN pr n) (.star :: r) two ++ starWays pr (leastN pr n) two (.star :: r) ++ bothWays pr (leastN pr n) (.star :: r) two) (x := leastN pr n r two) (by simp [starWays])
          simp only [List.length_cons] at z ⊢
          lia
    | cons c w ihw =>
      intro ho h1 h2
      have hc : c ∈ abc := ho c List.mem_cons_self
      have how : Over w := fun x hx => ho x (List.mem_cons_of_mem _ hx)
      have hpc := h3 c hc
      unfold leastN
      split
      · exact ⟨Nat.zero_le _, Nat.zero_le _⟩
      · rename_i hne
        cases one with
        | nil => cases h1
        | cons p r =>
          cases two with
          | nil => cases h2
          | cons q o =>
            have mem : ∀ x, x ∈ starWays pr (leastN pr n) (p :: r) (q :: o) ++ starWays pr (leastN pr n) (q :: o) (p :: r) ++ bothWays pr (leastN pr n) (p :: r) (q :: o) →
              minL (starWays pr (leastN pr n) (p :: r) (q :: o) ++ starWays pr (leastN pr n) (q :: o) (p :: r) ++ bothWays pr (leastN pr n) (p :: r) (q :: o)) ≤ x := fun x hx => minL_le hx
            generalize minL (starWays pr (leastN pr n) (p :: r) (q :: o) ++ starWays pr (leastN pr n) (q :: o) (p :: r) ++ bothWays pr (leastN pr n) (p :: r) (q :: o)) = m at mem ⊢
            simp only [List.length_cons] at hn
            simp only [List.length_cons, cost_cons]
            by_cases hp : p = .star
            · subst hp
              rcases M_star_cons.mp h1 with k1 | k1
              · have z := ih r (q :: o) (by simp; lia) (c :: w) ho k1 h2
                have y := mem (leastN pr n r (q :: o)) (by simp [starWays])
                simp only [List.length_cons, cost_cons] at z
                lia
              · by_cases hq : q = .star
                · subst hq
                  rcases M_star_cons.mp h2 with k2 | k2
                  · have z := ih o (.star :: r) (by simp; lia) (c :: w) ho k2 h1
                    have y := mem (leastN pr n o (.star :: r)) (by simp [starWays])
                    simp only [List.length_cons, cost_cons] at z
                    lia
                  · have z := ihw how k1 k2
                    unfold leastN at z
                    rw [if_neg hne] at z
                    have y : m ≤ minL (starWays pr (leastN pr n) (.star :: r) (.star :: o) ++ starWays pr (leastN pr n) (.star :: o) (.star :: r) ++ bothWays pr (leastN pr n) (.star :: r) (.star :: o)) := by
                      rcases minL_mem (starWays pr (leastN pr n) (.star :: r) (.star :: o) ++ starWays pr (leastN pr n) (.star :: o) (.star :: r) ++ bothWays pr (leastN pr n) (.star :: r) (.star :: o)) with e | e
                      · rw [e]
                        exact Nat.le_trans (mem (leastN pr n r (.star :: o)) (by simp [starWays])) (leastN_le_top _ _ _ _)
                      · exact mem _ e
                    simp only [List.length_cons] at z
                    lia
                · obtain ⟨t2, k2⟩ := (M_plain_cons hq).mp h2
                  have z := ih (.star :: r) o (by simp; lia) w how k1 k2
                  have y := mem (cheap pr q + leastN pr n (.star :: r) o) (by simp [starWays, hq])
                  have x := cheap_le (pr := pr) hq t2 hc
                  simp only [List.length_cons] at z
                  lia
            · obtain ⟨t1, k1⟩ := (M_plain_cons hp).mp h1
              by_cases hq : q = .star
              · subst hq
                rcases M_star_cons.mp h2 with k2 | k2
                · have z := ih o (p :: r) (by simp; lia) (c :: w) ho k2 h1
                  have y := mem (leastN pr n o (p :: r)) (by simp [starWays])
                  simp only [List.length_cons, cost_cons] at z
                  lia
                · have z := ih (.star :: o) r (by simp; lia) w how k2 k1
                  have y := mem (cheap pr p + leastN pr n (.star :: o) r) (by simp [starWays, hp])
                  have x := cheap_le (pr := pr) hp t1 hc
                  simp only [List.length_cons] at z
                  lia
              · obtain ⟨t2, k2⟩ := (M_plain_cons hq).mp h2
                have z := ih r o (by lia) w how k1 k2
                have hb : pr c ∈ bothS pr p q := List.mem_map.mpr ⟨c, List.mem_filter.mpr ⟨hc, by simp [t1, t2]⟩, rfl⟩
                have hbn : bothS pr p q ≠ [] := List.ne_nil_of_mem hb
                have y := mem (minB (bothS pr p q) + leastN pr n r o) (by simp [bothWays, hp, hq, hbn])
                have x := minB_le hb
                lia

theorem cheap_takes {pr : Nat → Nat} {q : Pt} (hq : q ≠ .star) (hs : ∀ a, q = .sg a → a ∈ abc) : ∃ c ∈ abc, takes q c = true ∧ cheap pr q = pr c := by
  cases q with
  | star => exact absurd rfl hq
  | sg a => exact ⟨a, hs a rfl, by simp [takes], rfl⟩
  | any =>
    have e1 : min (pr 97) (pr 98) = pr 97 ∨ min (pr 97) (pr 98) = pr 98 := by lia
    have e2 : min (min (pr 97) (pr 98)) (pr 99) = min (pr 97) (pr 98) ∨ min (min (pr 97) (pr 98)) (pr 99) = pr 99 := by lia
    rcases e2 with e2 | e2
    · rcases e1 with e1 | e1
      · exact ⟨97, by decide, rfl, e2.trans e1⟩
      · exact ⟨98, by decide, rfl, e2.trans e1⟩
    · exact ⟨99, by decide, rfl, e2⟩

noncomputable def Fine (one : List Pt) : Prop := ∀ a, .sg a ∈ one → a ∈ abc
theorem Fine.tail {p r} (h : Fine (p :: r)) : Fine r := fun a ha => h a (List.mem_cons_of_mem _ ha)
theorem Fine.head {p r} (h : Fine (p :: r)) : ∀ a, p = .sg a → a ∈ abc := fun a e => h a (by rw [e]; exact List.mem_cons_self)

/-- the least is a word's cost, or 1000 -/
theorem least_word {pr : Nat → Nat} : ∀ (n : Nat) (one two : List Pt), one.length + two.length ≤ n → Fine one → Fine two →
    leastN pr n one two = 1000 ∨ ∃ w, Over w ∧ M one w ∧ M two w ∧ cost pr w = leastN pr n one two := by
  intro n
  induction n with
  | zero =>
    intro one two hn _ _
    have h1 : one = [] := List.eq_nil_of_length_eq_zero (by lia)
    have h2 : two = [] := List.eq_nil_of_length_eq_zero (by lia)
    subst h1 h2
    exact .inr ⟨[], (by intro c hc; cases hc), .nil, .nil, rfl⟩
  | succ n ih =>
    intro one two hn f1 f2
    unfold leastN
    split
    · rename_i h
      obtain ⟨rfl, rfl⟩ := h
      exact .inr ⟨[], (by intro c hc; cases hc), .nil, .nil, rfl⟩
    · rename_i hne
      have star : ∀ first other : List Pt, first.length + other.length ≤ n + 1 → Fine first → Fine other → ∀ x, x ∈ starWays pr (leastN pr n) first other → x ≤ 1000 → x = 1000 ∨ ∃ w, Over w ∧ M first w ∧ M other w ∧ cost pr w = x := by
        intro first other hl g1 g2 x hx hx1
        cases first with
        | nil => cases hx
        | cons p r =>
        by_cases hp : p = .star
        · subst hp
          simp only [List.length_cons] at hl
          rcases List.mem_cons.mp hx with rfl | hx
          · rcases ih r other (by lia) g1.tail g2 with h | ⟨w, hw, m1, m2, e⟩
            · exact .inl h
            · exact .inr ⟨w, hw, .skip m1, m2, e⟩
          · cases other with
            | nil => cases hx
            | cons q o =>
              simp only [] at hx
              split at hx
              · cases hx
              · rename_i hq
                simp only [List.mem_singleton] at hx
                subst hx
                simp only [List.length_cons] at hl
                rcases ih (.star :: r) o (by simp; lia) g1 g2.tail with h | ⟨w, hw, m1, m2, e⟩
                · left; lia
                · obtain ⟨c, hc, ht, ec⟩ := cheap_takes (pr := pr) hq g2.head
                  refine .inr ⟨c :: w, ?_, .eat m1, (M_plain_cons hq).mpr ⟨ht, m2⟩, by rw [cost_cons, e, ec]⟩
                  intro y hy
                  rcases List.mem_cons.mp hy with rfl | hy
                  · exact hc
                  · exact hw y hy
        · cases p with
          | star => exact absurd rfl hp
          | any => cases hx
          | sg a => cases hx
      have top := minL_le_top (starWays pr (leastN pr n) one two ++ starWays pr (leastN pr n) two one ++ bothWays pr (leastN pr n) one two)
      rcases minL_mem (starWays pr (leastN pr n) one two ++ starWays pr (leastN pr n) two one ++ bothWays pr (leastN pr n) one two) with e | e
      · exact .inl e
      · generalize minL (starWays pr (leastN pr n) one two ++ starWays pr (leastN pr n) two one ++ bothWays pr (leastN pr n) one two) = x at e top ⊢
        rcases List.mem_append.mp e with e | e
        · rcases List.mem_append.mp e with e | e
          · exact star one two hn f1 f2 x e top
          · rcases star two one (by lia) f2 f1 x e top with h | ⟨w, a, b, c, d⟩
            · exact .inl h
            · exact .inr ⟨w, a, c, b, d⟩
        · unfold bothWays at e
          cases one with
          | nil => cases e
          | cons p r =>
          cases two with
          | nil => cases e
          | cons q o =>
            simp only [] at e
            split at e
            · cases e
            · rename_i hpq
              split at e
              · cases e
              · rename_i hb
                simp only [List.mem_singleton] at e
                subst e
                simp only [List.length_cons] at hn
                rcases ih r o (by lia) f1.tail f2.tail with h | ⟨w, hw, m1, m2, ew⟩
                · left; lia
                · obtain ⟨c, hc, ec⟩ := List.mem_map.mp (minB_mem hb)
                  obtain ⟨hc1, hc2⟩ := List.mem_filter.mp hc
                  simp only [Bool.and_eq_true] at hc2
                  refine .inr ⟨c :: w, ?_, (M_plain_cons fun q => hpq (.inl q)).mpr ⟨hc2.1, m1⟩, (M_plain_cons fun q => hpq (.inr q)).mpr ⟨hc2.2, m2⟩, by rw [cost_cons, ew, ec]; rfl⟩
                  intro y hy
                  rcases List.mem_cons.mp hy with rfl | hy
                  · exact hc1
                  · exact hw y hy
end
section
/-- one candidate: its price, its name, the places of the rows -/
structure It where
  price : Nat
  name : Wd
  on : List (List Nat)
  deriving DecidableEq

/-- the order of names as texts: the first sign that parts them decides, a shorter one goes first -/
noncomputable def wlt : Wd → Wd → Bool
  | [], [] => false
  | [], _ :: _ => true
  | _ :: _, [] => false
  | a :: x, b :: y => if a = b then wlt x y else decide (a < b)
noncomputable def ilt (a b : It) : Bool :=
  if a.price = b.price then (if a.name.length = b.name.length then wlt a.name b.name else decide (a.name.length < b.name.length)) else decide (a.price < b.price)

theorem wlt_irrefl : ∀ x, wlt x x = false
  | [] => rfl
  | a :: x => by simp [wlt, wlt_irrefl x]
theorem wlt_trans : ∀ {x y z}, wlt x y = true → wlt y z = true → wlt x z = true
  | [], _, [], h1, h2 => by
    rename_i y; cases y <;> simp [wlt] at h1 h2
  | [], _, _ :: _, _, _ => rfl
  | _ :: _, [], _, h1, _ => by simp [wlt] at h1
  | a :: x, b :: y, [], _, h2 => by simp [wlt] at h2
  | a :: x, b :: y, c :: z, h1, h2 => by
    unfold wlt at h1 h2 ⊢
    by_cases e1 : a = b
    · subst e1
      rw [if_pos rfl] at h1
      by_cases e2 : a = c
      · subst e2; rw [if_pos rfl] at h2 ⊢; exact wlt_trans h1 h2
      · rw [if_neg e2] at h2 ⊢; exact h2
    · rw [if_neg e1] at h1
      have h1' := of_decide_eq_true h1
      by_cases e2 : b = c
      · subst e2; rw [if_neg e1]; exact h1
      · rw [if_neg e2] at h2
        have h2' := of_decide_eq_true h2
        rw [if_neg (by lia)]; exact decide_eq_true (by lia)
theorem wlt_total : ∀ {x y}, wlt x y = false → wlt y x = false → x = y
  | [], [], _, _ => rfl
  | [], _ :: _, h, _ => by simp [wlt] at h
  | _ :: _, [], _, h => by simp [wlt] at h
  | a :: x, b :: y, h1, h2 => by
    unfold wlt at h1 h2
    by_cases e : a = b
    · subst e
      rw [if_pos rfl] at h1 h2
      rw [wlt_total h1 h2]
    · rw [if_neg e] at h1
      rw [if_neg (Ne.symm e)] at h2
      have h1' := of_decide_eq_false h1
      have h2' := of_decide_eq_false h2
      lia
/-- «not above»: what a heap asks of parent and child -/
noncomputable def ile (a b : It) : Prop := ilt b a = false
theorem ilt_price {a b : It} (h : ilt b a = false) : a.price ≤ b.price := by
  unfold ilt at h
  split at h
  · lia
  · have := of_decide_eq_false h; lia
theorem wlt_asymm {x y} (h : wlt x y = true) : wlt y x = false := by
  cases q : wlt y x with
  | false => rfl
  | true => have := wlt_trans h q; rw [wlt_irrefl] at this; cases this
theorem ile_refl (a : It) : ile a a := by unfold ile ilt; simp [wlt_irrefl]
theorem ile_of_lt {a b : It} (h : ilt a b = true) : ile a b := by
  unfold ile
  unfold ilt at h ⊢
  by_cases e : a.price = b.price
  · rw [if_pos e] at h; rw [if_pos e.symm]
    by_cases e2 : a.name.length = b.name.length
    · rw [if_pos e2] at h; rw [if_pos e2.symm]; exact wlt_asymm h
    · rw [if_neg e2] at h; rw [if_neg (Ne.symm e2)]
      have := of_decide_eq_true h; exact decide_eq_false (by lia)
  · rw [if_neg e] at h; rw [if_neg (Ne.symm e)]
    have := of_decide_eq_true h; exact decide_eq_false (by lia)
theorem ile_trans {a b c : It} (h1 : ile a b) (h2 : ile b c) : ile a c := by
  unfold ile at h1 h2 ⊢
  unfold ilt at h1 h2 ⊢
  by_cases e1 : b.price = a.price
  · rw [if_pos e1] at h1
    by_cases e2 : c.price = b.price
    · rw [if_pos e2] at h2
      rw [if_pos (by lia)]
      by_cases l1 : b.name.length = a.name.length
      · rw [if_pos l1] at h1
        by_cases l2 : c.name.length = b.name.length
        · rw [if_pos l2] at h2
          rw [if_pos (by lia)]
          cases q : wlt c.name a.name with
          | false => rfl
          | true =>
            -- c < a, not b < a, not c < b
            by_cases qq : c.name = b.name
            · rw [qq] at q; rw [q] at h1; cases h1
            · cases r : wlt b.name c.name with
              | true => have := wlt_trans r q; rw [this] at h1; cases h1
              | false => exact absurd (wlt_total h2 r) qq
        · rw [if_neg l2] at h2
          have := of_decide_eq_false h2
          rw [if_neg (by lia)]; exact decide_eq_false (by lia)
      · rw [if_neg l1] at h1
        have h1' := of_decide_eq_false h1
        by_cases l2 : c.name.length = b.name.length
        · rw [if_neg (by lia)]; exact decide_eq_false (by lia)
        · rw [if_neg l2] at h2
          have := of_decide_eq_false h2
          rw [if_neg (by lia)]; exact decide_eq_false (by lia)
    · rw [if_neg e2] at h2
      have := of_decide_eq_false h2
      rw [if_neg (by lia)]; exact decide_eq_false (by lia)
  · rw [if_neg e1] at h1
    have h1' := of_decide_eq_false h1
    by_cases e2 : c.price = b.price
    · rw [if_neg (by lia)]; exact decide_eq_false (by lia)
    · rw [if_neg e2] at h2
      have := of_decide_eq_false h2
      rw [if_neg (by lia)]; exact decide_eq_false (by lia)

/-! The search. A heap is any bag of candidates of which the first goes ahead of all; `pop` and `push` are told by what they keep. -/
noncomputable def startOn (rows : List (List Pt)) : List (List Nat) := rows.map fun r => closeF r [0]
noncomputable def nextOn (rows : List (List Pt)) (on : List (List Nat)) (c : Nat) : List (List Nat) := (rows.zip on).map fun p => stepF p.1 p.2 c
noncomputable def endsAll (rows : List (List Pt)) (on : List (List Nat)) : Bool := (rows.zip on).all fun p => decide (p.1.length ∈ p.2)
noncomputable def AccAll (rows : List (List Pt)) (on : List (List Nat)) (v : Wd) : Prop := ∀ p ∈ rows.zip on, Acc p.1 p.2 v
noncomputable def ClosedAll (rows : List (List Pt)) (on : List (List Nat)) : Prop := on.length = rows.length ∧ ∀ p ∈ rows.zip on, Closed p.1 p.2

theorem zip_map_self {α β} (f : α → β) : ∀ (l : List α), l.zip (l.map f) = l.map fun a => (a, f a)
  | [] => rfl
  | a :: l => by simp [zip_map_self f l]
theorem zip_nextOn (rows : List (List Pt)) (on : List (List Nat)) (c : Nat) (h : on.length = rows.length) : rows.zip (nextOn rows on c) = (rows.zip on).map fun p => (p.1, stepF p.1 p.2 c) := by
  unfold nextOn
  induction rows generalizing on with
  | nil => simp
  | cons r rows ih =>
    cases on with
    | nil => simp at h
    | cons k on => simp only [List.zip_cons_cons, List.map_cons]; rw [ih on (by simpa using h)]
theorem closed_start (rows) : ClosedAll rows (startOn rows) := by
  refine ⟨by simp [startOn], fun p hp => ?_⟩
  unfold startOn at hp
  rw [zip_map_self] at hp
  obtain ⟨r, _, rfl⟩ := List.mem_map.mp hp
  exact closeF_ok _ _
theorem closed_next {rows on c} (h : ClosedAll rows on) : ClosedAll rows (nextOn rows on c) := by
  refine ⟨by simp [nextOn, h.1], fun p hp => ?_⟩
  rw [zip_nextOn _ _ _ h.1] at hp
  obtain ⟨q, _, rfl⟩ := List.mem_map.mp hp
  exact closeF_ok _ _
theorem acc_next {rows on c v} (h : ClosedAll rows on) : AccAll rows (nextOn rows on c) v ↔ AccAll rows on (c :: v) := by
  unfold AccAll
  rw [zip_nextOn _ _ _ h.1]
  constructor
  · intro k p hp
    exact (acc_step (h.2 p hp)).mp (k _ (List.mem_map.mpr ⟨p, hp, rfl⟩))
  · intro k p hp
    obtain ⟨q, hq, rfl⟩ := List.mem_map.mp hp
    exact (acc_step (h.2 q hq)).mpr (k q hq)
theorem acc_ends {rows on} (h : ClosedAll rows on) : AccAll rows on [] ↔ endsAll rows on = true := by
  unfold AccAll endsAll
  rw [List.all_eq_true]
  constructor
  · intro k p hp; exact decide_eq_true ((acc_nil (h.2 p hp)).mp (k p hp))
  · intro k p hp; exact (acc_nil (h.2 p hp)).mpr (of_decide_eq_true (k p hp))
theorem acc_alive {rows on v} (hl : on.length = rows.length) (h : AccAll rows on v) : [] ∉ on := by
  intro hm
  obtain ⟨i, hi, e⟩ := List.getElem_of_mem hm
  have hz : (rows[i]'(by lia), on[i]) ∈ rows.zip on := by
    rw [List.mem_iff_getElem]
    exact ⟨i, by simp; lia, by simp⟩
  obtain ⟨k, hk, _⟩ := h _ hz
  rw [e] at hk; cases hk
theorem acc_startOn {rows v} : AccAll rows (startOn rows) v ↔ ∀ r ∈ rows, M r v := by
  unfold AccAll startOn
  rw [zip_map_self]
  constructor
  · intro k r hr; exact acc_start.mp (k (r, closeF r [0]) (List.mem_map.mpr ⟨r, hr, rfl⟩))
  · intro k p hp
    obtain ⟨r, hr, rfl⟩ := List.mem_map.mp hp
    exact acc_start.mpr (k r hr)

noncomputable def child (rows : List (List Pt)) (pr : Nat → Nat) (x : It) (c : Nat) : It := ⟨x.price + pr c, x.name ++ [c], nextOn rows x.on c⟩
noncomputable def kids (rows : List (List Pt)) (pr : Nat → Nat) (x : It) : List It := (abc.map (child rows pr x)).filter fun y => decide ([] ∉ y.on)
noncomputable def first0 (rows : List (List Pt)) : It := ⟨0, [], startOn rows⟩

/-- what a turn of the search keeps; bag: the candidates on the heap; seen: places met, each with the price that it was first met at -/
structure Inv (rows : List (List Pt)) (pr : Nat → Nat) (bag : List It) (seen : List (List (List Nat) × Nat)) (low : Nat) : Prop where
  good : ∀ x ∈ bag, ClosedAll rows x.on ∧ Over x.name ∧ x.price = cost pr x.name ∧ (∀ v, AccAll rows x.on v → ∀ r ∈ rows, M r (x.name ++ v)) ∧ low ≤ x.price
  past : ∀ p ∈ seen, ClosedAll rows p.1 ∧ p.2 ≤ low ∧ endsAll rows p.1 = false
  cover : ∀ w, Over w → (∀ r ∈ rows, M r w) → ∃ x ∈ bag, ∃ v, Over v ∧ AccAll rows x.on v ∧ x.price + cost pr v ≤ cost pr w
  again : ∀ p ∈ seen, ∀ v, Over v → AccAll rows p.1 v → ∃ x ∈ bag, ∃ u, Over u ∧ u.length < v.length ∧ AccAll rows x.on u ∧ x.price + cost pr u ≤ p.2 + cost pr v

theorem inv_start (rows pr) : Inv rows pr [first0 rows] [] 0 where
  good := by
    intro x hx
    simp only [List.mem_singleton] at hx; subst hx
    exact ⟨closed_start rows, (by intro c hc; cases hc), rfl, fun v hv r hr => acc_startOn.mp hv r hr, Nat.zero_le _⟩
  past := by intro p hp; cases hp
  cover := fun w hw h => ⟨first0 rows, by simp, w, hw, acc_startOn.mpr h, by simp [first0]⟩
  again := by intro p hp; cases hp

/-- the popped one takes the empty word: it is the cheapest -/
theorem inv_found {rows pr bag seen low x} (I : Inv rows pr bag seen low) (hx : x ∈ bag) (hmin : ∀ y ∈ bag, x.price ≤ y.price) (he : endsAll rows x.on = true) :
    x.price = cost pr x.name ∧ Over x.name ∧ (∀ r ∈ rows, M r x.name) ∧ ∀ w, Over w → (∀ r ∈ rows, M r w) → cost pr x.name ≤ cost pr w := by
  obtain ⟨hc, ho, hp, hm, _⟩ := I.good x hx
  refine ⟨hp, ho, ?_, fun w hw h => ?_⟩
  · have := hm [] ((acc_ends hc).mpr he); simpa using this
  · obtain ⟨y, hy, v, _, _, hl⟩ := I.cover w hw h
    have := hmin y hy
    lia

/-- the popped one's places were met: it is dropped -/
theorem inv_drop {rows : List (List Pt)} {pr : Nat → Nat} {bag bag' : List It} {seen : List (List (List Nat) × Nat)} {low : Nat} {x : It} (I : Inv rows pr bag seen low) (hx : x ∈ bag) (hsub : ∀ y, y ∈ bag ↔ y = x ∨ y ∈ bag') (hmin : ∀ y ∈ bag, x.price ≤ y.price)
    {d : Nat} (hs : (x.on, d) ∈ seen) : Inv rows pr bag' seen x.price := by
  have sub : ∀ y ∈ bag', y ∈ bag := fun y hy => (hsub y).mpr (.inr hy)
  have low_le : low ≤ x.price := (I.good x hx).2.2.2.2
  have ag : ∀ n, ∀ p ∈ seen, ∀ v, v.length ≤ n → Over v → AccAll rows p.1 v → ∃ y ∈ bag', ∃ u, Over u ∧ u.length < v.length ∧ AccAll rows y.on u ∧ y.price + cost pr u ≤ p.2 + cost pr v := by
    intro n
    induction n with
    | zero =>
      intro p hp v hv ho ha
      obtain ⟨_, _, u, _, hu, _⟩ := I.again p hp v ho ha
      lia
    | succ n ih =>
      intro p hp v hv ho ha
      obtain ⟨y, hy, u, hou, hu, hau, hl⟩ := I.again p hp v ho ha
      rcases (hsub y).mp hy with rfl | hy
      · obtain ⟨z, hz, t, hot, ht, hat, hl2⟩ := ih (y.on, d) hs u (by lia) hou hau
        refine ⟨z, hz, t, hot, by lia, hat, ?_⟩
        have := (I.past _ hs).2.1
        have e : d ≤ y.price := Nat.le_trans this low_le
        simp only at hl2
        lia
      · exact ⟨y, hy, u, hou, hu, hau, hl⟩
  refine ⟨fun y hy => ?_, fun p hp => ?_, fun w hw h => ?_, fun p hp v ho ha => ag v.length p hp v (Nat.le_refl _) ho ha⟩
  · obtain ⟨a, b, c, d', _⟩ := I.good y (sub y hy)
    exact ⟨a, b, c, d', hmin y (sub y hy)⟩
  · obtain ⟨a, b, c⟩ := I.past p hp
    exact ⟨a, by lia, c⟩
  · obtain ⟨y, hy, v, hov, hav, hl⟩ := I.cover w hw h
    rcases (hsub y).mp hy with rfl | hy
    · obtain ⟨z, hz, t, hot, _, hat, hl2⟩ := ag v.length (y.on, d) hs v (Nat.le_refl _) hov hav
      refine ⟨z, hz, t, hot, hat, ?_⟩
      have := (I.past _ hs).2.1
      simp only at hl2
      lia
    · exact ⟨y, hy, v, hov, hav, hl⟩

/-- the popped one's places are new: its children go on the heap -/
theorem inv_expand {rows : List (List Pt)} {pr : Nat → Nat} {bag bag' bag'' : List It} {seen : List (List (List Nat) × Nat)} {low : Nat} {x : It} (I : Inv rows pr bag seen low) (hx : x ∈ bag) (hsub : ∀ y, y ∈ bag ↔ y = x ∨ y ∈ bag') (hmin : ∀ y ∈ bag, x.price ≤ y.price)
    (hn : endsAll rows x.on = false) (hadd : ∀ y, y ∈ bag'' ↔ y ∈ bag' ∨ y ∈ kids rows pr x) : Inv rows pr bag'' (seen ++ [(x.on, x.price)]) x.price := by
  obtain ⟨xc, xo, xp, xm, xl⟩ := I.good x hx
  have sub : ∀ y ∈ bag', y ∈ bag := fun y hy => (hsub y).mpr (.inr hy)
  -- a word that x's places take goes on to one of its children
  have go : ∀ v, Over v → AccAll rows x.on v → ∃ y ∈ bag'', ∃ u, Over u ∧ u.length < v.length ∧ AccAll rows y.on u ∧ y.price + cost pr u ≤ x.price + cost pr v := by
    intro v ho ha
    cases v with
    | nil => rw [(acc_ends xc).mp ha] at hn; cases hn
    | cons c u =>
      have hc : c ∈ abc := ho c List.mem_cons_self
      have ha' := (acc_next xc).mpr ha
      refine ⟨child rows pr x c, (hadd _).mpr (.inr ?_), u, fun y hy => ho y (List.mem_cons_of_mem _ hy), by simp, ha', by simp [child]; lia⟩
      unfold kids
      refine List.mem_filter.mpr ⟨List.mem_map.mpr ⟨c, hc, rfl⟩, ?_⟩
      exact decide_eq_true (acc_alive (closed_next xc).1 ha')
  refine ⟨fun y hy => ?_, fun p hp => ?_, fun w hw h => ?_, fun p hp v ho ha => ?_⟩
  · rcases (hadd y).mp hy with hy | hy
    · obtain ⟨a, b, c, d', _⟩ := I.good y (sub y hy)
      exact ⟨a, b, c, d', hmin y (sub y hy)⟩
    · obtain ⟨hy, _⟩ := List.mem_filter.mp hy
      obtain ⟨c, hc, rfl⟩ := List.mem_map.mp hy
      refine ⟨closed_next xc, ?_, ?_, fun v hv r hr => ?_, by simp [child]⟩
      · intro z hz
        rcases List.mem_append.mp hz with hz | hz
        · exact xo z hz
        · simp only [List.mem_singleton] at hz; exact hz ▸ hc
      · simp [child, cost, xp]
      · have := xm (c :: v) ((acc_next xc).mp hv) r hr
        simpa [child] using this
  · rcases List.mem_append.mp hp with hp | hp
    · obtain ⟨a, b, c⟩ := I.past p hp
      exact ⟨a, by lia, c⟩
    · simp only [List.mem_singleton] at hp; subst hp
      exact ⟨xc, Nat.le_refl _, hn⟩
  · obtain ⟨y, hy, v, hov, hav, hl⟩ := I.cover w hw h
    rcases (hsub y).mp hy with rfl | hy
    · obtain ⟨z, hz, u, hou, _, hau, hl2⟩ := go v hov hav
      exact ⟨z, hz, u, hou, hau, by lia⟩
    · exact ⟨y, (hadd y).mpr (.inl hy), v, hov, hav, hl⟩
  · rcases List.mem_append.mp hp with hp | hp
    · obtain ⟨y, hy, u, hou, hu, hau, hl⟩ := I.again p hp v ho ha
      rcases (hsub y).mp hy with rfl | hy
      · obtain ⟨z, hz, t, hot, ht, hat, hl2⟩ := go u hou hau
        exact ⟨z, hz, t, hot, by lia, hat, by lia⟩
      · exact ⟨y, (hadd y).mpr (.inl hy), u, hou, hu, hau, hl⟩
    · simp only [List.mem_singleton] at hp; subst hp
      exact go v ho ha

/-- an empty heap: no word -/
theorem inv_none {rows pr seen low} (I : Inv rows pr [] seen low) (w : Wd) (hw : Over w) : ¬ ∀ r ∈ rows, M r w := by
  intro h
  obtain ⟨x, hx, _⟩ := I.cover w hw h
  cases hx
end
section
noncomputable def at0 (h : List Nat) (i : Nat) : Nat := h.getD i 0
theorem at0_set (h : List Nat) (i a j : Nat) (hi : i < h.length) : at0 (h.set i a) j = if i = j then a else at0 h j := by
  unfold at0
  rw [List.getD_eq_getElem?_getD, List.getD_eq_getElem?_getD, List.getElem?_set]
  by_cases e : i = j
  · subst e; simp [hi]
  · simp [e]
theorem at0_get (h : List Nat) (i : Nat) (hi : i < h.length) : at0 h i = h[i] := by
  unfold at0; rw [List.getD_eq_getElem?_getD]; simp [hi]

/-- _siftdown from pos to the top, the new item in hand -/
noncomputable def sdN (lt : Nat → Nat → Bool) (new : Nat) : Nat → List Nat → Nat → List Nat
  | 0, h, pos => h.set pos new
  | n + 1, h, pos => if 0 < pos then (if lt new (at0 h ((pos - 1) / 2)) then sdN lt new n (h.set pos (at0 h ((pos - 1) / 2))) ((pos - 1) / 2) else h.set pos new) else h.set pos new
/-- the child that _siftup moves up -/
noncomputable def kid (lt : Nat → Nat → Bool) (h : List Nat) (pos : Nat) : Nat :=
  if 2 * pos + 1 + 1 < h.length ∧ lt (at0 h (2 * pos + 1)) (at0 h (2 * pos + 1 + 1)) = false then 2 * pos + 1 + 1 else 2 * pos + 1
/-- _siftup's way down to a leaf -/
noncomputable def suN (lt : Nat → Nat → Bool) : Nat → List Nat → Nat → List Nat × Nat
  | 0, h, pos => (h, pos)
  | n + 1, h, pos => if 2 * pos + 1 < h.length then suN lt n (h.set pos (at0 h (kid lt h pos))) (kid lt h pos) else (h, pos)
noncomputable def pushN (lt : Nat → Nat → Bool) (h : List Nat) (x : Nat) : List Nat := sdN lt x h.length (h ++ [x]) h.length
noncomputable def popN (lt : Nat → Nat → Bool) (h : List Nat) : Nat × List Nat :=
  match h.dropLast with
  | [] => (at0 h 0, [])
  | r :: rest => let l := at0 h (h.length - 1)
    let g := (r :: rest).set 0 l
    let p := suN lt g.length g 0
    (r, sdN lt l p.2 (p.1.set p.2 l) p.2)

noncomputable def HP (lt : Nat → Nat → Bool) (h : List Nat) : Prop := ∀ i, 0 < i → i < h.length → lt (at0 h i) (at0 h ((i - 1) / 2)) = false

structure Ord (lt : Nat → Nat → Bool) : Prop where
  refl : ∀ a, lt a a = false
  trans : ∀ a b c, lt b a = false → lt c b = false → lt c a = false
  of_lt : ∀ a b, lt a b = true → lt b a = false

section
variable {lt : Nat → Nat → Bool} (O : Ord lt)
include O

theorem sd_ok (new : Nat) : ∀ (n : Nat) (h : List Nat) (pos : Nat), pos ≤ n → pos < h.length →
    (∀ i, 0 < i → i < h.length → i ≠ pos → lt (at0 (h.set pos new) i) (at0 (h.set pos new) ((i - 1) / 2)) = false) →
    (∀ i, 0 < i → i < h.length → (i - 1) / 2 = pos → 0 < pos → lt (at0 h i) (at0 h ((pos - 1) / 2)) = false) →
    HP lt (sdN lt new n h pos) ∧ (sdN lt new n h pos).Perm (h.set pos new) := by
  have fin : ∀ (h : List Nat) (pos : Nat), pos < h.length → (∀ i, 0 < i → i < h.length → i ≠ pos → lt (at0 (h.set pos new) i) (at0 (h.set pos new) ((i - 1) / 2)) = false) →
      (0 < pos → lt new (at0 h ((pos - 1) / 2)) = false) → HP lt (h.set pos new) := by
    intro h pos hl ha hp i h0 hi
    rw [List.length_set] at hi
    by_cases e : i = pos
    · subst e
      rw [at0_set _ _ _ _ hl, at0_set _ _ _ _ hl, if_pos rfl, if_neg (by lia)]
      exact hp h0
    · exact ha i h0 hi e
  intro n
  induction n with
  | zero =>
    intro h pos hn hl ha hb
    exact ⟨fin h pos hl ha (fun h0 => by lia), .refl _⟩
  | succ n ih =>
    intro h pos hn hl ha hb
    unfold sdN
    by_cases h0 : 0 < pos
    · rw [if_pos h0]
      by_cases hlt : lt new (at0 h ((pos - 1) / 2)) = true
      · rw [if_pos hlt]
        have hpp : (pos - 1) / 2 < pos := by lia
        have hppl : (pos - 1) / 2 < h.length := by lia
        have e1 : ∀ j, at0 (h.set pos (at0 h ((pos - 1) / 2))) j = if pos = j then at0 h ((pos - 1) / 2) else at0 h j := fun j => at0_set _ _ _ _ hl
        have hl' : (pos - 1) / 2 < (h.set pos (at0 h ((pos - 1) / 2))).length := by rw [List.length_set]; exact hppl
        have e2 : ∀ j, at0 ((h.set pos (at0 h ((pos - 1) / 2))).set ((pos - 1) / 2) new) j = if (pos - 1) / 2 = j then new else if pos = j then at0 h ((pos - 1) / 2) else at0 h j := fun j => by
          rw [at0_set _ _ _ _ hl', e1]
        have e3 : ∀ j, at0 (h.set pos new) j = if pos = j then new else at0 h j := fun j => at0_set _ _ _ _ hl
        have old : ∀ i, 0 < i → i < h.length → i ≠ pos → (i - 1) / 2 ≠ pos → lt (at0 h i) (at0 h ((i - 1) / 2)) = false := by
          intro i i0 il ip iq
          have := ha i i0 il ip
          rw [e3, e3, if_neg (Ne.symm ip), if_neg (Ne.symm iq)] at this
          exact this
        have key := ih (h.set pos (at0 h ((pos - 1) / 2))) ((pos - 1) / 2) (by lia) hl' ?_ ?_
        · refine ⟨key.1, key.2.trans ?_⟩
          have hg : pos < (h.set pos new).length := by rw [List.length_set]; exact hl
          have hg2 : (pos - 1) / 2 < (h.set pos new).length := by rw [List.length_set]; exact hppl
          have q := List.set_set_perm (as := h.set pos new) hg hg2
          have a1 : (h.set pos new)[(pos - 1) / 2] = at0 h ((pos - 1) / 2) := by
            rw [List.getElem_set_ne (by lia), at0_get _ _ hppl]
          have a2 : (h.set pos new)[pos] = new := by simp
          rw [a1, a2, List.set_set] at q
          exact q
        · intro i i0 il ip
          rw [List.length_set] at il
          rw [e2, e2, if_neg (Ne.symm ip)]
          by_cases ei : pos = i
          · subst ei
            rw [if_pos rfl, if_pos rfl]
            exact O.of_lt _ _ hlt
          · rw [if_neg ei]
            by_cases ej : (pos - 1) / 2 = (i - 1) / 2
            · rw [if_pos ej]
              have := old i i0 il (Ne.symm ei) (by lia)
              rw [← ej] at this
              exact O.trans _ _ _ (O.of_lt _ _ hlt) this
            · rw [if_neg ej]
              by_cases ek : pos = (i - 1) / 2
              · rw [if_pos ek]
                exact hb i i0 il ek.symm h0
              · rw [if_neg ek]
                exact old i i0 il (Ne.symm ei) (Ne.symm ek)
        · intro i i0 il ip ipp
          rw [List.length_set] at il
          rw [e1, e1, if_neg (show pos ≠ ((pos - 1) / 2 - 1) / 2 by lia)]
          have up := old ((pos - 1) / 2) ipp hppl (by lia) (by lia)
          by_cases ei : pos = i
          · rw [if_pos ei]; exact up
          · rw [if_neg ei]
            have := old i i0 il (Ne.symm ei) (by lia)
            rw [ip] at this
            exact O.trans _ _ _ up this
      · rw [if_neg hlt]
        exact ⟨fin h pos hl ha (fun _ => by simpa using hlt), .refl _⟩
    · rw [if_neg h0]
      exact ⟨fin h pos hl ha (fun q => absurd q h0), .refl _⟩

theorem su_ok (new : Nat) : ∀ (n : Nat) (h : List Nat) (pos : Nat), h.length ≤ n + pos → pos < h.length →
    (∀ i, 0 < i → i < h.length → i ≠ pos → (i - 1) / 2 ≠ pos → lt (at0 h i) (at0 h ((i - 1) / 2)) = false) →
    (∀ i, 0 < i → i < h.length → (i - 1) / 2 = pos → 0 < pos → lt (at0 h i) (at0 h ((pos - 1) / 2)) = false) →
    (suN lt n h pos).1.length = h.length ∧ (suN lt n h pos).2 < h.length ∧ h.length ≤ 2 * (suN lt n h pos).2 + 1 ∧ ((suN lt n h pos).1.set (suN lt n h pos).2 new).Perm (h.set pos new) ∧
    (∀ i, 0 < i → i < h.length → i ≠ (suN lt n h pos).2 → lt (at0 (suN lt n h pos).1 i) (at0 (suN lt n h pos).1 ((i - 1) / 2)) = false) := by
  intro n
  induction n with
  | zero =>
    intro h pos hn hl _ _
    lia
  | succ n ih =>
    intro h pos hn hl ha hb
    unfold suN
    by_cases hc : 2 * pos + 1 < h.length
    · rw [if_pos hc]
      have hk : kid lt h pos < h.length ∧ (kid lt h pos - 1) / 2 = pos ∧ pos < kid lt h pos := by
        unfold kid; split <;> lia
      have hmin : ∀ i, 0 < i → i < h.length → (i - 1) / 2 = pos → i ≠ kid lt h pos → lt (at0 h i) (at0 h (kid lt h pos)) = false := by
        intro i i0 il ip ik
        unfold kid at ik ⊢
        split at ik
        · rename_i q
          rw [if_pos q]
          have : i = 2 * pos + 1 := by lia
          subst this
          exact q.2
        · rename_i q
          rw [if_neg q]
          have e : i = 2 * pos + 1 + 1 := by lia
          subst e
          have : lt (at0 h (2 * pos + 1)) (at0 h (2 * pos + 1 + 1)) = true := by
            cases z : lt (at0 h (2 * pos + 1)) (at0 h (2 * pos + 1 + 1)) with
            | true => rfl
            | false => exact absurd ⟨il, z⟩ q
          exact O.of_lt _ _ this
      generalize kid lt h pos = c at hk hmin ⊢
      obtain ⟨hcl, hcp, hpc⟩ := hk
      have e1 : ∀ j, at0 (h.set pos (at0 h c)) j = if pos = j then at0 h c else at0 h j := fun j => at0_set _ _ _ _ hl
      have := ih (h.set pos (at0 h c)) c (by rw [List.length_set]; lia) (by rw [List.length_set]; exact hcl) ?_ ?_
      · rw [List.length_set] at this
        obtain ⟨z1, z2, z3, z4, z5⟩ := this
        refine ⟨z1, z2, z3, z4.trans ?_, z5⟩
        have hg : pos < (h.set pos new).length := by rw [List.length_set]; exact hl
        have hg2 : c < (h.set pos new).length := by rw [List.length_set]; exact hcl
        have q := List.set_set_perm (as := h.set pos new) hg hg2
        have a1 : (h.set pos new)[c] = at0 h c := by
          rw [List.getElem_set_ne (by lia), at0_get _ _ hcl]
        have a2 : (h.set pos new)[pos] = new := by simp
        rw [a1, a2, List.set_set] at q
        exact q
      · intro i i0 il ic ipc
        rw [List.length_set] at il
        rw [e1, e1]
        by_cases ei : pos = i
        · rw [if_pos ei, if_neg (by lia)]
          have := hb c (by lia) hcl hcp (by lia)
          rw [ei] at this
          exact this
        · rw [if_neg ei]
          by_cases ek : pos = (i - 1) / 2
          · rw [if_pos ek]
            exact hmin i i0 il ek.symm ic
          · rw [if_neg ek]
            exact ha i i0 il (Ne.symm ei) (Ne.symm ek)
      · intro i i0 il ip _
        rw [List.length_set] at il
        rw [hcp, e1, e1, if_neg (by lia), if_pos rfl]
        have := ha i i0 il (by lia) (by lia)
        rw [ip] at this
        exact this
    · rw [if_neg hc]
      refine ⟨rfl, hl, by lia, .refl _, fun i i0 il ip => ha i i0 il ip (by lia)⟩

theorem push_ok {h : List Nat} (x : Nat) (H : HP lt h) : HP lt (pushN lt h x) ∧ (pushN lt h x).Perm (x :: h) := by
  unfold pushN
  have hl : h.length < (h ++ [x]).length := by simp
  have es : (h ++ [x]).set h.length x = h ++ [x] := by simp
  have ea : ∀ i, i < h.length → at0 (h ++ [x]) i = at0 h i := by
    intro i hi
    unfold at0; rw [List.getD_eq_getElem?_getD, List.getD_eq_getElem?_getD, List.getElem?_append_left hi]
  have := sd_ok O x h.length (h ++ [x]) h.length (Nat.le_refl _) hl ?_ ?_
  · rw [es] at this
    refine ⟨this.1, this.2.trans ?_⟩
    exact List.perm_append_comm (l₁ := h) (l₂ := [x])
  · intro i i0 il ip
    rw [es]
    have il' : i < h.length := by simp at il; lia
    rw [ea i il', ea _ (by lia)]
    exact H i i0 il'
  · intro i i0 il ip _
    simp at il; lia

omit O in
theorem at0_dropLast {h : List Nat} {i : Nat} (hi : i < h.length - 1) : at0 h.dropLast i = at0 h i := by
  unfold at0
  rw [List.getD_eq_getElem?_getD, List.getD_eq_getElem?_getD, List.getElem?_dropLast, if_pos hi]

/-- the first of a heap goes ahead of all -/
theorem hp_min {h : List Nat} (H : HP lt h) : ∀ i, i < h.length → lt (at0 h i) (at0 h 0) = false := by
  intro i
  induction i using Nat.strongRecOn with
  | ind i ih =>
    intro hi
    by_cases h0 : i = 0
    · subst h0; exact O.refl _
    · exact O.trans _ _ _ (ih ((i - 1) / 2) (by lia) (by lia)) (H i (by lia) hi)

theorem pop_ok {h : List Nat} (H : HP lt h) (hne : h ≠ []) : HP lt (popN lt h).2 ∧ h.Perm ((popN lt h).1 :: (popN lt h).2) ∧ ∀ y ∈ h, lt y (popN lt h).1 = false := by
  have hlen : 0 < h.length := List.length_pos_iff.mpr hne
  have hdl : h.dropLast.length = h.length - 1 := List.length_dropLast
  have elast : h.getLast hne = at0 h (h.length - 1) := by
    rw [at0_get _ _ (by lia), List.getLast_eq_getElem]
  have esplit := List.dropLast_concat_getLast hne
  have hmin : ∀ y ∈ h, lt y (at0 h 0) = false := by
    intro y hy
    obtain ⟨i, hi, rfl⟩ := List.getElem_of_mem hy
    rw [← at0_get _ _ hi]; exact hp_min O H i hi
  unfold popN
  cases hd : h.dropLast with
  | nil =>
    rw [hd] at hdl
    refine ⟨fun i _ hi => by simp at hi, ?_, hmin⟩
    simp only []
    rw [hd, elast] at esplit
    have e1 : h.length - 1 = 0 := by simp at hdl; lia
    rw [e1] at esplit
    simp only [List.nil_append] at esplit
    rw [← esplit]
    simp [at0]
  | cons r rest =>
    have er : r = at0 h 0 := by
      have : at0 h.dropLast 0 = at0 h 0 := at0_dropLast (by rw [hd] at hdl; simp at hdl; lia)
      rw [hd] at this
      simpa [at0] using this
    simp only []
    have hg0 : 0 < (r :: rest).length := by simp
    have hgl : ((r :: rest).set 0 (at0 h (h.length - 1))).length = h.length - 1 := by rw [List.length_set, ← hd, hdl]
    have ea : ∀ i, 0 < i → i < h.length - 1 → at0 ((r :: rest).set 0 (at0 h (h.length - 1))) i = at0 h i := by
      intro i i0 hi
      rw [at0_set _ _ _ _ hg0, if_neg (by lia), ← hd]
      exact at0_dropLast hi
    have hg : 0 < ((r :: rest).set 0 (at0 h (h.length - 1))).length := by rw [List.length_set]; exact hg0
    have su := su_ok O (at0 h (h.length - 1)) ((r :: rest).set 0 (at0 h (h.length - 1))).length ((r :: rest).set 0 (at0 h (h.length - 1))) 0 (by lia) hg ?_ ?_
    · generalize suN lt ((r :: rest).set 0 (at0 h (h.length - 1))).length ((r :: rest).set 0 (at0 h (h.length - 1))) 0 = p at su ⊢
      obtain ⟨s1, s2, s3, s4, s5⟩ := su
      have hl2 : p.2 < (p.1.set p.2 (at0 h (h.length - 1))).length := by rw [List.length_set]; lia
      have sd := sd_ok O (at0 h (h.length - 1)) p.2 (p.1.set p.2 (at0 h (h.length - 1))) p.2 (Nat.le_refl _) hl2 ?_ ?_
      · refine ⟨sd.1, ?_, er ▸ hmin⟩
        have pm := sd.2
        rw [List.set_set] at pm
        have pm2 := pm.trans s4
        rw [List.set_set] at pm2
        refine List.Perm.trans ?_ (List.Perm.cons r pm2).symm
        have eh : h = r :: (rest ++ [at0 h (h.length - 1)]) := by
          rw [hd, elast] at esplit; exact esplit.symm
        refine List.Perm.trans (List.Perm.of_eq eh) ?_
        simp only [List.set_cons_zero]
        exact List.Perm.cons _ (List.perm_append_comm (l₁ := rest) (l₂ := [at0 h (h.length - 1)]))
      · intro i i0 il ip
        rw [List.length_set] at il
        rw [List.set_set, at0_set _ _ _ _ (by lia), at0_set _ _ _ _ (by lia), if_neg (Ne.symm ip), if_neg (by lia)]
        exact s5 i i0 (by lia) ip
      · intro i i0 il ip _
        rw [List.length_set] at il
        lia
    · intro i i0 il ip ipp
      rw [hgl] at il
      rw [ea i i0 il, ea _ (by lia) (by lia)]
      exact H i i0 (by lia)
    · intro i i0 il ip h0
      lia
end
end
section
noncomputable def it0 : It := ⟨0, [], []⟩
noncomputable def itemOf (pairs : List It) (i : Nat) : It := pairs.getD i it0
noncomputable def ltP (pairs : List It) (i j : Nat) : Bool := ilt (itemOf pairs i) (itemOf pairs j)
theorem ord_ltP (pairs : List It) : Ord (ltP pairs) where
  refl := fun a => ile_refl (itemOf pairs a)
  trans := fun a b c h1 h2 => ile_trans (a := itemOf pairs a) (b := itemOf pairs b) (c := itemOf pairs c) h1 h2
  of_lt := fun a b h => ile_of_lt (a := itemOf pairs a) (b := itemOf pairs b) h
theorem itemOf_app {pairs : List It} {i : Nat} (y : It) (h : i < pairs.length) : itemOf (pairs ++ [y]) i = itemOf pairs i := by
  unfold itemOf
  rw [List.getD_eq_getElem?_getD, List.getD_eq_getElem?_getD, List.getElem?_append_left h]
theorem itemOf_new (pairs : List It) (y : It) : itemOf (pairs ++ [y]) pairs.length = y := by
  unfold itemOf
  rw [List.getD_eq_getElem?_getD]
  simp

noncomputable def addKid (rows : List (List Pt)) (pr : Nat → Nat) (x : It) (s : List It × List Nat) (c : Nat) : List It × List Nat :=
  if [] ∈ (child rows pr x c).on then s else (s.1 ++ [child rows pr x c], pushN (ltP (s.1 ++ [child rows pr x c])) s.2 s.1.length)
noncomputable def foundN (rows : List (List Pt)) (pr : Nat → Nat) : Nat → List It → List Nat → List (List (List Nat)) → Option (Nat × Wd)
  | 0, _, _, _ => none
  | n + 1, pairs, heap, seen => if heap = [] then some (1000, []) else
    let p := popN (ltP pairs) heap
    let x := itemOf pairs p.1
    if endsAll rows x.on then some (x.price, x.name)
    else if x.on ∈ seen then foundN rows pr n pairs p.2 seen
    else let s := abc.foldl (addKid rows pr x) (pairs, p.2)
      foundN rows pr n s.1 s.2 (seen ++ [x.on])

noncomputable def allSubs : List Nat → List (List Nat)
  | [] => [[]]
  | a :: l => (allSubs l).map (a :: ·) ++ allSubs l
theorem mem_allSubs {s l : List Nat} (h : s.Sublist l) : s ∈ allSubs l := by
  induction h with
  | slnil => simp [allSubs]
  | cons a _ ih => exact List.mem_append_right _ ih
  | cons_cons a _ ih => exact List.mem_append_left _ (List.mem_map_of_mem ih)
noncomputable def univ : List (List Pt) → List (List (List Nat))
  | [] => [[]]
  | r :: rs => (allSubs (List.range (r.length + 1))).flatMap fun s => (univ rs).map (s :: ·)
theorem mem_univ_map (f : List Pt → List Nat) (hf : ∀ r, (f r).Sublist (List.range (r.length + 1))) : ∀ rows : List (List Pt), rows.map f ∈ univ rows
  | [] => by simp [univ]
  | r :: rs => by
    unfold univ
    exact List.mem_flatMap.mpr ⟨f r, mem_allSubs (hf r), List.mem_map_of_mem (mem_univ_map f hf rs)⟩
theorem start_univ (rows) : startOn rows ∈ univ rows := mem_univ_map _ (fun r => (closeF_nodup r [0]).2) rows
theorem next_univ : ∀ (rows : List (List Pt)) (on : List (List Nat)) (c : Nat), on.length = rows.length → nextOn rows on c ∈ univ rows
  | [], on, c, h => by
    cases on with
    | nil => simp [nextOn, univ]
    | cons => simp at h
  | r :: rs, on, c, h => by
    cases on with
    | nil => simp at h
    | cons k on =>
      unfold univ
      refine List.mem_flatMap.mpr ⟨stepF r k c, mem_allSubs (closeF_nodup r _).2, ?_⟩
      exact List.mem_map.mpr ⟨nextOn rs on c, next_univ rs on c (by simpa using h), by simp [nextOn]⟩

theorem nodup_length {α : Type} [DecidableEq α] : ∀ (l u : List α), l.Nodup → (∀ a ∈ l, a ∈ u) → l.length ≤ u.length
  | [], _, _, _ => Nat.zero_le _
  | a :: l, u, hn, hs => by
    have ha : a ∈ u := hs a List.mem_cons_self
    obtain ⟨h1, h2⟩ := List.nodup_cons.mp hn
    have := nodup_length l (u.erase a) h2 (fun b hb => by
      have hba : b ≠ a := fun e => h1 (e ▸ hb)
      exact (List.mem_erase_of_ne hba).mpr (hs b (List.mem_cons_of_mem _ hb)))
    rw [List.length_erase_of_mem ha] at this
    have : 0 < u.length := List.length_pos_of_mem ha
    simp only [List.length_cons]; lia

noncomputable def bagOf (pairs : List It) (heap : List Nat) : List It := heap.map (itemOf pairs)

/-- what holds of the two lists -/
structure Ok (rows : List (List Pt)) (pairs : List It) (heap : List Nat) : Prop where
  hp : HP (ltP pairs) heap
  idx : ∀ i ∈ heap, i < pairs.length
  uni : ∀ x ∈ bagOf pairs heap, x.on ∈ univ rows

theorem at0_mem {h : List Nat} {i : Nat} (hi : i < h.length) : at0 h i ∈ h := by rw [at0_get _ _ hi]; exact List.getElem_mem hi

theorem addKid_ok {rows : List (List Pt)} {pr : Nat → Nat} {x : It} {s : List It × List Nat} {c : Nat} (hx : x.on.length = rows.length) (K : Ok rows s.1 s.2) :
    Ok rows (addKid rows pr x s c).1 (addKid rows pr x s c).2 ∧ (addKid rows pr x s c).2.length ≤ s.2.length + 1 ∧ s.1.length ≤ (addKid rows pr x s c).1.length ∧
    ∀ y, y ∈ bagOf (addKid rows pr x s c).1 (addKid rows pr x s c).2 ↔ y ∈ bagOf s.1 s.2 ∨ (y = child rows pr x c ∧ [] ∉ (child rows pr x c).on) := by
  obtain ⟨pairs, heap⟩ := s
  unfold addKid
  by_cases he : [] ∈ (child rows pr x c).on
  · rw [if_pos he]
    exact ⟨K, Nat.le_succ _, Nat.le_refl _, fun y => ⟨.inl, fun h => h.elim id fun h => absurd he h.2⟩⟩
  · rw [if_neg he]
    simp only []
    generalize hz : child rows pr x c = z at he ⊢
    have hzu : z.on ∈ univ rows := by rw [← hz]; exact next_univ rows x.on c hx
    obtain ⟨K1, K2, K3⟩ := K
    simp only at K1 K2 K3
    have same : ∀ i j, i < pairs.length → j < pairs.length → ltP (pairs ++ [z]) i j = ltP pairs i j := by
      intro i j hi hj
      unfold ltP; rw [itemOf_app z hi, itemOf_app z hj]
    have H : HP (ltP (pairs ++ [z])) heap := by
      intro i i0 il
      rw [same _ _ (K2 _ (at0_mem il)) (K2 _ (at0_mem (by lia)))]
      exact K1 i i0 il
    obtain ⟨P1, P2⟩ := push_ok (ord_ltP (pairs ++ [z])) pairs.length H
    have bag : ∀ y, y ∈ bagOf (pairs ++ [z]) (pushN (ltP (pairs ++ [z])) heap pairs.length) ↔ y ∈ bagOf pairs heap ∨ (y = z ∧ [] ∉ z.on) := by
      intro y
      unfold bagOf
      rw [(P2.map (itemOf (pairs ++ [z]))).mem_iff, List.map_cons, List.mem_cons, itemOf_new]
      have e : heap.map (itemOf (pairs ++ [z])) = heap.map (itemOf pairs) := List.map_congr_left fun i hi => itemOf_app z (K2 i hi)
      rw [e]
      constructor
      · rintro (h | h)
        · exact .inr ⟨h, he⟩
        · exact .inl h
      · rintro (h | h)
        · exact .inr h
        · exact .inl h.1
    refine ⟨⟨P1, ?_, ?_⟩, ?_, by simp, bag⟩
    · intro i hi
      have := (P2.mem_iff).mp hi
      simp only [List.length_append, List.length_cons, List.length_nil]
      rcases List.mem_cons.mp this with rfl | h
      · lia
      · have := K2 i h; lia
    · intro y hy
      rcases (bag y).mp hy with h | h
      · exact K3 y h
      · rw [h.1]; exact hzu
    · rw [P2.length_eq]; simp

noncomputable def Spec (rows : List (List Pt)) (pr : Nat → Nat) (r : Nat × Wd) : Prop :=
  (r.1 = 1000 ∧ r.2 = [] ∧ ∀ w, Over w → ¬ ∀ x ∈ rows, M x w) ∨
  (r.1 = cost pr r.2 ∧ Over r.2 ∧ (∀ x ∈ rows, M x r.2) ∧ ∀ w, Over w → (∀ x ∈ rows, M x w) → cost pr r.2 ≤ cost pr w)

structure RI (rows : List (List Pt)) (pr : Nat → Nat) (pairs : List It) (heap : List Nat) (seen : List (List (List Nat))) : Prop where
  ok : Ok rows pairs heap
  inv : ∃ sp low, sp.map (·.1) = seen ∧ Inv rows pr (bagOf pairs heap) sp low
  nodup : seen.Nodup
  sub : ∀ s ∈ seen, s ∈ univ rows

theorem found_ok (rows : List (List Pt)) (pr : Nat → Nat) : ∀ (k : Nat) (pairs : List It) (heap : List Nat) (seen : List (List (List Nat))), RI rows pr pairs heap seen →
    4 * ((univ rows).length - seen.length) + heap.length ≤ k → ∃ r, foundN rows pr (k + 1) pairs heap seen = some r ∧ Spec rows pr r := by
  intro k
  induction k with
  | zero =>
    intro pairs heap seen R hk
    have : heap = [] := List.eq_nil_of_length_eq_zero (by lia)
    subst this
    obtain ⟨sp, low, _, I⟩ := R.inv
    exact ⟨(1000, []), by unfold foundN; simp, .inl ⟨rfl, rfl, fun w hw => inv_none I w hw⟩⟩
  | succ k ih =>
    intro pairs heap seen R hk
    unfold foundN
    by_cases hh : heap = []
    · rw [if_pos hh]
      subst hh
      obtain ⟨sp, low, _, I⟩ := R.inv
      exact ⟨(1000, []), rfl, .inl ⟨rfl, rfl, fun w hw => inv_none I w hw⟩⟩
    · rw [if_neg hh]
      obtain ⟨P1, P2, P3⟩ := pop_ok (ord_ltP pairs) R.ok.hp hh
      simp only []
      generalize popN (ltP pairs) heap = p at P1 P2 P3 ⊢
      obtain ⟨one, rest⟩ := p
      simp only at P1 P2 P3 ⊢
      obtain ⟨sp, low, hsp, I⟩ := R.inv
      have hone : one ∈ heap := P2.mem_iff.mpr List.mem_cons_self
      have hx : itemOf pairs one ∈ bagOf pairs heap := List.mem_map_of_mem hone
      have hsub : ∀ y, y ∈ bagOf pairs heap ↔ y = itemOf pairs one ∨ y ∈ bagOf pairs rest := by
        intro y
        unfold bagOf
        rw [(P2.map (itemOf pairs)).mem_iff, List.map_cons, List.mem_cons]
      have hmin : ∀ y ∈ bagOf pairs heap, (itemOf pairs one).price ≤ y.price := by
        intro y hy
        obtain ⟨i, hi, rfl⟩ := List.mem_map.mp hy
        exact ilt_price (P3 i hi)
      have hlen : heap.length = rest.length + 1 := by rw [P2.length_eq]; rfl
      have Krest : Ok rows pairs rest := by
        refine ⟨P1, fun i hi => R.ok.idx i (P2.mem_iff.mpr (List.mem_cons_of_mem _ hi)), fun y hy => R.ok.uni y ((hsub y).mpr (.inr hy))⟩
      by_cases he : endsAll rows (itemOf pairs one).on = true
      · rw [if_pos he]
        exact ⟨_, rfl, .inr (inv_found I hx hmin he)⟩
      · rw [if_neg he]
        by_cases hs : (itemOf pairs one).on ∈ seen
        · rw [if_pos hs]
          obtain ⟨⟨q, d⟩, hq, hqe⟩ := List.mem_map.mp (hsp ▸ hs)
          simp only at hqe
          subst hqe
          exact ih pairs rest seen ⟨Krest, ⟨sp, _, hsp, inv_drop I hx hsub hmin hq⟩, R.nodup, R.sub⟩ (by lia)
        · rw [if_neg hs]
          have xl : (itemOf pairs one).on.length = rows.length := (I.good _ hx).1.1
          have xu := R.ok.uni _ hx
          generalize hxx : itemOf pairs one = x at *
          -- three children
          simp only [abc, List.foldl_cons, List.foldl_nil]
          obtain ⟨A1, A2, _, A3⟩ := addKid_ok (pr := pr) (c := 97) xl (s := (pairs, rest)) Krest
          generalize addKid rows pr x (pairs, rest) 97 = s1 at A1 A2 A3 ⊢
          obtain ⟨B1, B2, _, B3⟩ := addKid_ok (pr := pr) (c := 98) xl A1
          generalize addKid rows pr x s1 98 = s2 at B1 B2 B3 ⊢
          obtain ⟨C1, C2, _, C3⟩ := addKid_ok (pr := pr) (c := 99) xl B1
          generalize addKid rows pr x s2 99 = s3 at C1 C2 C3 ⊢
          have hadd : ∀ y, y ∈ bagOf s3.1 s3.2 ↔ y ∈ bagOf pairs rest ∨ y ∈ kids rows pr x := by
            intro y
            rw [C3, B3, A3]
            unfold kids
            simp only [List.mem_filter, List.mem_map, abc, List.mem_cons, List.mem_nil_iff, or_false, decide_eq_true_eq]
            constructor
            · rintro (((h | h) | h) | h)
              · exact .inl h
              · exact .inr ⟨⟨97, by simp, h.1.symm⟩, h.1 ▸ h.2⟩
              · exact .inr ⟨⟨98, by simp, h.1.symm⟩, h.1 ▸ h.2⟩
              · exact .inr ⟨⟨99, by simp, h.1.symm⟩, h.1 ▸ h.2⟩
            · rintro (h | ⟨⟨c, hc, rfl⟩, h⟩)
              · exact .inl (.inl (.inl h))
              · rcases hc with rfl | rfl | rfl
                · exact .inl (.inl (.inr ⟨rfl, h⟩))
                · exact .inl (.inr ⟨rfl, h⟩)
                · exact .inr ⟨rfl, h⟩
          have J := inv_expand I hx hsub hmin (by simpa using he) hadd
          have hnd : (seen ++ [x.on]).Nodup := by
            rw [List.nodup_append]
            refine ⟨R.nodup, by simp, ?_⟩
            intro a ha b hb e
            simp only [List.mem_singleton] at hb
            subst hb e
            exact hs ha
          have hsub' : ∀ s ∈ seen ++ [x.on], s ∈ univ rows := by
            intro s hs'
            rcases List.mem_append.mp hs' with h | h
            · exact R.sub s h
            · simp only [List.mem_singleton] at h; exact h ▸ xu
          have bound := nodup_length _ _ hnd hsub'
          simp only [List.length_append, List.length_cons, List.length_nil] at bound
          refine ih s3.1 s3.2 (seen ++ [x.on]) ⟨C1, ⟨sp ++ [(x.on, x.price)], _, by simp [hsp], J⟩, hnd, hsub'⟩ ?_
          simp only [List.length_append, List.length_cons, List.length_nil]
          simp only at A2
          lia

theorem found_start (rows : List (List Pt)) (pr : Nat → Nat) : ∃ n r, foundN rows pr n [first0 rows] [0] [] = some r ∧ Spec rows pr r := by
  refine ⟨_, found_ok rows pr _ [first0 rows] [0] [] ⟨⟨?_, ?_, ?_⟩, ⟨[], 0, rfl, ?_⟩, List.nodup_nil, by intro s hs; cases hs⟩ (Nat.le_refl _)⟩
  · intro i i0 il; simp at il; lia
  · intro i hi; simp at hi; subst hi; simp
  · intro y hy
    simp [bagOf, itemOf] at hy
    subst hy
    exact start_univ rows
  · have := inv_start rows pr
    simpa [bagOf, itemOf] using this

/-! translate's rows and the patterns' own parts take the same words -/
noncomputable def ptOf (c : Nat) : Pt := if c = 42 then .star else if c = 63 then .any else .sg c
noncomputable def trStep (res : List Pt) (c : Nat) : List Pt := if c = 42 then (if res.getLast? = some .star then res else res ++ [.star]) else if c = 63 then res ++ [.any] else res ++ [.sg c]
noncomputable def trF (p : Wd) : List Pt := p.foldl trStep []
theorem M_app_star {a : List Pt} {r : List Pt} {w : Wd} (h : a.getLast? = some .star) : M (a ++ .star :: r) w ↔ M (a ++ r) w := by
  induction a generalizing w with
  | nil => simp at h
  | cons p a ih =>
    cases a with
    | nil =>
      simp at h; subst h
      show M (.star :: .star :: r) w ↔ M (.star :: r) w
      induction w with
      | nil => rw [M_star_nil, M_star_nil]
      | cons c w ihw =>
        rw [M_star_cons, M_star_cons (r := r), ihw]
        constructor
        · rintro ((h | h) | h)
          · exact .inl h
          · exact .inr h
          · exact .inr h
        · rintro (h | h)
          · exact .inl (.inl h)
          · exact .inl (.inr h)
    | cons q a =>
      have h' : (q :: a).getLast? = some .star := by rw [List.getLast?_cons_cons] at h; exact h
      have ih' := fun w => ih (w := w) h'
      show M (p :: ((q :: a) ++ .star :: r)) w ↔ M (p :: ((q :: a) ++ r)) w
      generalize (q :: a) ++ .star :: r = u at ih' ⊢
      generalize (q :: a) ++ r = v at ih' ⊢
      by_cases hp : p = .star
      · subst hp
        induction w with
        | nil => rw [M_star_nil, M_star_nil, ih']
        | cons c w ihw => rw [M_star_cons, M_star_cons, ih', ihw]
      · cases w with
        | nil => exact ⟨fun h => absurd h (M_plain_nil hp), fun h => absurd h (M_plain_nil hp)⟩
        | cons c w => rw [M_plain_cons hp, M_plain_cons hp, ih']
theorem trF_fold (p : Wd) : ∀ (a : List Pt) (w : Wd), M (p.foldl trStep a) w ↔ M (a ++ p.map ptOf) w := by
  induction p with
  | nil => intro a w; simp
  | cons c p ih =>
    intro a w
    rw [List.foldl_cons, ih, List.map_cons]
    unfold trStep ptOf
    by_cases h1 : c = 42
    · rw [if_pos h1, if_pos h1]
      by_cases h2 : a.getLast? = some .star
      · rw [if_pos h2]; exact (M_app_star h2).symm
      · rw [if_neg h2]; simp
    · rw [if_neg h1, if_neg h1]
      by_cases h2 : c = 63
      · rw [if_pos h2, if_pos h2]; simp
      · rw [if_neg h2, if_neg h2]; simp
theorem M_trF (p : Wd) (w : Wd) : M (trF p) w ↔ M (p.map ptOf) w := by
  have := trF_fold p [] w
  simpa [trF] using this

/-- the law of one pair of patterns: the price found is the least -/
theorem right_ok {pr : Nat → Nat} (h3 : ∀ c ∈ abc, pr c ≤ 3) {p q : Wd} {n : Nat} (hn : p.length + q.length ≤ n) (hn2 : p.length + q.length ≤ 300) (fp : Fine (p.map ptOf)) (fq : Fine (q.map ptOf)) {r : Nat × Wd}
    (S : Spec [trF p, trF q] pr r) : r.1 = leastN pr n (p.map ptOf) (q.map ptOf) ∧ (r.1 = 1000 ∧ r.2 = [] ∨ r.1 = cost pr r.2) := by
  have both : ∀ w, (∀ x ∈ [trF p, trF q], M x w) ↔ M (p.map ptOf) w ∧ M (q.map ptOf) w := by
    intro w
    simp only [List.mem_cons, List.mem_nil_iff, or_false, forall_eq_or_imp, forall_eq, M_trF]
  have hl : (p.map ptOf).length + (q.map ptOf).length ≤ n := by simpa using hn
  rcases S with ⟨e1, e2, hno⟩ | ⟨e1, ho, hm, hmin⟩
  · refine ⟨?_, .inl ⟨e1, e2⟩⟩
    rcases least_word (pr := pr) n _ _ hl fp fq with h | ⟨w, hw, m1, m2, _⟩
    · rw [e1, h]
    · exact absurd ((both w).mpr ⟨m1, m2⟩) (hno w hw)
  · refine ⟨?_, .inr e1⟩
    obtain ⟨m1, m2⟩ := (both _).mp hm
    obtain ⟨le1, le2⟩ := least_le h3 n _ _ hl r.2 ho m1 m2
    simp only [List.length_map] at le2
    rcases least_word (pr := pr) n _ _ hl fp fq with h | ⟨w, hw, k1, k2, e⟩
    · lia
    · have := hmin w hw ((both w).mpr ⟨k1, k2⟩)
      lia
end
section
theorem found_startN (rows : List (List Pt)) (pr : Nat → Nat) : ∃ r, foundN rows pr (4 * (univ rows).length + 1 + 1) [first0 rows] [0] [] = some r ∧ Spec rows pr r := by
  refine found_ok rows pr _ [first0 rows] [0] [] ⟨⟨?_, ?_, ?_⟩, ⟨[], 0, rfl, ?_⟩, List.nodup_nil, by intro s hs; cases hs⟩ (by simp)
  · intro i i0 il; simp at il; lia
  · intro i hi; simp at hi; subst hi; simp
  · intro y hy
    simp [bagOf, itemOf] at hy
    subst hy
    exact start_univ rows
  · have := inv_start rows pr
    simpa [bagOf, itemOf] using this
theorem allSubs_length (l : List Nat) : (allSubs l).length = 2 ^ l.length := by
  induction l with
  | nil => rfl
  | cons a l ih => simp only [allSubs, List.length_append, List.length_map, ih, List.length_cons]; lia
theorem univ_length : ∀ rows : List (List Pt), (univ rows).length = (rows.map fun r => 2 ^ (r.length + 1)).foldr (· * ·) 1
  | [] => rfl
  | r :: rs => by
    have e : ∀ l : List (List Nat), (l.flatMap fun s => (univ rs).map (s :: ·)).length = l.length * (univ rs).length := fun l => by
      induction l with
      | nil => simp
      | cons a l ih => rw [List.flatMap_cons, List.length_append, List.length_map, ih, List.length_cons, Nat.add_mul, Nat.one_mul, Nat.add_comm]
    show ((allSubs (List.range (r.length + 1))).flatMap fun s => (univ rs).map (s :: ·)).length = 2 ^ (r.length + 1) * _
    rw [e, allSubs_length, List.length_range, univ_length rs]
theorem univ_le {p q : List Pt} (hp : p.length ≤ 3) (hq : q.length ≤ 3) : (univ [p, q]).length ≤ 256 := by
  rw [univ_length]
  show 2 ^ (p.length + 1) * (2 ^ (q.length + 1) * 1) ≤ 256
  have h : ∀ n, n ≤ 3 → 2 ^ (n + 1) ≤ 16 := by decide
  have := Nat.mul_le_mul (h _ hp) (h _ hq)
  rw [Nat.mul_one]; exact this
end
section
open PySem PySem.W PyProof.Rows PySem.Calls
/-- what stays while a frame runs -/
structure Cx where
  prog : Program
  w : World
  A : Around
  s : Shared
  b : Heap
  L : Addr
noncomputable abbrev Mp := List (Str × Value)
noncomputable abbrev Nw := List (Addr × Obj)
noncomputable abbrev Cx.st (c : Cx) (h : Heap) (tk : Nat) : Shared := { c.s with heap := h, toks := tk }
/-- the frame's names m and the made objects nw, in the heap h -/
structure In (c : Cx) (m : Mp) (nw : Nw) (h : Heap) : Prop where
  F : Fr c.b c.L h (fun x => m.lookup x)
  N : News c.b c.L h nw
/-- from names m and objects nw the tree ends in Q, whatever the tokens -/
noncomputable def P {α : Type} (c : Cx) (t : Sem α) (Q : α → Mp → Nw → Prop) (m : Mp) (nw : Nw) : Prop :=
  ∀ h tk, In c m nw h → wpAny (model c.prog c.w) c.A t (fun v s' => ∃ h' tk' m' nw', s' = c.st h' tk' ∧ In c m' nw' h' ∧ Q v m' nw') (fun _ _ => False) (c.st h tk)

section
variable {α β : Type} {c : Cx} {m : Mp} {nw : Nw} {E : Value → Shared → Prop}
theorem P.seq {t : Sem α} {Q : α → Mp → Nw → Prop} {K : α → Shared → Prop} {h : Heap} {tk : Nat} (H : P c t Q m nw) (I : In c m nw h)
    (k : ∀ v m' nw' h' tk', Q v m' nw' → In c m' nw' h' → K v (c.st h' tk')) : wpAny (model c.prog c.w) c.A t K E (c.st h tk) :=
  wpAny_mono (H h tk I) (fun v s' ⟨h', tk', m', nw', e, I', q⟩ => e ▸ k v m' nw' h' tk' q I') fun _ _ x => x.elim
theorem pMono {t : Sem α} {Q Q' : α → Mp → Nw → Prop} (H : P c t Q m nw) (k : ∀ v m' nw', Q v m' nw' → Q' v m' nw') : P c t Q' m nw :=
  fun _ _ I => H.seq I fun v m' nw' _ _ q I' => ⟨_, _, m', nw', rfl, I', k v m' nw' q⟩
theorem pPure {v : α} {Q : α → Mp → Nw → Prop} (q : Q v m nw) : P c (pure v) Q m nw := fun h tk I => wpAny_pure ⟨h, tk, m, nw, rfl, I, q⟩
theorem pBind {t : Sem α} {f : α → Sem β} {Q : β → Mp → Nw → Prop} (H : P c t (fun v m' nw' => P c (f v) Q m' nw') m nw) : P c (t >>= f) Q m nw :=
  fun _ _ I => wpAny_bind (H.seq I fun _ _ _ h' tk' q I' => q h' tk' I')
/-- names may be forgotten or told in another order -/
theorem pNw {t : Sem α} {Q : α → Mp → Nw → Prop} {nw' : Nw} (H : P c t Q m nw') (hs : ∀ p ∈ nw', p ∈ nw) : P c t Q m nw := fun h tk I => H h tk ⟨I.F, fun p hp => I.N p (hs p hp)⟩
theorem pMp {t : Sem α} {Q : α → Mp → Nw → Prop} {m' : Mp} (H : P c t Q m' nw) (hs : ∀ x, m'.lookup x = m.lookup x) : P c t Q m nw := fun h tk I => H h tk ⟨by have := I.F; rw [show (fun x => m'.lookup x) = fun x => m.lookup x from funext hs]; exact this, I.N⟩

variable {env : Env} {Q : Value → Mp → Nw → Prop} {QF : Flow → Mp → Nw → Prop} {QU : Unit → Mp → Nw → Prop} {QB : Bool → Mp → Nw → Prop}
theorem pNil (q : QF .next m nw) : P c (execs [] env) QF m nw := pPure q
noncomputable abbrev nxt (c : Cx) (rest : List Stmt) (env : Env) (QF : Flow → Mp → Nw → Prop) (f : Flow) (m : Mp) (nw : Nw) : Prop := match f with
  | .next => P c (execs rest env) QF m nw
  | f => QF f m nw
theorem pCons {st : Stmt} {rest : List Stmt} (H : P c (exec st env) (nxt c rest env QF) m nw) : P c (execs (st :: rest) env) QF m nw :=
  fun _ _ I => wpAny_execs_cons (H.seq I fun f _ _ h' tk' q I' => by
    cases f with
    | next => exact q h' tk' I'
    | _ => exact ⟨_, _, _, _, rfl, I', q⟩)
theorem pAssign {x : Str} {pos' pos : Pos} {value : Expr} (H : P c (eval value env) (fun v m' nw' => P c (storeName env x v) (fun _ => QF .next) m' nw') m nw) (hs : swapsWith value (some (.Name x pos')) pos.line env = pure false := by rfl) :
    P c (exec (.Assign [.Name x pos'] value pos) env) QF m nw :=
  fun _ _ I => wpAny_Assign_Name (H.seq I fun _ _ _ _ _ q I' => q.seq I' fun _ _ _ _ _ q I' => ⟨_, _, _, _, rfl, I', q⟩) hs
theorem pAssignSub {o i value : Expr} {pos' pos : Pos} (H : P c (eval value env) (fun v m1 n1 => P c (eval o env) (fun ov m2 n2 => P c (eval i env) (fun iv m3 n3 => P c (setItem ov iv v) (fun _ => QF .next) m3 n3) m2 n2) m1 n1) m nw)
    (hs : swapsWith value (some (.Subscript o i pos')) pos.line env = pure false := by rfl) : P c (exec (.Assign [.Subscript o i pos'] value pos) env) QF m nw :=
  fun _ _ I => wpAny_Assign_Subscript (H.seq I fun _ _ _ _ _ q I => q.seq I fun _ _ _ _ _ q I => q.seq I fun _ _ _ _ _ q I => q.seq I fun _ _ _ _ _ q I => ⟨_, _, _, _, rfl, I, q⟩) hs
theorem pReturn {e : Expr} {pos : Pos} (H : P c (eval e env) (fun v => QF (.ret v)) m nw) : P c (exec (.Return (some e) pos) env) QF m nw :=
  fun _ _ I => wpAny_Return_some (H.seq I fun _ _ _ _ _ q I => ⟨_, _, _, _, rfl, I, q⟩)
theorem pBreak {pos : Pos} (q : QF .brk m nw) : P c (exec (.Break pos) env) QF m nw := fun _ _ I => wpAny_Break ⟨_, _, _, _, rfl, I, q⟩
theorem pCont {pos : Pos} (q : QF .cont m nw) : P c (exec (.Continue pos) env) QF m nw := fun _ _ I => wpAny_Continue ⟨_, _, _, _, rfl, I, q⟩
theorem pIf {test : Expr} {body orelse : List Stmt} {pos : Pos} (H : P c (isTrue test env (eval test env)) (fun b m' nw' => if b then P c (execs body env) QF m' nw' else P c (execs orelse env) QF m' nw') m nw) : P c (exec (.If test body orelse pos) env) QF m nw :=
  fun _ _ I => wpAny_If (H.seq I fun b _ _ _ _ q I => by cases b <;> exact q _ _ I)
theorem pIntC {i : Int} {k : Nat} {pos : Pos} (q : ∀ t, Q (.int i t) m nw) : P c (eval (.Constant (.int i) k pos) env) Q m nw := fun _ _ I => wpAny_Constant_int ⟨_, _, _, _, rfl, I, q _⟩
theorem pStrC {x : Str} {k : Nat} {pos : Pos} (q : ∀ t, Q (.str x t) m nw) : P c (eval (.Constant (.str x) k pos) env) Q m nw := fun _ _ I => wpAny_Constant_str ⟨_, _, _, _, rfl, I, q _⟩
theorem pNoneC {k : Nat} {pos : Pos} (q : Q .none m nw) : P c (eval (.Constant .none k pos) env) Q m nw := fun _ _ I => wpAny_Constant_none ⟨_, _, _, _, rfl, I, q⟩
theorem pBin {l r : Expr} {op : Operator} {pos : Pos} (H : P c (eval l env) (fun a m1 n1 => P c (eval r env) (fun b m2 n2 => P c (binaryOp op a b) Q m2 n2) m1 n1) m nw) : P c (eval (.BinOp l op r pos) env) Q m nw :=
  fun _ _ I => wpAny_BinOp (H.seq I fun _ _ _ _ _ q I => q.seq I fun _ _ _ _ _ q I => q _ _ I)
theorem pCmp {l r : Expr} {op : CmpOp} {pos : Pos} (H : P c (eval l env) (fun a m1 n1 => P c (eval r env) (fun b m2 n2 => P c (compareOp op a b) Q m2 n2) m1 n1) m nw) (hm : behindInMarks op r = false := by rfl) : P c (eval (.Compare l [op] [r] pos) env) Q m nw :=
  fun _ _ I => wpAny_Compare1 (H.seq I fun _ _ _ _ _ q I => q.seq I fun _ _ _ _ _ q I => q _ _ I) hm
theorem pIsCmp {l r : Expr} {op : CmpOp} {pos : Pos} {whole : Sem Value} (H : P c (eval l env) (fun a m1 n1 => P c (eval r env) (fun b m2 n2 => P c (compareOp op a b) (fun v m3 n3 => P c (truthy v) QB m3 n3) m2 n2) m1 n1) m nw) (hm : behindInMarks op r = false := by rfl) :
    P c (isTrue (.Compare l [op] [r] pos) env whole) QB m nw :=
  fun _ _ I => wpAny_isTrue_Compare1 (H.seq I fun _ _ _ _ _ q I => q.seq I fun _ _ _ _ _ q I => q.seq I fun _ _ _ _ _ q I => q _ _ I) hm
theorem pSub {v sl : Expr} {pos : Pos} (H : P c (eval v env) (fun ov m1 n1 => P c (eval sl env) (fun iv m2 n2 => P c (subscriptTail v sl ov iv) Q m2 n2) m1 n1) m nw) : P c (eval (.Subscript v sl pos) env) Q m nw :=
  fun _ _ I => Subscript_ (H.seq I fun _ _ _ _ _ q I => q.seq I fun _ _ _ _ _ q I => q _ _ I)
theorem pTrue {b : Bool} (q : QB b m nw) : P c (truthy (.bool b)) QB m nw := fun _ _ I => wpAny_truthy_bool ⟨_, _, _, _, rfl, I, q⟩
theorem pLt {i j : Int} {t u : Tok} (q : Q (.bool (decide (i < j))) m nw) : P c (compareOp .Lt (.int i t) (.int j u)) Q m nw := fun _ _ I => lt_int ⟨_, _, _, _, rfl, I, q⟩
theorem pGt {i j : Int} {t u : Tok} (q : Q (.bool (decide (i > j))) m nw) : P c (compareOp .Gt (.int i t) (.int j u)) Q m nw := fun _ _ I => gt_int ⟨_, _, _, _, rfl, I, q⟩
theorem pAdd {i j : Int} {t u : Tok} (q : ∀ t, Q (.int (i + j) t) m nw) : P c (binaryOp .Add (.int i t) (.int j u)) Q m nw := fun _ _ I => add_int ⟨_, _, _, _, rfl, I, q _⟩
theorem pSubI {i j : Int} {t u : Tok} (q : ∀ t, Q (.int (i - j) t) m nw) : P c (binaryOp .Sub (.int i t) (.int j u)) Q m nw := fun _ _ I => sub_int ⟨_, _, _, _, rfl, I, q _⟩
end

section
variable {c : Cx} {m : Mp} {nw : Nw} {name : Str} {scope : Scope} {a : Addr} {cd : Value} {Q : Value → Mp → Nw → Prop} {QF : Flow → Mp → Nw → Prop} {QU : Unit → Mp → Nw → Prop} {QB : Bool → Mp → Nw → Prop}
theorem pName {x : Str} {pos : Pos} {v : Value} (hv : m.lookup x = some v) (q : Q v m nw) (hk : scope.kind = .function := by rfl) (hl : (envOf name scope c.L a cd).kindOf x = some .local := by rfl)
    (hd : (x == ("__debug__" : Str)) = false := by decide) : P c (eval (.Name x pos) (envOf name scope c.L a cd)) Q m nw := fun _ _ I => ld I.F hv ⟨_, _, _, _, rfl, I, q⟩ hk hl hd
theorem cons_lookup {m : Mp} {x : Str} {v : Value} : (fun y => List.lookup y ((x, v) :: m)) = fun y => if y = x then some v else m.lookup y := by
  funext y
  rw [List.lookup_cons]
  by_cases h : y = x
  · rw [if_pos h, h, beq_self_eq_true]
  · rw [if_neg h, show (y == x) = false from by simpa using h]
theorem pStore {x : Str} {v : Value} (q : QU () ((x, v) :: m) nw) (hk : scope.kind = .function := by rfl) (hl : (envOf name scope c.L a cd).kindOf x = some .local := by rfl) : P c (storeName (envOf name scope c.L a cd) x v) QU m nw :=
  fun _ _ I => stN I.F I.N (fun h' F N => ⟨h', _, _, nw, rfl, ⟨by rw [cons_lookup]; exact F, N⟩, q⟩) hk hl
/-- a while by what holds ahead of each turn; k goes down -/
noncomputable abbrev turnQ (I : Nat → Mp → Nw → Prop) (n : Nat) (QF : Flow → Mp → Nw → Prop) (f : Flow) (m : Mp) (nw : Nw) : Prop := match f with
  | .next => ∃ k, k < n ∧ I k m nw
  | .cont => ∃ k, k < n ∧ I k m nw
  | .brk => QF .next m nw
  | .ret v => QF (.ret v) m nw
theorem pWhile {test : Expr} {body : List Stmt} {env : Env} {pos : Pos} (I : Nat → Mp → Nw → Prop) (n : Nat) (h0 : I n m nw)
    (turn : ∀ n m nw, I n m nw → P c (isTrue test env (eval test env)) (fun b m1 n1 => if b then P c (execs body env) (turnQ I n QF) m1 n1 else QF .next m1 n1) m nw) :
    P c (exec (.While test body [] pos) env) QF m nw := fun h tk J => by
  refine wpAny_While (codeAny_whileLoop (fun n s' => ∃ h' tk' m' nw', s' = c.st h' tk' ∧ In c m' nw' h' ∧ I n m' nw') (fun n s' hs => ?_) n ⟨h, tk, m, nw, rfl, J, h0⟩)
  obtain ⟨h1, tk1, m1, n1, rfl, J1, hI⟩ := hs
  refine (turn n m1 n1 hI).seq J1 fun b m2 n2 h2 tk2 q J2 => ?_
  cases b with
  | false =>
    simp only [Bool.false_eq_true, if_false] at q ⊢
    exact wpAny_execs_nil ⟨_, _, _, _, rfl, J2, q⟩
  | true =>
    simp only [if_true] at q ⊢
    refine q.seq J2 fun f m3 n3 h3 tk3 q J3 => ?_
    cases f with
    | next => obtain ⟨k, hk, z⟩ := q; exact ⟨k, hk, h3, tk3, m3, n3, rfl, J3, z⟩
    | cont => obtain ⟨k, hk, z⟩ := q; exact ⟨k, hk, h3, tk3, m3, n3, rfl, J3, z⟩
    | brk => exact ⟨_, _, _, _, rfl, J3, q⟩
    | ret v => exact ⟨_, _, _, _, rfl, J3, q⟩
end

/-- what a def's end hands on -/
noncomputable def endQ (c : Cx) (R : Result → Shared → Prop) (f : Flow) (m : Mp) (nw : Nw) : Prop := ∀ h tk, In c m nw h → R (.ok (.ret (match f with | .ret v => v | _ => .none))) (c.st h tk)
/-- a call of the i-th def; H: the list that it turns in place -/
theorem pEnterH {prog : Program} {w : World} {A : Around} {R : Result → Shared → Prop} {s : Shared} {a H : Addr} {o : Obj} {i n : Nat} {args : List Value} {binds : List (Str × Value)} (X : FnAt s.heap a i) (hl : s.heap.NoLimit) (r : Rm A (n + 1)) (hH : s.heap.get? H = some o)
    (hbind : ∀ pm cd doc, bindArgs (docDef (nameOf (stAt i)) (prmOf (stAt i)) (bodOf (stAt i)) (scpOf (stAt i)) pm cd doc) ⟨args, []⟩ = pure binds)
    (hloc : ∀ x ∈ binds, (scpOf (stAt i)).names.lookup x.1 = some .local)
    (h : ∀ cd A', Rm A' n → P ⟨prog, w, A', s, s.heap.hide H, s.heap.objs.size⟩ (execs (bodOf (stAt i)) (envOf (nameOf (stAt i)) (scpOf (stAt i)) s.heap.objs.size a cd)) (endQ ⟨prog, w, A', s, s.heap.hide H, s.heap.objs.size⟩ R) binds.reverse [(H, o)])
    (hco : (scpOf (stAt i)).isCoroutine = false := by rfl) (hgen : (scpOf (stAt i)).isGenerator = false := by rfl) (hk : (scpOf (stAt i)).kind = .function := by rfl)
    (hcell : ∀ x ∈ (scpOf (stAt i)).names, x.2 ≠ .cell := by decide) : codeAny (model prog w) A (.call (.ref a) ⟨args, []⟩) R s :=
  enterFn X hl r hbind hloc (fun h₁ cd F => by
    obtain ⟨F', N'⟩ := frH F hH
    exact (h cd _ r.deeper).seq (c := ⟨prog, w, _, s, s.heap.hide H, s.heap.objs.size⟩) ⟨F', N'⟩ fun f m' nw' h' tk' q I => q h' tk' I) hco hgen hk hcell
theorem pEnter {prog : Program} {w : World} {A : Around} {R : Result → Shared → Prop} {s : Shared} {a : Addr} {i n : Nat} {args : List Value} {binds : List (Str × Value)} (X : FnAt s.heap a i) (hl : s.heap.NoLimit) (r : Rm A (n + 1))
    (hbind : ∀ pm cd doc, bindArgs (docDef (nameOf (stAt i)) (prmOf (stAt i)) (bodOf (stAt i)) (scpOf (stAt i)) pm cd doc) ⟨args, []⟩ = pure binds)
    (hloc : ∀ x ∈ binds, (scpOf (stAt i)).names.lookup x.1 = some .local)
    (h : ∀ cd A', Rm A' n → P ⟨prog, w, A', s, s.heap, s.heap.objs.size⟩ (execs (bodOf (stAt i)) (envOf (nameOf (stAt i)) (scpOf (stAt i)) s.heap.objs.size a cd)) (endQ ⟨prog, w, A', s, s.heap, s.heap.objs.size⟩ R) binds.reverse [])
    (hco : (scpOf (stAt i)).isCoroutine = false := by rfl) (hgen : (scpOf (stAt i)).isGenerator = false := by rfl) (hk : (scpOf (stAt i)).kind = .function := by rfl)
    (hcell : ∀ x ∈ (scpOf (stAt i)).names, x.2 ≠ .cell := by decide) : codeAny (model prog w) A (.call (.ref a) ⟨args, []⟩) R s :=
  enterFn X hl r hbind hloc (fun h₁ cd F => (h cd _ r.deeper).seq (c := ⟨prog, w, _, s, s.heap, s.heap.objs.size⟩) ⟨F, News.nil⟩ fun f m' nw' h' tk' q I => q h' tk' I) hco hgen hk hcell
end
section
open PySem PySem.W PyProof.Rows PySem.Calls
/-- the order of two keys, asked by `<`, from any heap that keeps h₀ but the list at H -/
noncomputable def CmpOk (prog : Program) (w : World) (H : Addr) (h₀ : Heap) (ka : Nat → Addr) (lt : Nat → Nat → Bool) (dom : Nat → Prop) : Prop :=
  ∀ (A : Around) (s : Shared) (Q E : Value → Shared → Prop) (i j : Nat), Rm A 10 → dom i → dom j → (∀ b o, b ≠ H → h₀.get? b = some o → s.heap.get? b = some o) →
    (∀ h' tk', (∀ b o, s.heap.get? b = some o → h'.get? b = some o) → Q (.bool (lt i j)) { s with heap := h', toks := tk' }) →
    wpAny (model prog w) A (compareOp .Lt (.ref (ka i)) (.ref (ka j))) Q E s
noncomputable def keys (ka : Nat → Addr) (hs : List Nat) : List Value := hs.map fun i => .ref (ka i)
theorem keys_get {ka : Nat → Addr} {hs : List Nat} {i : Nat} (hi : i < hs.length) : (keys ka hs)[i]? = some (.ref (ka (at0 hs i))) := by
  unfold keys; rw [List.getElem?_map, at0_get _ _ hi]; simp [hi]
theorem keys_set {ka : Nat → Addr} {hs : List Nat} {i j : Nat} : (keys ka hs).set i (.ref (ka j)) = keys ka (hs.set i j) := by
  unfold keys; rw [List.map_set]
theorem keys_length {ka : Nat → Addr} {hs : List Nat} : (keys ka hs).length = hs.length := List.length_map ..
noncomputable def keyL (ka : Nat → Addr) (hs : List Nat) (n : Nat) : Obj := W.listOf (keys ka hs).toArray n

theorem listSet (its : List Value) (n k : Nat) (v : Value) : Obj.mapSeq (·.setIfInBounds k v) (W.listOf its.toArray n) = W.listOf (its.set k v).toArray n := by
  show Obj.mk _ _ (Data.seq (its.toArray.setIfInBounds k v) (if (its.toArray.setIfInBounds k v).size == its.toArray.size then n else n + 1)) _ = _
  have e1 : its.toArray.setIfInBounds k v = (its.set k v).toArray := by simp
  rw [e1]; simp

section
variable {c : Cx} {m : Mp} {nw : Nw} {Q : Value → Mp → Nw → Prop} {QU : Unit → Mp → Nw → Prop} {H : Addr} {ka : Nat → Addr} {hs : List Nat} {n p : Nat} {t u : Tok} {lt : Nat → Nat → Bool} {dom : Nat → Prop} {h₀ : Heap}
theorem pSetKey {j : Nat} (hne : ∀ q ∈ nw, q.1 ≠ H) (hp : p < hs.length) (hsz : hs.length < 2 ^ 40) (q : QU () m ((H, keyL ka (hs.set p j) n) :: nw)) :
    P c (setItem (.ref H) (.int (p : Int) t) (.ref (ka j))) QU m ((H, keyL ka hs n) :: nw) := fun _ _ I => by
  have hl : (keys ka hs).toArray.size = hs.length := by rw [List.size_toArray, keys_length]
  refine ki_setAt (I.N.get (.head _)) (Int.natCast_nonneg p) (by lia) (by lia) ?_
  obtain ⟨F', N'⟩ := news_upd (pre := []) (post := nw) (o' := keyL ka (hs.set p j) n) I.F I.N (fun _ h => nomatch h) hne ((listSet (keys ka hs) n ((p : Int).toNat) (.ref (ka j))).trans (by rw [Int.toNat_natCast, keys_set]; rfl)) rfl
  exact ⟨_, _, _, _, rfl, ⟨F', N'⟩, q⟩
theorem pGetKey {value slice : Expr} (hp : p < hs.length) (hsz : hs.length < 2 ^ 40) (q : Q (.ref (ka (at0 hs p))) m ((H, keyL ka hs n) :: nw))
    (hs' : subscripted slice false (.ref H) (.int (p : Int) t) = operate [.ref H, .int (p : Int) t] (getItem (.ref H) (.int (p : Int) t)) := by with_unfolding_all rfl) (hg : ∀ r, letTemporaryGo value (.ref H) r = pure () := by intro _; with_unfolding_all rfl) :
    P c (subscriptTail value slice (.ref H) (.int (p : Int) t)) Q m ((H, keyL ka hs n) :: nw) := fun _ _ I =>
  item_listL ⟨_, I.N.get (.head _), rfl, n, rfl⟩ (Int.natCast_nonneg p) (by lia) (by rw [Int.toNat_natCast]; exact keys_get hp) ⟨_, _, _, _, rfl, I, q⟩ hs' hg
theorem pHalf (h0 : 0 < p) (q : ∀ t, Q (.int (((p - 1) / 2 : Nat) : Int) t) m nw) : P c (binaryOp .RShift (.int ((p : Int) - 1) t) (.int 1 u)) Q m nw := fun _ _ I => by
  refine rshift_int (by decide) ?_
  have e : ((p : Int) - 1).fdiv (2 ^ (1 : Int).toNat) = (((p - 1) / 2 : Nat) : Int) := by
    have : ((p : Int) - 1) = ((p - 1 : Nat) : Int) := by lia
    rw [this]
    show Int.fdiv _ 2 = _
    rw [Int.fdiv_eq_ediv_of_nonneg _ (by decide)]; rfl
  rw [e]; exact ⟨_, _, _, _, rfl, I, q _⟩
theorem pLtK {i j : Nat} (C : CmpOk c.prog c.w H h₀ ka lt dom) (r : Rm c.A 10) (hi : dom i) (hj : dom j) (k0 : ∀ b o, b ≠ H → h₀.get? b = some o → c.b.get? b = some o) (q : Q (.bool (lt i j)) m nw) :
    P c (compareOp .Lt (.ref (ka i)) (.ref (ka j))) Q m nw := fun _ _ I =>
  C _ _ _ _ _ _ r hi hj (fun b o hb e => I.F.keep b o (k0 b o hb e)) fun h' tk' kp => ⟨h', tk', m, nw, rfl, ⟨I.F.keeps kp, I.N.keeps kp⟩, q⟩
end

end
section
open PySem PySem.W PyProof.Rows PySem.Calls
section
variable {c : Cx} {m : Mp} {nw : Nw} {env : Env} {Q : Value → Mp → Nw → Prop} {QF : Flow → Mp → Nw → Prop} {QU : Unit → Mp → Nw → Prop} {QB : Bool → Mp → Nw → Prop} {QL : List Value → Mp → Nw → Prop}
theorem pCall {func : Expr} {args : List Expr} {pos : Pos} (H : P c (eval func env) (fun f m1 n1 => P c (callWith pos f [] (backTo pos (starEach args env)) []) Q m1 n1) m nw)
    (he : eval (.Call func args [] pos) env = (do callWith pos (← eval func env) [] (backTo pos (starEach args env)) (backToKw pos (keywordEach [] env))) := by rfl) : P c (eval (.Call func args [] pos) env) Q m nw :=
  fun _ _ I => Call_ (H.seq I fun _ _ _ _ _ q I => q _ _ I) he
theorem pMeth {o : Expr} {name : Str} {apos pos : Pos} {args : List Expr} {pl : Sem Bool} (H : P c (eval o env) (fun ov m1 n1 => P c (getMethod ov name pl) (fun fx m2 n2 => P c (callWith pos fx.1 fx.2 (backTo pos (starEach args env)) []) Q m2 n2) m1 n1) m nw)
    (he : eval (.Call (.Attribute o name apos) args [] pos) env = (do
      let ov ← eval o env
      standAt apos.atName
      let (f, first) ← holding [ov] (getMethod ov name pl)
      callWith pos f first (backTo pos (starEach args env)) []) := by rfl) : P c (eval (.Call (.Attribute o name apos) args [] pos) env) Q m nw :=
  fun _ _ I => MethodCall_ (H.seq I fun _ _ _ _ _ q I => q.seq I fun _ _ _ _ _ q I => q _ _ I) he
theorem pArgs0 {pos : Pos} (q : QL [] m nw) : P c (spliced (backTo pos (starEach [] env))) QL m nw := fun _ _ I => args_nil ⟨_, _, _, _, rfl, I, q⟩
theorem pArgs {e : Expr} {rest : List Expr} {pos : Pos} (H : P c (eval e env) (fun v m1 n1 => P c (spliced (backTo pos (starEach rest env))) (fun vs => QL (v :: vs)) m1 n1) m nw)
    (he : starEach (e :: rest) env = (false, eval e env) :: starEach rest env := by rfl) : P c (spliced (backTo pos (starEach (e :: rest) env))) QL m nw :=
  fun _ _ I => args_cons (H.seq I fun _ _ _ _ _ q I => q _ _ I) he
theorem pWithB {pos : Pos} {id : String} {first : List Value} {e : Expr} {rest : List Expr} (H : P c (spliced (backTo pos (starEach (e :: rest) env))) (fun vs => P c (call (.builtin id) (first ++ vs)) Q) m nw)
    (he : starEach (e :: rest) env = (false, eval e env) :: starEach rest env := by rfl) (hp : (backTo pos (starEach rest env)).any (·.1) = false := by rfl) : P c (callWith pos (.builtin id) first (backTo pos (starEach (e :: rest) env)) []) Q m nw :=
  fun _ _ I => callWith_method1 (H.seq I fun _ _ _ _ _ q I => q _ _ I) he hp
theorem pWithB0 {pos : Pos} {id : String} {first : List Value} (H : P c (call (.builtin id) first) Q m nw) : P c (callWith pos (.builtin id) first (backTo pos (starEach [] env)) []) Q m nw :=
  fun _ _ I => callWith_method0 (H _ _ I)
theorem pWithF {pos : Pos} {f : Addr} {o : Obj} {fd : FuncData} {e : Expr} {rest : List Expr} (ho : c.b.get? f = some o) (hd : o.data = .func fd) (H : P c (spliced (backTo pos (starEach (e :: rest) env))) (fun vs => P c (call (.ref f) vs) Q) m nw)
    (he : starEach (e :: rest) env = (false, eval e env) :: starEach rest env := by rfl) : P c (callWith pos (.ref f) [] (backTo pos (starEach (e :: rest) env)) []) Q m nw :=
  fun _ _ I => callWith_def hd (H.seq I fun _ _ _ _ _ q I => ⟨I.F.keep _ _ ho, q _ _ I⟩) he
theorem pWithG {i : Nat} {pos : Pos} {f : Addr} {e : Expr} {rest : List Expr} (X : FnAt c.b f i) (H : P c (spliced (backTo pos (starEach (e :: rest) env))) (fun vs => P c (call (.ref f) vs) Q) m nw)
    (he : starEach (e :: rest) env = (false, eval e env) :: starEach rest env := by rfl) : P c (callWith pos (.ref f) [] (backTo pos (starEach (e :: rest) env)) []) Q m nw :=
  let ⟨_, _, _, _, h1, h2, _⟩ := X; pWithF h1 h2 H he
theorem pExpr {e : Expr} {pos : Pos} (H : P c (eval e env) (fun v m' nw' => v = .none ∧ QF .next m' nw') m nw) (hi : interactive env = false := by rfl) (hs : swapsWith e none pos.line env = pure false := by rfl) : P c (exec (.Expr e pos) env) QF m nw :=
  fun _ _ I => wpAny_Expr (H.seq I fun v _ _ _ _ q I => by rw [q.1]; exact ⟨_, _, _, _, rfl, I, q.2⟩) hi hs
theorem pCut {st : Stmt} {rest : List Stmt} (R : Mp → Nw → Prop) (H : P c (exec st env) (fun f m' nw' => f = .next ∧ R m' nw') m nw) (k : ∀ m' nw', R m' nw' → P c (execs rest env) QF m' nw') : P c (exec st env) (nxt c rest env QF) m nw :=
  pMono H fun _ m' nw' ⟨e, x⟩ => by subst e; exact k m' nw' x
theorem pIsNot {x : Expr} {pos : Pos} {whole : Sem Value} (H : P c (isTrue x env (eval x env)) (fun b => QB (!b)) m nw) : P c (isTrue (.UnaryOp .Not x pos) env whole) QB m nw :=
  fun _ _ I => wpAny_isTrue_Not (H.seq I fun _ _ _ _ _ q I => ⟨_, _, _, _, rfl, I, q⟩)
theorem pIsBool {op : BoolOp} {vs : List Expr} {pos : Pos} {whole : Sem Value} (H : P c (allTrue op vs env) QB m nw) : P c (isTrue (.BoolOp op vs pos) env whole) QB m nw :=
  fun _ _ I => wpAny_isTrue_BoolOp (H _ _ I)
theorem pAnd0 (q : QB true m nw) : P c (allTrue .And [] env) QB m nw := fun _ _ I => wpAny_allTrue_And_nil ⟨_, _, _, _, rfl, I, q⟩
theorem pAnd {x : Expr} {rest : List Expr} (H : P c (isTrue x env (eval x env)) (fun b m1 n1 => if b then P c (allTrue .And rest env) QB m1 n1 else QB false m1 n1) m nw) : P c (allTrue .And (x :: rest) env) QB m nw :=
  fun _ _ I => wpAny_allTrue_And_cons (H.seq I fun b _ _ _ _ q I => by
    cases b with
    | true => exact q _ _ I
    | false => exact ⟨_, _, _, _, rfl, I, q⟩)
theorem pIsVal {e : Expr} {whole : Sem Value} (H : P c whole (fun v => P c (truthy v) QB) m nw) (he : isTrue e env whole = (do let v ← whole; standAt e.pos; holding [v] (truthy v)) := by rfl) : P c (isTrue e env whole) QB m nw :=
  fun _ _ I => wpAny_isTrue_value (H.seq I fun _ _ _ _ _ q I => q _ _ I) he
theorem pMul {i j : Int} {t u : Tok} (hm : IntMulOk i j) (q : ∀ t, Q (.int (i * j) t) m nw) : P c (binaryOp .Mult (.int i t) (.int j u)) Q m nw := fun _ _ I => PyProof.Rows.mul_int ⟨_, _, _, _, rfl, I, q _⟩ hm
end
section
variable {c : Cx} {m : Mp} {nw : Nw} {name : Str} {scope : Scope} {a : Addr} {cd : Value} {Q : Value → Mp → Nw → Prop} {mg mb : Str → Option Value} {fa : Nat → Addr}
theorem pFn (i : Nat) {x : Str} {pos : Pos} (T : G mg mb fa c.b) (q : Q (.ref (fa i)) m nw) (hi : i ∈ [2, 3, 4, 5, 9, 11, 17, 18, 19, 20, 21, 22, 23] := by decide) (hn : nameOf (stAt i) = x := by rfl)
    (hk : scope.kind = .function := by rfl) (hx : (envOf name scope c.L a cd).kindOf x = some .globalImplicit := by rfl) (hd : (x == ("__debug__" : Str)) = false := by decide) : P c (eval (.Name x pos) (envOf name scope c.L a cd)) Q m nw :=
  fun _ _ I => ldG i I.F T ⟨_, _, _, _, rfl, I, q⟩ hi hn hk hx hd
theorem pBn {x : Str} {v : Value} {pos : Pos} (T : G mg mb fa c.b) (q : Q v m nw) (hv : bootBuiltins x = some v := by rfl) (hf : x ∈ ([Str.ofString "len", "range", "min", "int", "sum", "zip", "iter", "isinstance", "str"] : List Str) := by decide)
    (hn : x ≠ "__name__" := by decide) (hk : scope.kind = .function := by rfl) (hx : (envOf name scope c.L a cd).kindOf x = some .globalImplicit := by rfl) (hd : (x == ("__debug__" : Str)) = false := by decide) :
    P c (eval (.Name x pos) (envOf name scope c.L a cd)) Q m nw := fun _ _ I => ldB I.F T hv ⟨_, _, _, _, rfl, I, q⟩ hf hn hk hx hd
theorem pBnF {x : Str} {id : String} {pos : Pos} (T : G mg mb fa c.b) (q : Q (.builtin id) m nw) (hv : bootBuiltins x = some (.builtin id) := by rfl) (hf : x ∈ ([Str.ofString "len", "range", "min", "int", "sum", "zip", "iter", "isinstance", "str"] : List Str) := by decide)
    (hn : x ≠ "__name__" := by decide) (hk : scope.kind = .function := by rfl) (hx : (envOf name scope c.L a cd).kindOf x = some .globalImplicit := by rfl) (hd : (x == ("__debug__" : Str)) = false := by decide) :
    P c (eval (.Name x pos) (envOf name scope c.L a cd)) Q m nw := pBn T q hv hf hn hk hx hd
theorem pBnT {x : Str} {id : String} {pos : Pos} (T : G mg mb fa c.b) (q : Q (.type id) m nw) (hv : bootBuiltins x = some (.type id) := by rfl) (hf : x ∈ ([Str.ofString "len", "range", "min", "int", "sum", "zip", "iter", "isinstance", "str"] : List Str) := by decide)
    (hn : x ≠ "__name__" := by decide) (hk : scope.kind = .function := by rfl) (hx : (envOf name scope c.L a cd).kindOf x = some .globalImplicit := by rfl) (hd : (x == ("__debug__" : Str)) = false := by decide) :
    P c (eval (.Name x pos) (envOf name scope c.L a cd)) Q m nw := pBn T q hv hf hn hk hx hd
/-- a call that turns the list at H alone -/
theorem inTurn {H : Addr} {o o' : Obj} {h h' : Heap} (I : In c m ((H, o) :: nw) h) (hne : ∀ q ∈ nw, q.1 ≠ H) (k : ∀ b x, b ≠ H → h.get? b = some x → h'.get? b = some x) (hH : h'.get? H = some o') : In c m ((H, o') :: nw) h' := by
  have z := I.N _ (.head _)
  obtain ⟨oL, es, ep, hL, r⟩ := I.F.ns
  refine ⟨⟨⟨oL, es, ep, k _ _ (Ne.symm z.2.1) hL, r⟩, fun b x e => k b x (fun hb => ?_) (I.F.keep b x e), I.F.above⟩, fun p hp => ?_⟩
  · have := z.2.2; subst hb; rw [show c.b.get? _ = none from this] at e; cases e
  · rcases List.mem_cons.mp hp with rfl | hp
    · exact ⟨hH, z.2⟩
    · exact ⟨k _ _ (hne p hp) (I.N p (.tail _ hp)).1, (I.N p (.tail _ hp)).2⟩
/-- a call that keeps the heap -/
theorem inKeep {h h' : Heap} (I : In c m nw h) (k : ∀ b x, h.get? b = some x → h'.get? b = some x) : In c m nw h' := ⟨I.F.keeps k, I.N.keeps k⟩
theorem pLen {H : Addr} {its : Array Value} {n : Nat} (hm : (H, W.listOf its n) ∈ nw) (hf : its.size < 2 ^ 40) (q : ∀ t, Q (.int its.size t) m nw) : P c (call (.builtin "len") [.ref H]) Q m nw :=
  fun _ _ I => len_list (PySem.IsL.isList (n := n) (I.N _ hm).1) (by lia) ⟨_, _, _, _, rfl, I, q _⟩
theorem pLenK {H : Addr} {ka : Nat → Addr} {hs : List Nat} {n : Nat} (hf : hs.length < 2 ^ 30) (q : ∀ t, Q (.int (hs.length : Int) t) m ((H, keyL ka hs n) :: nw)) : P c (call (.builtin "len") [.ref H]) Q m ((H, keyL ka hs n) :: nw) :=
  pLen (.head _) (by rw [List.size_toArray, keys_length]; lia) fun t => by rw [List.size_toArray, keys_length]; exact q t
theorem pAppend {H : Addr} {ka : Nat → Addr} {hs : List Nat} {n x : Nat} (hne : ∀ q ∈ nw, q.1 ≠ H) (hf : hs.length ≤ 2 ^ 20) (q : Q .none m ((H, keyL ka (hs ++ [x]) (n + 1)) :: nw)) : P c (call (.builtin "list.append") [.ref H, .ref (ka x)]) Q m ((H, keyL ka hs n) :: nw) :=
  fun _ _ I => append_at (hsz := by rw [List.size_toArray, keys_length]; exact Nat.le_trans hf (by decide)) (I.N _ (.head _)).1 fun h' hs' hH => ⟨_, _, _, _, rfl, inTurn I hne (fun b o hb e => (hs'.2 b hb).trans e) (by rw [hH]; simp [keyL, keys]), q⟩
theorem pPop {H : Addr} {ka : Nat → Addr} {hs : List Nat} {n x : Nat} (hne : ∀ q ∈ nw, q.1 ≠ H) (hf : hs.length < 2 ^ 20) (q : Q (.ref (ka x)) m ((H, keyL ka hs (n + 1)) :: nw)) : P c (call (.builtin "list.pop") [.ref H]) Q m ((H, keyL ka (hs ++ [x]) n) :: nw) :=
  fun _ _ I => by
    have z := (I.N _ (.head _)).1
    have e1 : (keys ka (hs ++ [x])).toArray.size = hs.length + 1 := by rw [List.size_toArray, keys_length, List.length_append]; rfl
    refine call_meets PySem.F.slot_list_pop ⟨_, z, rfl⟩ PySem.F.entry_list_pop (PySem.F.args_list_pop_1 _) (PySem.MeetsSeq.list_pop_last H _ n (.ref (ka x)) (by rw [e1]; simp [keys]) (by rw [e1]; exact Nat.le_trans hf (by decide))) ⟨z, ?_⟩
    refine ⟨_, _, _, _, rfl, inTurn I hne (fun b o hb e => (Heap.get?_update_ne _ _ _ _ hb).trans e) ?_, q⟩
    have w := PySem.IsL.update z (fun xs => xs.eraseIdxIfInBounds ((keys ka (hs ++ [x])).toArray.size - 1))
    rw [show (keys ka (hs ++ [x])).toArray.eraseIdxIfInBounds ((keys ka (hs ++ [x])).toArray.size - 1) = (keys ka hs).toArray from by
      rw [e1]
      show ((keys ka (hs ++ [x])).toArray).eraseIdxIfInBounds (hs.length + 1 - 1) = _
      have e3 : keys ka (hs ++ [x]) = keys ka hs ++ [.ref (ka x)] := by simp [keys]
      have := kl_erase (keys ka hs) [] (.ref (ka x))
      rw [keys_length, List.append_nil] at this
      rw [e3]; exact this] at w
    rw [w, if_neg (by rw [e1, List.size_toArray, keys_length]; simp)]; rfl
theorem pGetL {H : Addr} {its : Array Value} {n : Nat} {nm : Str} {id : String} {pl : Sem Bool} {QM : Value × List Value → Mp → Nw → Prop} (hm : (H, W.listOf its n) ∈ nw) (slot : Slot "list" nm id) (hty : typeOf (.builtin id) = pure (.type "method_descriptor"))
    (q : QM (.builtin id, [.ref H]) m nw) : P c (getMethod (.ref H) nm pl) QM m nw := fun _ _ I =>
  getMethod_builtin ⟨_, (I.N _ hm).1, rfl⟩ PySem.F.plainAttrs_list slot hty (fun a e => by cases e; exact ⟨_, (I.N _ hm).1, rfl⟩) ⟨_, _, _, _, rfl, I, q⟩
theorem pTruthL {H : Addr} {its : Array Value} {n : Nat} {QB : Bool → Mp → Nw → Prop} (hm : (H, W.listOf its n) ∈ nw) (hf : its.size < 2 ^ 40) (q : QB (its.size != 0) m nw) : P c (truthy (.ref H)) QB m nw := fun _ _ I =>
  wpAny_truthy_list (PySem.IsL.isList (n := n) (I.N _ hm).1) (by lia) ⟨_, _, _, _, rfl, I, q⟩
end
end
section
open PySem PySem.W PyProof.Rows PySem.Calls
/-- a value to be gone through: N turns, the i-th gives a value of Pv i; the addresses av are none of its own -/
noncomputable def ItN (c : Cx) (N : Nat) (Pv : Nat → Value → Prop) (av : List Addr) (xv : Value) (m : Mp) (nw : Nw) : Prop :=
  ∀ h tk (K : Value → Shared → Prop) (E : Value → Shared → Prop), In c m nw h →
    (∀ I wr fp St h' tk', Walks c.prog c.w c.A I fp wr N Pv St → c.L ∉ fp → (∀ b ∈ wr, h.get? b = none) → (∀ i g, St i g → ∀ b ∈ wr, ∃ o, g.get? b = some o) → (∀ a ∈ av, a ∉ fp) → (∀ b ∈ fp, b < h'.objs.size) → (h.objs.size ≤ h'.objs.size) →
      St 0 h' → (∀ b o, h.get? b = some o → h'.get? b = some o) → K (.ref I) (c.st h' tk')) → wpAny (model c.prog c.w) c.A (pyIter xv) K E (c.st h tk)
/-- a turn's end -/
noncomputable def forQ (Iv : Nat → Mp → Nw → Prop) (i : Nat) (ext nw : Nw) (QF : Flow → Mp → Nw → Prop) (f : Flow) (m : Mp) (nw2 : Nw) : Prop :=
  match f with
  | .next => (∀ p ∈ ext, p ∈ nw2) ∧ ∃ nw', (∀ p ∈ nw', p ∈ nw2 ∧ (p ∈ nw ∨ ∀ q ∈ ext, q.1 ≠ p.1)) ∧ Iv (i + 1) m nw'
  | .cont => (∀ p ∈ ext, p ∈ nw2) ∧ ∃ nw', (∀ p ∈ nw', p ∈ nw2 ∧ (p ∈ nw ∨ ∀ q ∈ ext, q.1 ≠ p.1)) ∧ Iv (i + 1) m nw'
  | .brk => QF .next m nw2
  | .ret v => QF (.ret v) m nw2
/-- what lies at the iterator's addresses -/
noncomputable def extOf (b h : Heap) (fp : List Addr) : Nw := fp.filterMap fun a => match b.get? a, h.get? a with
  | none, some o => some (a, o)
  | _, _ => none
theorem mem_extOf {b h : Heap} {fp : List Addr} {p : Addr × Obj} : p ∈ extOf b h fp ↔ p.1 ∈ fp ∧ b.get? p.1 = none ∧ h.get? p.1 = some p.2 := by
  unfold extOf
  rw [List.mem_filterMap]
  constructor
  · rintro ⟨a, ha, e⟩
    split at e
    · rename_i h1 h2; cases e; exact ⟨ha, h1, h2⟩
    · cases e
  · rintro ⟨h1, h2, h3⟩
    refine ⟨p.1, h1, ?_⟩
    rw [h2, h3]
section
variable {c : Cx} {m : Mp} {nw : Nw} {env : Env} {QF : Flow → Mp → Nw → Prop}
theorem inExt {fp : List Addr} {h : Heap} (I : In c m nw h) (hL : c.L ∉ fp) : In c m (extOf c.b h fp ++ nw) h :=
  ⟨I.F, fun p hp => (List.mem_append.mp hp).elim (fun hp => by
    obtain ⟨h1, h2, h3⟩ := mem_extOf.mp hp
    exact ⟨h3, fun e => hL (e ▸ h1), h2⟩) (I.N p)⟩
theorem stExt {fp : List Addr} {h h' : Heap} {St : Heap → Prop} (frame : ∀ h', (∀ b ∈ fp, ∀ o, h.get? b = some o → h'.get? b = some o) → St h') {m' : Mp} {nw' : Nw} (I : In c m nw h) (I' : In c m' nw' h') (hk : ∀ p ∈ extOf c.b h fp, p ∈ nw') : St h' := by
  refine frame h' fun b hb o e => ?_
  cases q : c.b.get? b with
  | none => exact (I'.N (b, o) (hk _ (mem_extOf.mpr ⟨hb, q, e⟩))).1
  | some o' =>
    have := I.F.keep b o' q
    rw [e] at this; cases this
    exact I'.F.keep b o q
theorem inOff {wr : List Addr} {h h' : Heap} (I : In c m nw h) (hL : c.L ∉ wr) (hb : ∀ b ∈ wr, c.b.get? b = none) (off : ∀ p ∈ nw, p.1 ∉ wr) (k : ∀ b o, b ∉ wr → h.get? b = some o → h'.get? b = some o) : In c m nw h' := by
  obtain ⟨oL, es, ep, hL', r⟩ := I.F.ns
  refine ⟨⟨⟨oL, es, ep, k _ _ hL hL', r⟩, fun b x e => k b x (fun q => by rw [hb b q] at e; cases e) (I.F.keep b x e), I.F.above⟩, fun p hp => ⟨k _ _ (off p hp) (I.N p hp).1, (I.N p hp).2⟩⟩
theorem pForN {x : Str} {px : Pos} {body : List Stmt} {iter : Expr} {pos : Pos} {N : Nat} {Pv : Nat → Value → Prop} {av : List Addr} (Iv : Nat → Mp → Nw → Prop)
    (H : P c (eval iter env) (fun xv m1 n1 => ItN c N Pv av xv m1 n1 ∧ Iv 0 m1 n1) m nw)
    (turn : ∀ i v m nw ext, i < N → Pv i v → Iv i m nw → (∀ a ∈ av, ∀ q ∈ ext, q.1 ≠ a) → P c (storeName env x v) (fun _ => P c (execs body env) (forQ Iv i ext nw QF)) m (ext ++ nw))
    (done : ∀ m nw, Iv N m nw → QF .next m nw) (hs : ∀ x, foldedSetIterable iter env x = pure x := by intro _; rfl) :
    P c (exec (.For (.Name x px) iter body [] pos) env) QF m nw := fun h tk J => by
  refine wpAny_For (H.seq J fun xv m1 n1 h1 tk1 hq J1 => hq.1 h1 tk1 _ _ J1 fun I wr fp St h2 tk2 W hL hwr hex hav _ _ hst k => ?_) hs
  have hb : ∀ b ∈ wr, c.b.get? b = none := fun b q => by
    cases e : c.b.get? b with
    | none => rfl
    | some o => have := J1.F.keep b o e; rw [hwr b q] at this; cases this
  have hLw : c.L ∉ wr := fun q => hL (W.sub _ q)
  refine codeAny_forLoop (fun n s' => ∃ i h tk m nw, s' = c.st h tk ∧ In c m nw h ∧ St i h ∧ Iv i m nw ∧ (∀ p ∈ nw, p.1 ∉ wr) ∧ i ≤ N ∧ n = N - i) ?_ N
    ⟨0, h2, tk2, m1, n1, rfl, inKeep J1 k, hst, hq.2, fun p hp q => (by have := (J1.N p hp).1; rw [show h1.get? p.1 = none from hwr _ q] at this; cases this), Nat.zero_le _, rfl⟩
  rintro n s' ⟨i, h, tk, m, nw, rfl, J, hst, hI, off, hi, rfl⟩
  by_cases hlt : i < N
  · refine W.item i _ _ _ hlt hst fun v h' tk' hv hst' kk => ?_
    have J' : In c m nw h' := inOff J hLw hb off kk
    refine wpAny_assign_Name ((turn i v m nw (extOf c.b h' fp) hlt hv hI (fun a ha q hq e => hav a ha (e ▸ (mem_extOf.mp hq).1))).seq (inExt J' hL) fun _ m3 n3 h3 tk3 q3 J3 => q3.seq J3 fun f m4 n4 h4 tk4 q4 J4 => ?_)
    have fin : forQ Iv i (extOf c.b h' fp) nw QF .next m4 n4 → ∃ k, k < N - i ∧ ∃ i h tk m nw, c.st h4 tk4 = c.st h tk ∧ In c m nw h ∧ St i h ∧ Iv i m nw ∧ (∀ p ∈ nw, p.1 ∉ wr) ∧ i ≤ N ∧ k = N - i := fun z => by
      obtain ⟨z1, nw', z2, z3⟩ := z
      refine ⟨N - (i + 1), by lia, i + 1, h4, tk4, m4, nw', rfl, ⟨J4.F, fun p hp => J4.N p (z2 p hp).1⟩, stExt (fun h'' kk' => W.frame _ _ _ hst' kk') J' J4 z1, z3, fun p hp hw => ?_, hlt, rfl⟩
      rcases (z2 p hp).2 with q | q
      · exact off p q hw
      · obtain ⟨o, ho⟩ := hex _ _ hst' _ hw
        exact q (p.1, o) (mem_extOf.mpr ⟨W.sub _ hw, hb _ hw, ho⟩) rfl
    cases f with
    | next => exact fin q4
    | cont => exact fin q4
    | brk => exact ⟨_, _, _, _, rfl, J4, q4⟩
    | ret v => exact ⟨_, _, _, _, rfl, J4, q4⟩
  · have : i = N := by lia
    subst this
    refine W.done _ _ _ hst fun h' tk' kk => wpAny_execs_nil ⟨_, _, _, _, rfl, inOff J hLw hb off kk, done m nw hI⟩
/-- what lies at a -/
noncomputable def Has (c : Cx) (nw : Nw) (a : Addr) (o : Obj) : Prop := c.b.get? a = some o ∨ (a, o) ∈ nw
theorem Has.get {a : Addr} {o : Obj} {h : Heap} (x : Has c nw a o) (I : In c m nw h) : h.get? a = some o := x.elim (fun e => I.F.keep _ _ e) fun e => (I.N _ e).1
theorem Has.ne {a : Addr} {o : Obj} {h : Heap} (x : Has c nw a o) (I : In c m nw h) : a ≠ c.L := x.elim (fun e => Nat.ne_of_lt (Nat.lt_of_lt_of_le (Heap.lt_size e) I.F.above)) fun e => (I.N _ e).2.1
theorem Has.more {a : Addr} {o : Obj} {nw' : Nw} (x : Has c nw a o) (h : ∀ p ∈ nw, p ∈ nw') : Has c nw' a o := x.imp id fun e => h _ e
theorem itList {a : Addr} {vs : List Value} {n : Nat} {av : List Addr} (hh : c.A.handled = none) (x : Has c nw a (W.listOf vs.toArray n)) (hav : ∀ b ∈ av, b ≠ a ∧ ∃ o, (b, o) ∈ nw) : ItN c vs.length (fun i v => vs[i]? = some v) av (.ref a) m nw := fun h tk K E I k => by
  have hl : h.IsList a vs.toArray := PySem.IsL.isList (n := n) (x.get I)
  have hlt := Heap.lt_size (x.get I)
  have hne : a ≠ h.objs.size := Nat.ne_of_lt hlt
  refine wpAny_pyIter_list hl ?_
  have W : Walks c.prog c.w c.A h.objs.size [h.objs.size, a] [h.objs.size] vs.length (fun i v => vs[i]? = some v) (fun i h' => h'.IsListIter h.objs.size a i ∧ h'.IsList a vs.toArray) := by
    simpa using Walks.list (prog := c.prog) (w := c.w) hh h.objs.size a hne vs.toArray
  refine k h.objs.size [h.objs.size] [h.objs.size, a] _ _ tk W (fun q => ?_) (fun b hb => ?_) (fun i g st b hb => ?_) (fun b hb q => ?_) (fun b q => ?_) (by rw [Heap.size_push]; exact Nat.le_succ _) ⟨⟨_, Heap.get?_push_size _ rfl, rfl, rfl⟩, hl.at fun o e => Heap.get?_push_of_some _ e⟩ (fun b o e => Heap.get?_push_of_some _ e)
  · rcases List.mem_cons.mp q with e | q
    · exact absurd I.F.ns.lt (e ▸ Nat.lt_irrefl _)
    · exact x.ne I (List.mem_singleton.mp q).symm
  · rw [List.mem_singleton.mp hb]
    exact Heap.get?_none_of_le (Nat.le_refl _)
  · rw [List.mem_singleton.mp hb]
    obtain ⟨o, ho, _⟩ := st.1
    exact ⟨o, ho⟩
  · obtain ⟨h1, o, h2⟩ := hav b hb
    rcases List.mem_cons.mp q with e | q
    · have := Heap.lt_size (I.N _ h2).1; rw [show b = h.objs.size from e] at this; exact Nat.lt_irrefl _ this
    · exact h1 (List.mem_singleton.mp q)
  · rw [Heap.size_push]
    rcases List.mem_cons.mp q with e | q
    · exact e ▸ Nat.lt_succ_self _
    · exact (List.mem_singleton.mp q) ▸ Nat.lt_succ_of_lt hlt
end
end
section
open PySem PySem.W PyProof.Rows PySem.Calls
section
variable {c : Cx} {m : Mp} {nw : Nw} {env : Env} {Q : Value → Mp → Nw → Prop} {QF : Flow → Mp → Nw → Prop} {QB : Bool → Mp → Nw → Prop}
theorem pOr0 (q : QB false m nw) : P c (allTrue .Or [] env) QB m nw := fun _ _ I => wpAny_allTrue_Or_nil ⟨_, _, _, _, rfl, I, q⟩
theorem pOr {x : Expr} {rest : List Expr} (H : P c (isTrue x env (eval x env)) (fun b m1 n1 => if b then QB true m1 n1 else P c (allTrue .Or rest env) QB m1 n1) m nw) : P c (allTrue .Or (x :: rest) env) QB m nw :=
  fun _ _ I => wpAny_allTrue_Or_cons (H.seq I fun b _ _ _ _ q I => by
    cases b with
    | true => exact ⟨_, _, _, _, rfl, I, q⟩
    | false => exact q _ _ I)
theorem pIfB {test : Expr} {body orelse : List Stmt} {pos : Pos} (b : Bool) (H : P c (isTrue test env (eval test env)) (fun b' m' nw' => b' = b ∧ m' = m ∧ nw' = nw) m nw) (k : if b then P c (execs body env) QF m nw else P c (execs orelse env) QF m nw) : P c (exec (.If test body orelse pos) env) QF m nw :=
  pIf (pMono H fun b' m' nw' ⟨h1, h2, h3⟩ => by subst h1 h2 h3; exact k)
theorem pIsNone {v : Value} (q : Q (.bool (v == .none)) m nw) : P c (compareOp .Is v .none) Q m nw := fun _ _ I => PySem.is_none ⟨_, _, _, _, rfl, I, q⟩
theorem inPush {h : Heap} {o : Obj} (I : In c m nw h) (ho : o.isFreed = false) : In c m ((h.objs.size, o) :: nw) (h.push o) ∧ ∀ p ∈ nw, p.1 ≠ h.objs.size := by
  have k : ∀ b x, h.get? b = some x → (h.push o).get? b = some x := fun b x e => Heap.get?_push_of_some _ e
  refine ⟨⟨I.F.keeps k, fun p hp => ?_⟩, fun p hp e => absurd (Heap.lt_size (I.N p hp).1) (e ▸ Nat.lt_irrefl _)⟩
  rcases List.mem_cons.mp hp with rfl | hp
  · refine ⟨Heap.get?_push_size _ ho, fun e => absurd I.F.ns.lt (e ▸ Nat.lt_irrefl _), ?_⟩
    cases e : c.b.get? h.objs.size with
    | none => rfl
    | some o' => exact absurd (Heap.lt_size (I.F.keep _ _ e)) (Nat.lt_irrefl _)
  · exact ⟨k _ _ (I.N p hp).1, (I.N p hp).2⟩
theorem pList {elts : List Expr} {pos : Pos} (H : P c (spliced (backTo pos (starEach elts env))) (fun vs m1 n1 => vs.length ≤ 2 ^ 20 ∧ ∀ a, (∀ p ∈ n1, p.1 ≠ a) → Q (.ref a) m1 ((a, W.listOf vs.toArray 0) :: n1)) m nw) : P c (eval (.List elts pos) env) Q m nw :=
  fun _ _ I => wpAny_List (H.seq I fun _ _ _ _ _ q I => ⟨Nat.le_trans q.1 (by decide), by
    obtain ⟨I', f⟩ := inPush (o := W.listOf _ 0) I rfl
    exact ⟨_, _, _, _, rfl, I', q.2 _ f⟩⟩)
theorem pWithT {pos : Pos} {id : String} {e : Expr} {rest : List Expr} (H : P c (spliced (backTo pos (starEach (e :: rest) env))) (fun vs => P c (call (.type id) vs) Q) m nw)
    (he : starEach (e :: rest) env = (false, eval e env) :: starEach rest env := by rfl) (hp : (backTo pos (starEach rest env)).any (·.1) = false := by rfl) : P c (callWith pos (.type id) [] (backTo pos (starEach (e :: rest) env)) []) Q m nw :=
  fun _ _ I => callWith_type1 (H.seq I fun _ _ _ _ _ q I => q _ _ I) he hp
theorem pRange1 {n : Int} {t : Tok} (q : ∀ a o, (∀ p ∈ nw, p.1 ≠ a) → (∃ t u v, o = { cls := .type "range", data := .fields #[.int 0 t, .int n u, .int 1 v] }) → Q (.ref a) m ((a, o) :: nw)) : P c (call (.type "range") [.int n t]) Q m nw :=
  fun h _ I => call_range_1 (by
    obtain ⟨I', f⟩ := inPush (o := { cls := .type "range", data := .fields #[.int 0 _, .int n _, .int 1 _] }) I rfl
    exact ⟨_, _, _, _, rfl, I', q _ _ f ⟨_, _, _, rfl⟩⟩)
theorem itRange {a : Addr} {o : Obj} {N : Nat} {av : List Addr} (hh : c.A.handled = none) (x : (a, o) ∈ nw) (ho : ∃ t u v, o = { cls := .type "range", data := .fields #[.int 0 t, .int (N : Int) u, .int 1 v] }) (hN : N ≤ 2 ^ 30) (hav : ∀ b ∈ av, ∃ o, (b, o) ∈ nw) :
    ItN c N (fun i v => ∃ t, v = .int (i : Int) t) av (.ref a) m nw := fun h tk K E I k => by
  obtain ⟨t, u, v, rfl⟩ := ho
  refine wpAny_pyIter_range (I.N _ x).1 (small_one (by decide) (by decide) (by lia) (by lia)) ?_
  have W : Walks c.prog c.w c.A h.objs.size [h.objs.size] [h.objs.size] N (fun i v => ∃ t, v = .int (i : Int) t) (fun i g => IsRangeIter g h.objs.size (0 + ((i : Nat) : Int) * 1) ((N : Int) - (i : Nat)) 1) := by
    have := Walks.range (prog := c.prog) (w := c.w) hh h.objs.size 0 1 N
    simpa using this
  refine k _ _ _ _ _ _ W (fun q => ?_) (fun b hb => ?_) (fun i g st b hb => ?_) (fun b hb q => ?_) (fun b q => ?_) (by rw [Heap.size_push]; exact Nat.le_succ _) ?_ (fun b o e => Heap.get?_push_of_some _ e)
  · exact absurd I.F.ns.lt (List.mem_singleton.mp q ▸ Nat.lt_irrefl _)
  · rw [List.mem_singleton.mp hb]; exact Heap.get?_none_of_le (Nat.le_refl _)
  · rw [List.mem_singleton.mp hb]; exact ⟨_, st⟩
  · obtain ⟨o, h2⟩ := hav b hb
    exact absurd (Heap.lt_size (I.N _ h2).1) (by rw [show b = h.objs.size from List.mem_singleton.mp q]; exact Nat.lt_irrefl _)
  · rw [Heap.size_push, List.mem_singleton.mp q]; exact Nat.lt_succ_self _
  · have e1 : (0 + ((0 : Nat) : Int) * 1) = 0 := by simp
    have e2 : Builtin.Range.rangeSize 0 (N : Int) 1 = (N : Int) - ((0 : Nat) : Int) := by rw [rangeSize_one]; split <;> lia
    show IsRangeIter _ _ _ _ _
    rw [e1, ← e2]
    exact Heap.get?_push_size _ rfl
theorem itStr {s : Str} {t : Tok} {av : List Addr} (hh : c.A.handled = none) (ha : s.cps.all (· < 128) = true) (hav : ∀ b ∈ av, ∃ o, (b, o) ∈ nw) : ItN c s.cps.size (SignAt s) av (.str s t) m nw := fun h tk K E I k => by
  refine wpAny_pyIter_ascii ha ?_
  refine k _ _ _ _ _ _ (Walks.strAscii hh h.objs.size s t) (fun q => ?_) (fun b hb => ?_) (fun i g st b hb => ?_) (fun b hb q => ?_) (fun b q => ?_) (by rw [Heap.size_push]; exact Nat.le_succ _) ⟨_, Heap.get?_push_size _ rfl, rfl, rfl⟩ (fun b o e => Heap.get?_push_of_some _ e)
  · exact absurd I.F.ns.lt (List.mem_singleton.mp q ▸ Nat.lt_irrefl _)
  · rw [List.mem_singleton.mp hb]; exact Heap.get?_none_of_le (Nat.le_refl _)
  · rw [List.mem_singleton.mp hb]; obtain ⟨o, ho, _⟩ := st; exact ⟨o, ho⟩
  · obtain ⟨o, h2⟩ := hav b hb
    exact absurd (Heap.lt_size (I.N _ h2).1) (by rw [show b = h.objs.size from List.mem_singleton.mp q]; exact Nat.lt_irrefl _)
  · rw [Heap.size_push, List.mem_singleton.mp q]; exact Nat.lt_succ_self _
theorem pIn {a : Addr} {vs : List Value} {n : Nat} {x : Value} (e : Value → Bool) (he : ∀ y ∈ vs, MeetsSeq.EqGives y x (e y)) (hl : Has c nw a (W.listOf vs.toArray n)) (q : Q (.bool (vs.any e)) m nw) : P c (compareOp .In x (.ref a)) Q m nw := fun _ _ I =>
  SeqInW.in_listW e (fun y hy => he y (by simpa using hy)) (PySem.IsL.isList (n := n) (hl.get I)) (by rw [← Array.any_toList]; exact ⟨_, _, _, _, rfl, I, q⟩)
theorem pGet {value slice : Expr} {a : Addr} {vs : List Value} {n p : Nat} {t : Tok} {x : Value} (hl : Has c nw a (W.listOf vs.toArray n)) (hx : vs[p]? = some x) (hp : p < 2 ^ 40) (q : Q x m nw)
    (hs' : subscripted slice false (.ref a) (.int (p : Int) t) = operate [.ref a, .int (p : Int) t] (getItem (.ref a) (.int (p : Int) t)) := by with_unfolding_all rfl) (hg : ∀ r, letTemporaryGo value (.ref a) r = pure () := by intro _; with_unfolding_all rfl) :
    P c (subscriptTail value slice (.ref a) (.int (p : Int) t)) Q m nw := fun _ _ I =>
  item_listL (PySem.IsL.isList (n := n) (hl.get I)) (Int.natCast_nonneg p) (by lia) (by rw [Int.toNat_natCast]; exact hx) ⟨_, _, _, _, rfl, I, q⟩ hs' hg
theorem pAddL {a b : Addr} {vs ws : List Value} {n k : Nat} (hl : Has c nw a (W.listOf vs.toArray n)) (hb : Has c nw b (W.listOf ws.toArray k)) (hz : vs.length + ws.length ≤ 2 ^ 20) (q : ∀ d, (∀ p ∈ nw, p.1 ≠ d) → Q (.ref d) m ((d, W.listOf (vs ++ ws).toArray 0) :: nw)) :
    P c (binaryOp .Add (.ref a) (.ref b)) Q m nw := fun _ _ I =>
  PySem.P.add_list (n := n) (n2 := k) (hl.get I) (hb.get I) (by
    obtain ⟨I', f⟩ := inPush (o := W.listOf (vs ++ ws).toArray 0) I rfl
    refine ⟨_, _, _, _, rfl, ?_, q _ f⟩
    simpa using I') (by simpa using Nat.le_trans hz (by decide))
theorem pLenL {a : Addr} {vs : List Value} {n : Nat} (hl : Has c nw a (W.listOf vs.toArray n)) (hf : vs.length < 2 ^ 40) (q : ∀ t, Q (.int (vs.length : Int) t) m nw) : P c (call (.builtin "len") [.ref a]) Q m nw :=
  fun _ _ I => len_list (PySem.IsL.isList (n := n) (hl.get I)) (by simpa using Int.lt_of_lt_of_le (Int.ofNat_lt.mpr hf) (by decide)) ⟨_, _, _, _, rfl, I, by simpa using q _⟩
end
/-- the values of ks -/
noncomputable def IA (vs : List Value) (ks : List Nat) : Prop := IntsAre vs (ks.map fun k : Nat => (k : Int))
theorem IA.length {vs ks} (h : IA vs ks) : vs.length = ks.length := by have := IntsAre.length h; simpa using this
theorem IA.eq {vs : List Value} {ks : List Nat} (h : IA vs ks) (k : Nat) (t : Tok) : ∀ y ∈ vs, MeetsSeq.EqGives y (.int (k : Int) t) (isInt (k : Int) y) := eq_isInt _ t h
theorem IA.any {vs : List Value} {ks : List Nat} (h : IA vs ks) (k : Nat) : vs.any (isInt (k : Int)) = decide (k ∈ ks) := by
  rw [any_isInt _ h, List.any_map]
  rw [Bool.eq_iff_iff]
  simp
  constructor
  · rintro ⟨x, hx, e⟩
    have : x = k := Int.ofNat.inj e
    exact this ▸ hx
  · exact fun h => ⟨k, h, rfl⟩
/-- a part's value -/
noncomputable def PtV : Pt → Value → Prop
  | .star, v => v = .none
  | .any, v => ∃ t, v = .str "any" t
  | .sg a, v => ∃ t, v = .str ⟨#[a]⟩ t
theorem PtV.isNone {p : Pt} {v : Value} (h : PtV p v) : (v == Value.none) = decide (p = .star) := by
  cases p with
  | star => rw [show v = .none from h]; rfl
  | any => obtain ⟨t, rfl⟩ := h; rfl
  | sg a => obtain ⟨t, rfl⟩ := h; rfl
structure RowA (vs : List Value) (row : List Pt) : Prop where
  len : vs.length = row.length
  at' : ∀ (k : Nat) (v : Value), vs[k]? = some v → ∃ p, row[k]? = some p ∧ PtV p v
theorem RowA.get {vs : List Value} {row : List Pt} (h : RowA vs row) {k : Nat} (hk : k < row.length) : ∃ v, vs[k]? = some v ∧ PtV row[k] v := by
  have hk' : k < vs.length := h.len ▸ hk
  obtain ⟨p, h1, h2⟩ := h.at' k vs[k] (List.getElem?_eq_getElem hk')
  rw [List.getElem?_eq_getElem hk] at h1
  exact ⟨vs[k], List.getElem?_eq_getElem hk', Option.some.inj h1 ▸ h2⟩
end
section
open PySem PySem.W PyProof.Rows PySem.Calls
/-- names stored one behind the other -/
noncomputable def stores (M : Model) (A : Around) (env : Env) (E : Value → Shared → Prop) : List Str → List Value → (Shared → Prop) → Shared → Prop
  | x :: xs, v :: vs, K, s => wpAny M A (storeName env x v) (fun _ s' => stores M A env E xs vs K s') E s
  | _, _, K, s => K s
/-- an iterator that gives N turns of values for the names of a target -/
structure Tk (prog : Program) (w : World) (A : Around) (I : Addr) (tgt : Expr) (xs : List Str) (fp wr : List Addr) (N : Nat) (Pv : Nat → List Value → Prop) (St : Nat → Heap → Prop) : Prop where
  sub : ∀ b ∈ wr, b ∈ fp
  frame : ∀ i h h', St i h → (∀ b ∈ fp, ∀ o, h.get? b = some o → h'.get? b = some o) → St i h'
  ex : ∀ i h, St i h → ∀ b ∈ wr, ∃ o, h.get? b = some o
  item : ∀ env i (s : Shared) (K : Shared → Prop) (E : Value → Shared → Prop), i < N → St i s.heap →
    (∀ vals h' tk', Pv i vals → St (i + 1) h' → (∀ b o, b ∉ wr → s.heap.get? b = some o → h'.get? b = some o) → stores (model prog w) A env E xs vals K { s with heap := h', toks := tk' }) →
    wpAny (model prog w) A (pyNext (.ref I)) (fun r s₁ => ∃ v, r = some v ∧ wpAny (model prog w) A (letOwnedTupleGo tgt (.ref I) v) (fun _ s₂ => wpAny (model prog w) A (assign tgt env v) (fun _ s₃ => K s₃) E s₂) E s₁) E s
  done : ∀ (s : Shared) (Q : Option Value → Shared → Prop) (E : Value → Shared → Prop), St N s.heap → (∀ h' tk, (∀ b o, b ∉ wr → s.heap.get? b = some o → h'.get? b = some o) → Q none { s with heap := h', toks := tk }) → wpAny (model prog w) A (pyNext (.ref I)) Q E s
  self : ∀ i (s : Shared) (Q : Value → Shared → Prop) (E : Value → Shared → Prop), St i s.heap → Q (.ref I) s → wpAny (model prog w) A (pyIter (.ref I)) Q E s
theorem Tk.name {prog : Program} {w : World} {A : Around} {I : Addr} {fp wr : List Addr} {N : Nat} {Pv : Nat → Value → Prop} {St : Nat → Heap → Prop} (x : Str) (px : Pos) (W : Walks prog w A I fp wr N Pv St) (hex : ∀ i h, St i h → ∀ b ∈ wr, ∃ o, h.get? b = some o) :
    Tk prog w A I (.Name x px) [x] fp wr N (fun i vals => ∃ v, vals = [v] ∧ Pv i v) St where
  sub := W.sub
  frame := W.frame
  ex := hex
  item := fun env i s K E hi st h => W.item i s _ _ hi st fun v h' tk' hv st' k => ⟨v, rfl, wpAny_pure (wpAny_assign_Name (h [v] h' tk' ⟨v, rfl, hv⟩ st' k))⟩
  done := W.done
  self := W.self
theorem assign_two {prog : Program} {w : World} {A : Around} {env : Env} {E : Value → Shared → Prop} {s : Shared} {K : Shared → Prop} {x y : Str} {px py : Pos} {v u : Value} (h : stores (model prog w) A env E [x, y] [v, u] K s) :
    wpAny (model prog w) A (assignInOrder ((assignEach [.Name x px, .Name y py] env).map (·.2)) [v, u]) (fun _ s => K s) E s := by
  show wpAny (model prog w) A (assignInOrder [assign (.Name x px) env, assign (.Name y py) env] [v, u]) _ E s
  exact PyProof.Rows.assignInOrder_cons (wpAny_assign_Name (wpAny_mono h (fun _ s' h' => PyProof.Rows.assignInOrder_cons (wpAny_assign_Name (wpAny_mono h' (fun _ s'' h'' => PyProof.Rows.assignInOrder_nil h'') fun _ _ e => e))) fun _ _ e => e))
theorem Tk.pairU {prog : Program} {w : World} {A : Around} {I : Addr} {fp wr : List Addr} {N : Nat} {Pt : Nat → Array Value → Prop} {St : Nat → Heap → Prop} {Mid : Nat → Addr → Heap → Prop} (x y : Str) (px py pt : Pos) (k : Nat) (hh : A.handled = none) (W : WalksU prog w A I fp wr N Pt St Mid)
    (hex : ∀ i h, St i h → ∀ b ∈ fp, ∃ o, h.get? b = some o) (hT : ∀ i T h, Mid i T h → T ∉ wr) (h2 : ∀ i vals, Pt i vals → ∃ v u, vals = #[v, u]) :
    Tk prog w A I (.Tuple [.Name x px, .Name y py] k pt) [x, y] fp wr N (fun i vals => Pt i vals.toArray) St where
  sub := W.sub
  frame := W.frame
  ex := fun i h st b hb => hex i h st b (W.sub b hb)
  item := fun env i s K E hi st h => W.item i s _ _ hi st fun T vals h' tk' hv ht hm kk => ⟨.ref T, rfl, W.go _ _ _ i T _ _ _ hm fun h2' st' k2 => by
    obtain ⟨v, u, rfl⟩ := h2 i _ hv
    have ht2 : h2'.IsTuple T #[v, u] := by obtain ⟨o, ho, r⟩ := ht; exact ⟨o, k2 _ _ (hT _ _ _ hm) ho, r⟩
    refine wpAny_assign_Tuple hh ht2 rfl rfl fun h3 e3 => assign_two ?_
    have k3 : ∀ b o, h2'.get? b = some o → h3.get? b = some o := fun b o e => e3 b o (Nat.ne_of_lt (Heap.lt_size e)) e
    exact h [v, u] h3 _ hv (W.frame _ _ _ st' fun b hb o e => k3 b o e) fun b o hb e => k3 b o (k2 b o hb (kk b o hb e))⟩
  done := W.done
  self := W.self

/-- a value to be gone through for a target -/
noncomputable def ItT (c : Cx) (tgt : Expr) (xs : List Str) (N : Nat) (Pv : Nat → List Value → Prop) (av : List Addr) (xv : Value) (m : Mp) (nw : Nw) : Prop :=
  ∀ h tk (K : Value → Shared → Prop) (E : Value → Shared → Prop), In c m nw h →
    (∀ I wr fp St h' tk', Tk c.prog c.w c.A I tgt xs fp wr N Pv St → c.L ∉ fp → (∀ b ∈ wr, h.get? b = none) → (∀ a ∈ av, a ∉ fp) → (∀ b ∈ fp, b < h'.objs.size) → (h.objs.size ≤ h'.objs.size) →
      St 0 h' → (∀ b o, h.get? b = some o → h'.get? b = some o) → K (.ref I) (c.st h' tk')) → wpAny (model c.prog c.w) c.A (pyIter xv) K E (c.st h tk)
theorem ItN.toT {c : Cx} {N : Nat} {Pv : Nat → Value → Prop} {av : List Addr} {xv : Value} {m : Mp} {nw : Nw} (x : Str) (px : Pos) (h : ItN c N Pv av xv m nw) : ItT c (.Name x px) [x] N (fun i vals => ∃ v, vals = [v] ∧ Pv i v) av xv m nw :=
  fun g tk K E I k => h g tk K E I fun J wr fp St h' tk' W hL hwr hex hav hlt hz st kk => k J wr fp St h' tk' (Tk.name x px W hex) hL hwr hav hlt hz st kk

section
variable {prog : Program} {w : World} {A : Around} {R : Result → Shared → Prop} {s : Shared}
/-- a turn behind its target's store -/
noncomputable def compK (prog : Program) (w : World) (A : Around) (ifs : List Expr) (elt : Expr) (env : Env) (acc : Value) (J : Shared → Prop) (E : Value → Shared → Prop) (s₂ : Shared) : Prop :=
  wpAny (model prog w) A (forIn ifs true fun c r => if r = true then do let ok ← isTrue c env (eval c env); pure (ForInStep.yield ok) else pure (ForInStep.yield r)) (fun ok s₃ =>
    if ok = true then wpAny (model prog w) A (eval elt env) (fun x s₄ => wpAny (model prog w) A (call (.builtin "list.append") [acc, x]) (fun _ s₅ => J s₅) E s₄) E s₃ else J s₃) E s₂
theorem codeAny_compLoop_any {elt target iter : Expr} {ifs : List Expr} {scope : Scope} {pos : Pos} {it acc : Value} {env : Env} (I : Nat → Shared → Prop)
    (turn : ∀ n s (E : Value → Shared → Prop), I n s → wpAny (model prog w) A (pyNext it) (fun r s₁ => match r with
      | none => R (.ok .next) s₁
      | some v => wpAny (model prog w) A (letOwnedTupleGo target it v) (fun _ s₁' => wpAny (model prog w) A (assign target env v) (fun _ s₂ => compK prog w A ifs elt env acc (fun s₅ => ∃ m, m < n ∧ I m s₅) E s₂) E s₁') E s₁) E s)
    (n : Nat) (h : I n s) : codeAny (model prog w) A (.compLoop (.ListComp elt [⟨target, iter, ifs, 0⟩] scope pos) 0 it acc env) R s := by
  refine codeAny_loop rfl I (fun n s hI => ?_) n h
  show wpAny _ A ((compTurn (.ListComp elt [⟨target, iter, ifs, 0⟩] scope pos) 0 it acc env).onRaise (fun x => do noteFrame x env; theTreesLotGoes x)) _ _ s
  refine wpAny_noted ?_
  rw [compTurn_list]
  refine wpAny_bind (wpAny_standAt (wpAny_bind (wpAny_mono (turn n s _ hI) (fun r s₁ h₁ => ?_) fun _ _ h' => h')))
  cases r with
  | none => exact wpAny_pure h₁
  | some v =>
    refine wpAny_bind (wpAny_mono h₁ (fun _ s₁' h₁' => ?_) fun _ _ h' => h')
    refine wpAny_bind (wpAny_mono h₁' (fun _ s₂ h₂ => wpAny_bind (wpAny_mono h₂ (fun ok s₃ h₃ => ?_) fun _ _ h' => h')) fun _ _ h' => h')
    cases ok with
    | false => exact wpAny_pure ⟨rfl, h₃⟩
    | true =>
      exact wpAny_bind (wpAny_bind (wpAny_mono h₃ (fun x s₄ h₄ => wpAny_bind (wpAny_mono h₄ (fun _ s₅ h₅ => wpAny_pure (wpAny_pure ⟨rfl, h₅⟩)) fun _ _ h' => h')) fun _ _ h' => h'))
end
section
variable {c : Cx} {m : Mp} {nw : Nw} {env : Env} {Q : Value → Mp → Nw → Prop}
theorem storesP {xs : List Str} {vals : List Value} {E : Value → Shared → Prop} {K : Shared → Prop} (c : Cx) {env : Env} (hL : env.locals = c.L) (hk : env.scope.kind = .function) (hx : ∀ x ∈ xs, env.kindOf x = some .local) :
    ∀ {m : Mp} {h : Heap} {tk : Nat} {nw : Nw}, In c m nw h → (∀ h' tk', In c ((xs.zip vals).reverse ++ m) nw h' → Heap.SameBut c.L h h' → (xs ≠ [] → vals ≠ [] → 0 < tk') ∧ tk ≤ tk' → K (c.st h' tk')) → stores (model c.prog c.w) c.A env E xs vals K (c.st h tk) := by
  induction xs generalizing vals with
  | nil => intro m h tk nw I k; exact k h tk (by simpa using I) (Heap.SameBut.refl ..) ⟨fun h => absurd rfl h, Nat.le_refl _⟩
  | cons x xs ih =>
    intro m h tk nw I k
    cases vals with
    | nil => exact k h tk (by simpa using I) (Heap.SameBut.refl ..) ⟨fun _ h => absurd rfl h, Nat.le_refl _⟩
    | cons v vals =>
      have hn : (c.st h tk).heap.Ns env.locals (fun y => m.lookup y) := by rw [hL]; exact I.F.ns
      refine wpAny_storeName_local (hx x List.mem_cons_self) hn (fun h' hn' hs => ?_) (by rw [hk]; rfl)
      rw [hL] at hn' hs
      have I' : In c ((x, v) :: m) nw h' := by
        refine ⟨?_, fun p hp => ⟨(hs.2 _ (I.N p hp).2.1).trans (I.N p hp).1, (I.N p hp).2⟩⟩
        rw [cons_lookup]
        exact I.F.set hn' hs
      refine ih (fun y hy => hx y (List.mem_cons_of_mem _ hy)) I' fun h'' tk'' I'' hs' ht => k h'' tk'' ?_ (hs.trans hs') ⟨fun _ _ => Nat.lt_of_lt_of_le (Nat.succ_pos _) ht.2, Nat.le_trans (Nat.le_succ _) ht.2⟩
      simpa using I''
/-- what a list comprehension has made: for each turn that its test let by the value and the objects made for it -/
structure Got (N : Nat) (p : Nat → Bool) (El : Nat → Value → Nw → Prop) (zs : List (Nat × Value × Nw)) : Prop where
  is : zs.map (·.1) = (List.range N).filter p
  el : ∀ z ∈ zs, El z.1 z.2.1 z.2.2
/-- ahead of a comprehension's turn -/
noncomputable def compI (c : Cx) (D : Addr) (St : Nat → Heap → Prop) (wr : List Addr) (N : Nat) (p : Nat → Bool) (El : Nat → Value → Nw → Prop) (n : Nat) (s' : Shared) : Prop :=
  ∃ i h tk m' zs k, s' = c.st h tk ∧ In c m' ((D, W.listOf (zs.map (·.2.1)).toArray k) :: zs.flatMap (·.2.2)) h ∧ St i h ∧ Got i p El zs ∧ (∀ q ∈ zs.flatMap (·.2.2), q.1 ∉ wr) ∧ (∀ q ∈ zs.flatMap (·.2.2), q.1 ≠ D) ∧ i ≤ N ∧ n = N - i
/-- what a comprehension asks of its turns -/
noncomputable def Turns (c : Cx) (cl : List (Str × Addr)) (scope : Scope) (env : Env) (elt : Expr) (ifs : List Expr) (xs : List Str) (N : Nat) (Pv : Nat → List Value → Prop) (p : Nat → Bool) (El : Nat → Value → Nw → Prop) (m1 : Mp) (n1 : Nw) : Prop :=
  ∀ h1 C, In c m1 n1 h1 → ∀ i vals m0 nw', i < N → Pv i vals →
    P { c with b := h1, L := C } (forIn ifs true fun t r => if r = true then do let ok ← isTrue t (compEnvC scope cl C env) (eval t (compEnvC scope cl C env)); pure (ForInStep.yield ok) else pure (ForInStep.yield r))
      (fun ok m2 n2 => (∀ q ∈ nw', q ∈ n2) ∧ ok = p i ∧ (ok = true → P { c with b := h1, L := C } (eval elt (compEnvC scope cl C env))
        (fun y m3 n3 => ∃ mk, (∀ q ∈ nw', q ∈ n3) ∧ (∀ q ∈ mk, q ∈ n3 ∧ ∀ z ∈ nw', z.1 ≠ q.1) ∧ El i y mk) m2 n2)) ((xs.zip vals).reverse ++ m0) nw'
/-- P from states with a token spent, where b says so -/
noncomputable def PT {α : Type} (b : Bool) (c : Cx) (t : Sem α) (Q : α → Mp → Nw → Prop) (m : Mp) (nw : Nw) : Prop :=
  ∀ h tk, (b = true → 0 < tk) → In c m nw h → wpAny (model c.prog c.w) c.A t (fun v s' => ∃ h' tk' m' nw', s' = c.st h' tk' ∧ In c m' nw' h' ∧ Q v m' nw') (fun _ _ => False) (c.st h tk)
theorem PT.seq {α : Type} {b : Bool} {c : Cx} {m : Mp} {nw : Nw} {E : Value → Shared → Prop} {t : Sem α} {Q : α → Mp → Nw → Prop} {K : α → Shared → Prop} {h : Heap} {tk : Nat} (H : PT b c t Q m nw) (hp : b = true → 0 < tk) (I : In c m nw h)
    (k : ∀ v m' nw' h' tk', (b = true → 0 < tk') → Q v m' nw' → In c m' nw' h' → K v (c.st h' tk')) : wpAny (model c.prog c.w) c.A t K E (c.st h tk) := by
  cases b with
  | false => exact wpAny_mono (H h tk hp I) (fun v s' ⟨h', tk', m', nw', e, I', q⟩ => e ▸ k v m' nw' h' tk' (fun h => nomatch h) q I') fun _ _ x => x.elim
  | true =>
    refine wpAny_with_toks (n := 1) (hp rfl) (wpAny_mono (H h tk hp I) (fun v s' ⟨h', tk', m', nw', e, I', q⟩ hl => ?_) fun _ _ x => x.elim)
    subst e
    exact k v m' nw' h' tk' (fun _ => hl) q I'
noncomputable def TurnsT (b : Bool) (c : Cx) (cl : List (Str × Addr)) (scope : Scope) (env : Env) (elt : Expr) (ifs : List Expr) (xs : List Str) (N : Nat) (Pv : Nat → List Value → Prop) (p : Nat → Bool) (El : Nat → Value → Nw → Prop) (m1 : Mp) (n1 : Nw) : Prop :=
  ∀ h1 C, In c m1 n1 h1 → ∀ i vals m0 nw', i < N → Pv i vals →
    PT b { c with b := h1, L := C } (forIn ifs true fun t r => if r = true then do let ok ← isTrue t (compEnvC scope cl C env) (eval t (compEnvC scope cl C env)); pure (ForInStep.yield ok) else pure (ForInStep.yield r))
      (fun ok m2 n2 => (∀ q ∈ nw', q ∈ n2) ∧ ok = p i ∧ (ok = true → PT b { c with b := h1, L := C } (eval elt (compEnvC scope cl C env))
        (fun y m3 n3 => ∃ mk, (∀ q ∈ nw', q ∈ n3) ∧ (∀ q ∈ mk, q ∈ n3 ∧ ∀ z ∈ nw', z.1 ≠ q.1) ∧ El i y mk) m2 n2)) ((xs.zip vals).reverse ++ m0) nw'
theorem Turns.toT {c : Cx} {cl : List (Str × Addr)} {scope : Scope} {env : Env} {elt : Expr} {ifs : List Expr} {xs : List Str} {N : Nat} {Pv : Nat → List Value → Prop} {p : Nat → Bool} {El : Nat → Value → Nw → Prop} {m1 : Mp} {n1 : Nw} (H : Turns c cl scope env elt ifs xs N Pv p El m1 n1) : TurnsT false c cl scope env elt ifs xs N Pv p El m1 n1 :=
  fun h1 C I i vals m0 nw' hi hv h tk _ J => pMono (H h1 C I i vals m0 nw' hi hv) (fun _ _ _ ⟨a, b, d⟩ => ⟨a, b, fun e h tk _ I => d e h tk I⟩) h tk J
/-- what it hands on -/
noncomputable def Ends (N : Nat) (p : Nat → Bool) (El : Nat → Value → Nw → Prop) (m1 : Mp) (n1 : Nw) (Q : Value → Mp → Nw → Prop) : Prop :=
  ∀ D zs n, (∀ q ∈ zs.flatMap (·.2.2) ++ n1, q.1 ≠ D) → (∀ q ∈ zs.flatMap (·.2.2), ∀ z ∈ n1, z.1 ≠ q.1) → Got N p El zs → Q (.ref D) m1 ((D, W.listOf (zs.map (·.2.1)).toArray n) :: (zs.flatMap (·.2.2) ++ n1))
theorem comp_core {b : Bool} {elt tgt iter : Expr} {xs : List Str} {ifs : List Expr} {scope : Scope} {pos : Pos} {cl : List (Str × Addr)} {N : Nat} {Pv : Nat → List Value → Prop} {p : Nat → Bool} {El : Nat → Value → Nw → Prop}
    {I : Addr} {wr fp : List Addr} {St : Nat → Heap → Prop} {h1 h2 : Heap} {tk2 : Nat} {m1 : Mp} {n1 : Nw} {E : Value → Shared → Prop} {RR : Value → Addr → Result → Shared → Prop}
    (Wk : Tk c.prog c.w c.A I tgt xs fp wr N Pv St) (hwr : ∀ b ∈ wr, h1.get? b = none) (hfp : ∀ b ∈ fp, b < h2.objs.size) (hz12 : h1.objs.size ≤ h2.objs.size) (hst : St 0 h2) (k2 : ∀ b o, h1.get? b = some o → h2.get? b = some o)
    (J1 : In c m1 n1 h1) (hturn : TurnsT b c cl scope env elt ifs xs N Pv p El m1 n1) (hbt : b = true → xs ≠ [] ∧ ∀ i vals, Pv i vals → vals ≠ []) (hN : N ≤ 2 ^ 20) (hcell : ∀ y ∈ scope.names, y.2 ≠ .cell) (hkind : scope.kind = .function) (hx : ∀ x ∈ xs, scope.names.lookup x = some .local)
    (fin : ∀ D C h' tk zs k, In c m1 ((D, W.listOf (zs.map (·.2.1)).toArray k) :: (zs.flatMap (·.2.2) ++ n1)) h' → (∃ mC, h'.Ns C mC) → C ≠ c.L → c.b.get? C = none → (∀ q ∈ (D, W.listOf (zs.map (·.2.1)).toArray k) :: (zs.flatMap (·.2.2) ++ n1), q.1 ≠ C) →
      (∀ q ∈ zs.flatMap (·.2.2) ++ n1, q.1 ≠ D) → (∀ q ∈ zs.flatMap (·.2.2), ∀ z ∈ n1, z.1 ≠ q.1) → Got N p El zs → RR (.ref D) C (.ok .next) (c.st h' tk)) :
    wpAny (model c.prog c.w) c.A (newList []) (fun acc s₃ => wpAny (model c.prog c.w) c.A (newFunctionEnv scope env.globals cl [] env.qual none .none (some env)) (fun cenv s₄ =>
      codeAny (model c.prog c.w) c.A (.compStart (.ListComp elt [⟨tgt, iter, ifs, 0⟩] scope pos) 0 (.ref I) acc { cenv with scope := relabel scope env }) (RR acc cenv.locals) s₄) E s₃) E (c.st h2 tk2) := by
  refine wpAny_newObj_type (wpAny_newFunctionEnv hcell (by intro y hy; simp at hy) (fun h₁ hns₁ hsb₁ => ?_) hkind)
  dsimp only at hns₁ hsb₁ ⊢
  generalize hD : h2.objs.size = D at hns₁ hsb₁ ⊢
  generalize hH2 : h2.push { cls := .type "list", dict := none, data := .seq ([] : List Value).toArray } = H2 at hns₁ hsb₁ ⊢
  generalize hC : H2.objs.size = C at hns₁ hsb₁ ⊢
  have hCD : C = D + 1 := by rw [← hC, ← hH2, Heap.size_push, hD]
  have hlt1 : h1.objs.size ≤ D := hD ▸ hz12
  have k1 : ∀ b o, h2.get? b = some o → h₁.get? b = some o := fun b o e => by
    have hb : b < D := hD ▸ Heap.lt_size e
    exact hsb₁.extBut b o (hCD ▸ Nat.ne_of_lt (Nat.lt_succ_of_lt hb)) (Heap.get?_push_of_some _ (hH2 ▸ Heap.get?_push_of_some _ e))
  have hDC : D ≠ C := hCD ▸ Nat.ne_of_lt (Nat.lt_succ_self D)
  have hacc : h₁.get? D = some (W.listOf ([] : List Value).toArray 0) := hsb₁.extBut _ _ hDC (Heap.get?_push_of_some _ (by rw [← hH2, ← hD]; exact Heap.get?_push_size (o := { cls := .type "list", dict := none, data := .seq ([] : List Value).toArray }) _ rfl))
  have hDf : D ∉ fp := fun q => by have := hfp D q; rw [hD] at this; exact Nat.lt_irrefl _ this
  have hCf : C ∉ fp := fun q => by have := hfp C q; rw [hD, hCD] at this; exact absurd this (Nat.not_lt.mpr (Nat.le_succ _))
  have hb : ∀ b ∈ wr, h1.get? b = none := hwr
  have hCw : C ∉ wr := fun q => hCf (Wk.sub _ q)
  have hDw : D ∉ wr := fun q => hDf (Wk.sub _ q)
  have n1D : h1.get? D = none := Heap.get?_none_of_le hlt1
  have J0 : In { c with b := h1, L := C } [] [(D, W.listOf ([] : List Value).toArray 0)] h₁ :=
    ⟨⟨hns₁, fun b o e => k1 b o (k2 b o e), by show h1.objs.size ≤ C; rw [hCD]; exact Nat.le_succ_of_le hlt1⟩, fun q hq => by rw [List.mem_singleton.mp hq]; exact ⟨hacc, hDC, n1D⟩⟩
  have hst0 : St 0 h₁ := Wk.frame _ _ _ hst fun b _ o e => k1 b o e
  have loop : codeAny (model c.prog c.w) c.A (.compLoop (.ListComp elt [⟨tgt, iter, ifs, 0⟩] scope pos) 0 (.ref I) (.ref D) (compEnvC scope cl C env))
      (RR (.ref D) C) (c.st h₁ tk2) := by
    refine codeAny_compLoop_any (compI { c with b := h1, L := C } D St wr N p El) ?_ N
      ⟨0, h₁, tk2, [], [], 0, rfl, J0, hst0, ⟨rfl, fun _ h => nomatch h⟩, (fun _ h => nomatch h), (fun _ h => nomatch h), Nat.zero_le _, rfl⟩
    rintro n s' E' ⟨i, h, tk, m', zs, k, rfl, I', hst', G', off, ne, hi, rfl⟩
    have offD : ∀ q ∈ (D, W.listOf (zs.map (·.2.1)).toArray k) :: zs.flatMap (·.2.2), q.1 ∉ wr := fun q hq => by
      rcases List.mem_cons.mp hq with rfl | hq
      · exact hDw
      · exact off q hq
    by_cases hlt : i < N
    · refine wpAny_mono (Wk.item (compEnvC scope cl C env) i (c.st h tk) (compK c.prog c.w c.A ifs elt (compEnvC scope cl C env) (.ref D) (fun s₅ => ∃ m, m < N - i ∧ compI { c with b := h1, L := C } D St wr N p El m s₅) E') E' hlt hst' fun vals h' tk' hv st' kk => ?_) (fun r s₁ hr => by
        obtain ⟨v, e, hr⟩ := hr
        subst e
        exact hr) fun _ _ e => e
      have J1' : In { c with b := h1, L := C } m' ((D, PySem.W.listOf (zs.map (·.2.1)).toArray k) :: zs.flatMap (·.2.2)) h' := inOff I' hCw hb offD kk
      refine storesP { c with b := h1, L := C } (env := compEnvC scope cl C env) rfl hkind (fun x hx' => lookup_relabel_local (hx x hx')) J1' fun h3 tk3 J3 hs3 ht3 => ?_
      have J4 := inExt J3 hCf
      have st3 : St (i + 1) h3 := Wk.frame _ _ _ st' fun b hb' o e => (hs3.2 b (fun q => hCf (by rw [show b = C from q] at hb'; exact hb'))).trans e
      refine (hturn h1 C J1 i vals m' _ hlt hv).seq (fun e => ht3.1 (hbt e).1 ((hbt e).2 i vals hv)) J4 fun ok m5 n5 h5 tk5 ht5 q5 J5 => ?_
      obtain ⟨q51, rfl, q52⟩ := q5
      have hN1 : N - (i + 1) < N - i := by lia
      have sub5 : ∀ q ∈ (D, PySem.W.listOf (zs.map (·.2.1)).toArray k) :: zs.flatMap (·.2.2), q ∈ n5 := fun q hq => q51 q (List.mem_append_right _ hq)
      cases hp : p i with
      | false =>
        simp only [Bool.false_eq_true, if_false]
        refine ⟨N - (i + 1), hN1, i + 1, h5, tk5, m5, zs, k, rfl, ⟨J5.F, fun q hq => J5.N q (sub5 q hq)⟩, ?_, ⟨?_, G'.el⟩, off, ne, hlt, rfl⟩
        · exact stExt (c := { c with b := h1, L := C }) (fun h'' kk' => Wk.frame _ _ _ st3 kk') J3 J5 fun q hq => q51 q (List.mem_append_left _ hq)
        · rw [List.range_succ, List.filter_append, G'.is]; simp [hp]
      | true =>
        simp only [if_true]
        refine (q52 hp).seq ht5 J5 fun y m6 n6 h6 tk6 _ q6 J6 => ?_
        obtain ⟨mk, r1, r2, r3⟩ := q6
        have hDn : (D, PySem.W.listOf (zs.map (·.2.1)).toArray k) ∈ n6 := r1 _ (List.mem_append_right _ (.head _))
        have hzl : zs.length ≤ N := by
          have := congrArg List.length G'.is
          rw [List.length_map] at this
          rw [this]
          exact Nat.le_trans (List.length_filter_le _ _) (by simpa using Nat.le_of_lt hlt)
        have mkD : ∀ q ∈ mk, q.1 ≠ D := fun q hq e => (r2 q hq).2 _ (List.mem_append_right _ (.head _)) e.symm
        refine append_at (n := k) (its := (zs.map (·.2.1)).toArray) (hsz := by rw [List.size_toArray, List.length_map]; exact Nat.le_trans hzl (Nat.le_trans hN (by decide))) (J6.N _ hDn).1 fun h7 hs7 hD7 => ?_
        have e7 : ((zs ++ [(i, y, mk)]).map (·.2.1)).toArray = (zs.map (·.2.1)).toArray.push y := by simp
        have J7 : In { c with b := h1, L := C } m6 ((D, PySem.W.listOf ((zs ++ [(i, y, mk)]).map (·.2.1)).toArray (k + 1)) :: (zs ++ [(i, y, mk)]).flatMap (·.2.2)) h7 := by
          refine inTurn (c := { c with b := h1, L := C }) (o := PySem.W.listOf (zs.map (·.2.1)).toArray k) (h := h6) ⟨J6.F, fun q hq => ?_⟩ (fun q hq => ?_) (fun b x hb e => (hs7.2 b hb).trans e) (by rw [e7]; exact hD7)
          · rcases List.mem_cons.mp hq with rfl | hq
            · exact J6.N _ hDn
            · rw [List.flatMap_append, List.mem_append] at hq
              rcases hq with hq | hq
              · exact J6.N _ (r1 q (List.mem_append_right _ (.tail _ hq)))
              · exact J6.N _ (r2 q (by simpa using hq)).1
          · rw [List.flatMap_append, List.mem_append] at hq
            rcases hq with hq | hq
            · exact ne q hq
            · exact mkD q (by simpa using hq)
        refine ⟨N - (i + 1), hN1, i + 1, h7, tk6, m6, zs ++ [(i, y, mk)], k + 1, rfl, J7, ?_, ⟨?_, fun z hz => ?_⟩, fun q hq hw => ?_, fun q hq => ?_, hlt, rfl⟩
        · have st6 : St (i + 1) h6 := stExt (c := { c with b := h1, L := C }) (fun h'' kk' => Wk.frame _ _ _ st3 kk') J3 J6 fun q hq => r1 q (List.mem_append_left _ hq)
          exact Wk.frame _ _ _ st6 fun b hb' o e => (hs7.2 b (fun q => hDf (by rw [show b = D from q] at hb'; exact hb'))).trans e
        · rw [List.range_succ, List.filter_append, List.map_append, G'.is]; simp [hp]
        · rcases List.mem_append.mp hz with hz | hz
          · exact G'.el z hz
          · rw [List.mem_singleton.mp hz]; exact r3
        · rw [List.flatMap_append, List.mem_append] at hq
          rcases hq with hq | hq
          · exact off q hq hw
          · obtain ⟨o, ho⟩ := Wk.ex _ _ st3 _ hw
            exact (r2 q (by simpa using hq)).2 (q.1, o) (List.mem_append_left _ (mem_extOf.mpr ⟨Wk.sub _ hw, hb _ hw, ho⟩)) rfl
        · rw [List.flatMap_append, List.mem_append] at hq
          rcases hq with hq | hq
          · exact ne q hq
          · exact mkD q (by simpa using hq)
    · have : i = N := by lia
      subst this
      refine Wk.done _ _ _ hst' fun h' tk' kk => ?_
      have J' : In { c with b := h1, L := C } m' ((D, PySem.W.listOf (zs.map (·.2.1)).toArray k) :: zs.flatMap (·.2.2)) h' := inOff I' hCw hb offD kk
      have kb : ∀ b o, h1.get? b = some o → h'.get? b = some o := J'.F.keep
      obtain ⟨oL, es, ep, hLg, rL⟩ := J1.F.ns
      have new : ∀ q ∈ (D, PySem.W.listOf (zs.map (·.2.1)).toArray k) :: zs.flatMap (·.2.2), h'.get? q.1 = some q.2 ∧ q.1 ≠ c.L ∧ c.b.get? q.1 = none ∧ h1.get? q.1 = none ∧ q.1 ≠ C := fun q hq => by
        have z := J'.N q hq
        have z3 : h1.get? q.1 = none := z.2.2
        refine ⟨z.1, fun e => ?_, ?_, z3, z.2.1⟩
        · rw [e, hLg] at z3; cases z3
        · cases e : c.b.get? q.1 with
          | none => rfl
          | some o => have := J1.F.keep _ o e; rw [z3] at this; cases this
      have ltC : ∀ b o, h1.get? b = some o → b ≠ C := fun b o e => by have := Heap.lt_size e; rw [hCD]; exact Nat.ne_of_lt (Nat.lt_of_lt_of_le this (Nat.le_succ_of_le hlt1))
      refine fin D C h' tk' zs k ⟨⟨⟨oL, es, ep, kb _ _ hLg, rL⟩, fun b o e => kb b o (J1.F.keep b o e), J1.F.above⟩, fun q hq => ?_⟩ ⟨_, J'.F.ns⟩ (ltC _ _ hLg).symm ?_ (fun q hq => ?_) (fun q hq e => ?_) (fun q hq z hz e => ?_) G'
      · rcases List.mem_cons.mp hq with rfl | hq
        · have z := new _ (.head _); exact ⟨z.1, z.2.1, z.2.2.1⟩
        · rcases List.mem_append.mp hq with hq | hq
          · have z := new _ (.tail _ hq); exact ⟨z.1, z.2.1, z.2.2.1⟩
          · have z := J1.N q hq; exact ⟨kb _ _ z.1, z.2⟩
      · cases e : c.b.get? C with
        | none => rfl
        | some o => exact absurd rfl (ltC _ _ (J1.F.keep _ o e))
      · rcases List.mem_cons.mp hq with rfl | hq
        · exact (new _ (.head _)).2.2.2.2
        · rcases List.mem_append.mp hq with hq | hq
          · exact (new _ (.tail _ hq)).2.2.2.2
          · exact ltC _ _ (J1.N q hq).1
      · rcases List.mem_append.mp hq with hq | hq
        · exact ne q hq e
        · have := (J1.N q hq).1; rw [e, n1D] at this; cases this
      · have z1 := (new q (.tail _ hq)).2.2.2.1
        have z2 := (J1.N z hz).1
        rw [e, z1] at z2; cases z2
  exact codeAny_compStart_list loop (Wk.self 0 _ _ _ hst0 loop)
theorem inSame {h h' : Heap} {C : Addr} (I : In c m nw h) (hs : Heap.SameBut C h h') (h1 : C ≠ c.L) (h2 : c.b.get? C = none) (h3 : ∀ q ∈ nw, q.1 ≠ C) : In c m nw h' :=
  inOff (wr := [C]) I (fun q => h1 (List.mem_singleton.mp q).symm) (fun b hb => by rw [List.mem_singleton.mp hb]; exact h2) (fun p hp q => h3 p hp (List.mem_singleton.mp q)) fun b o hb e => (hs.2 b fun q => hb (q ▸ .head _)).trans e
theorem pComp {elt tgt iter : Expr} {xs : List Str} {ifs : List Expr} {scope : Scope} {pos : Pos} {cl : List (Str × Addr)} {N : Nat} {Pv : Nat → List Value → Prop} {p : Nat → Bool} {El : Nat → Value → Nw → Prop}
    (H : P c (eval iter env) (fun xv m1 n1 => ItT c tgt xs N Pv [] xv m1 n1 ∧ Turns c cl scope env elt ifs xs N Pv p El m1 n1 ∧ Ends N p El m1 n1 Q) m nw)
    (hN : N ≤ 2 ^ 20) (hclos : closureFor scope env = pure cl) (hcell : ∀ y ∈ scope.names, y.2 ≠ .cell) (hkind : scope.kind = .function)
    (hnames : ∀ y ∈ scope.names, y.2 = .local → scope.names.lookup y.1 = some .local) (hx : ∀ x ∈ xs, scope.names.lookup x = some .local) (hs : ∀ x, foldedSetIterable iter env x = pure x := by intro _; rfl) :
    P c (eval (.ListComp elt [⟨tgt, iter, ifs, 0⟩] scope pos) env) Q m nw := fun h tk J => by
  rw [eval_ListComp]
  refine wpAny_comprehension_free (use := none) rfl hs hclos hkind hnames (H.seq J fun xv m1 n1 h1 tk1 hq J1 => hq.1 h1 tk1 _ _ J1 fun I wr fp St h2 tk2 Wk hL hwr _ hfp hz12 hst k2 => ?_)
  obtain ⟨_, hturn, hQ⟩ := hq
  refine comp_core (RR := fun acc C => compPost (model c.prog c.w) c.A (fun _ _ => False) none (fun v s' => ∃ h' tk' m' nw', s' = c.st h' tk' ∧ In c m' nw' h' ∧ Q v m' nw') acc C) Wk hwr hfp hz12 hst k2 J1 hturn.toT (fun h => nomatch h) hN hcell hkind hx
    fun D C h' tk zs k I' ⟨mC, hC⟩ c1 c2 c3 d1 d2 G' => ⟨mC, hC, fun h'' hs'' => ⟨h'', _, _, _, rfl, inSame I' hs'' c1 c2 c3, hQ D zs k d1 d2 G'⟩⟩
theorem pAssignComp {elt tgt iter : Expr} {xs : List Str} {ifs : List Expr} {scope : Scope} {pos spos : Pos} {cl : List (Str × Addr)} {N : Nat} {Pv : Nat → List Value → Prop} {p : Nat → Bool} {El : Nat → Value → Nw → Prop} {y : Str} {py : Pos} {QF : Flow → Mp → Nw → Prop}
    (H : P c (eval iter env) (fun xv m1 n1 => ItT c tgt xs N Pv [] xv m1 n1 ∧ Turns c cl scope env elt ifs xs N Pv p El m1 n1 ∧ Ends N p El m1 n1 (fun v m2 n2 => QF .next ((y, v) :: m2) n2)) m nw)
    (hsw : swapsWith (.ListComp elt [⟨tgt, iter, ifs, 0⟩] scope pos) (some (.Name y py)) spos.line env = pure true) (hL : env.locals = c.L) (hy : env.kindOf y = some .local) (hk : env.scope.kind = .function)
    (hN : N ≤ 2 ^ 20) (hclos : closureFor scope env = pure cl) (hcell : ∀ y ∈ scope.names, y.2 ≠ .cell) (hkind : scope.kind = .function)
    (hnames : ∀ y ∈ scope.names, y.2 = .local → scope.names.lookup y.1 = some .local) (hx : ∀ x ∈ xs, scope.names.lookup x = some .local) (hs : ∀ x, foldedSetIterable iter env x = pure x := by intro _; rfl) :
    P c (exec (.Assign [.Name y py] (.ListComp elt [⟨tgt, iter, ifs, 0⟩] scope pos) spos) env) QF m nw := fun h tk J => by
  rw [exec_Assign_Name_used _ _ _ _ hsw]
  refine wpAny_bind (wpAny_standAt (wpAny_bind ?_))
  show wpAny _ c.A (do let _ ← comprehension (.ListComp elt [⟨tgt, iter, ifs, 0⟩] scope pos) scope env _ (newList []) false (eval iter env) (some (assign (.Name y py) env))) _ _ _
  refine wpAny_bind (wpAny_mono (wpAny_comprehension_free (use := some (assign (.Name y py) env)) (Q := fun _ s' => ∃ h' tk' m' nw', s' = c.st h' tk' ∧ In c m' nw' h' ∧ QF .next m' nw') rfl hs hclos hkind hnames
    (H.seq J fun xv m1 n1 h1 tk1 hq J1 => hq.1 h1 tk1 _ _ J1 fun I wr fp St h2 tk2 Wk hL2 hwr _ hfp hz12 hst k2 => ?_)) (fun _ s' hq => wpAny_pure (wpAny_pure hq)) fun _ _ e => e)
  obtain ⟨_, hturn, hQ⟩ := hq
  refine comp_core (RR := fun acc C => compPost (model c.prog c.w) c.A (fun _ _ => False) (some (assign (.Name y py) env)) (fun _ s' => ∃ h' tk' m' nw', s' = c.st h' tk' ∧ In c m' nw' h' ∧ QF .next m' nw') acc C) Wk hwr hfp hz12 hst k2 J1 hturn.toT (fun h => nomatch h) hN hcell hkind hx
    fun D C h' tk zs k I' ⟨mC, hC⟩ c1 c2 c3 d1 d2 G' => ?_
  show wpAny _ c.A (assign (.Name y py) env (.ref D)) _ _ _
  have hn : (c.st h' tk).heap.Ns env.locals (fun y => m1.lookup y) := by rw [hL]; exact I'.F.ns
  refine wpAny_assign_Name (wpAny_storeName_local hy hn (fun h3 hn3 hs3 => ?_) (by rw [hk]; rfl))
  rw [hL] at hn3 hs3
  have I3 : In c ((y, .ref D) :: m1) ((D, PySem.W.listOf (zs.map (·.2.1)).toArray k) :: (zs.flatMap (·.2.2) ++ n1)) h3 := by
    refine ⟨?_, fun p hp => ⟨(hs3.2 _ (I'.N p hp).2.1).trans (I'.N p hp).1, (I'.N p hp).2⟩⟩
    rw [cons_lookup]
    exact I'.F.set hn3 hs3
  exact ⟨mC, hC.sameBut hs3 c1, fun h4 hs4 => ⟨h4, _, _, _, rfl, inSame I3 hs4 c1 c2 c3, hQ D zs k d1 d2 G'⟩⟩
end
end
section
open PySem PySem.W PyProof.Rows PySem.Calls
section
variable {c : Cx} {m : Mp} {nw : Nw} {env : Env} {Q : Value → Mp → Nw → Prop} {QU : Unit → Mp → Nw → Prop} {QB : Bool → Mp → Nw → Prop} {mg mb : Str → Option Value} {fa : Nat → Addr}
theorem pNameE {x : Str} {pos : Pos} {v : Value} (hv : m.lookup x = some v) (q : Q v m nw) (hL : env.locals = c.L := by rfl) (hk : env.scope.kind = .function := by rfl) (hl : env.kindOf x = some .local := by rfl)
    (hd : (x == ("__debug__" : Str)) = false := by decide) : P c (eval (.Name x pos) env) Q m nw := fun h tk I =>
  wpAny_Name (wpAny_loadName_local hk hl (m := fun x => m.lookup x) (by rw [hL]; exact I.F.ns) hv ⟨_, _, _, _, rfl, I, q⟩) hd
theorem pStoreE {x : Str} {v : Value} (q : QU () ((x, v) :: m) nw) (hL : env.locals = c.L := by rfl) (hk : env.scope.kind = .function := by rfl) (hl : env.kindOf x = some .local := by rfl) : P c (storeName env x v) QU m nw := fun h tk I => by
  have hn : (c.st h tk).heap.Ns env.locals (fun y => m.lookup y) := by rw [hL]; exact I.F.ns
  refine wpAny_storeName_local hl hn (fun h' hn' hs => ?_) (by rw [hk]; rfl)
  rw [hL] at hn' hs
  refine ⟨h', _, _, nw, rfl, ⟨?_, fun p hp => ⟨(hs.2 _ (I.N p hp).2.1).trans (I.N p hp).1, (I.N p hp).2⟩⟩, q⟩
  rw [cons_lookup]
  exact I.F.set hn' hs
theorem pFnE (i : Nat) {x : Str} {pos : Pos} (T : G mg mb fa c.b) (q : Q (.ref (fa i)) m nw) (hi : i ∈ [2, 3, 4, 5, 9, 11, 17, 18, 19, 20, 21, 22, 23] := by decide) (hn : nameOf (stAt i) = x := by rfl) (hg : env.globals = mainGlobals := by rfl)
    (hk : env.scope.kind = .function := by rfl) (hx : env.kindOf x = some .globalImplicit := by rfl) (hd : (x == ("__debug__" : Str)) = false := by decide) : P c (eval (.Name x pos) env) Q m nw := fun h tk I =>
  Name_function_global hk hx (loadGlobal_global (mg := mg) (by rw [hg]; exact T.g.keeps I.F.keep) (hn ▸ (T.fn i hi).1) ⟨_, _, _, _, rfl, I, q⟩) hd
theorem pBnE {x : Str} {v : Value} {pos : Pos} (T : G mg mb fa c.b) (q : Q v m nw) (hv : bootBuiltins x = some v) (hf : x ∈ ([Str.ofString "len", "range", "min", "int", "sum", "zip", "iter", "isinstance", "str"] : List Str))
    (hn : x ≠ "__name__") (hg : env.globals = mainGlobals) (hbn : env.builtins = builtinsNs) (hk : env.scope.kind = .function) (hx : env.kindOf x = some .globalImplicit) (hd : (x == ("__debug__" : Str)) = false) :
    P c (eval (.Name x pos) env) Q m nw := fun h tk I =>
  Name_function_global hk hx (loadGlobal_builtin (mg := mg) (mb := mb) (by rw [hg]; exact T.g.keeps I.F.keep) (T.free x hf) (by rw [hbn]; exact T.b.keeps I.F.keep) ((T.bb x hn).trans hv) ⟨_, _, _, _, rfl, I, q⟩) hd
theorem pBnFE {x : Str} {id : String} {pos : Pos} (T : G mg mb fa c.b) (q : Q (.builtin id) m nw) (hv : bootBuiltins x = some (.builtin id) := by rfl) (hf : x ∈ ([Str.ofString "len", "range", "min", "int", "sum", "zip", "iter", "isinstance", "str"] : List Str) := by decide)
    (hn : x ≠ "__name__" := by decide) (hg : env.globals = mainGlobals := by rfl) (hbn : env.builtins = builtinsNs := by rfl) (hk : env.scope.kind = .function := by rfl) (hx : env.kindOf x = some .globalImplicit := by rfl) (hd : (x == ("__debug__" : Str)) = false := by decide) :
    P c (eval (.Name x pos) env) Q m nw := pBnE T q hv hf hn hg hbn hk hx hd
theorem pBnTE {x : Str} {id : String} {pos : Pos} (T : G mg mb fa c.b) (q : Q (.type id) m nw) (hv : bootBuiltins x = some (.type id) := by rfl) (hf : x ∈ ([Str.ofString "len", "range", "min", "int", "sum", "zip", "iter", "isinstance", "str"] : List Str) := by decide)
    (hn : x ≠ "__name__" := by decide) (hg : env.globals = mainGlobals := by rfl) (hbn : env.builtins = builtinsNs := by rfl) (hk : env.scope.kind = .function := by rfl) (hx : env.kindOf x = some .globalImplicit := by rfl) (hd : (x == ("__debug__" : Str)) = false := by decide) :
    P c (eval (.Name x pos) env) Q m nw := pBnE T q hv hf hn hg hbn hk hx hd
/-- a cell with its value -/
noncomputable def CellA (c : Cx) (nw : Nw) (a : Addr) (v : Value) : Prop := ∃ o, Has c nw a o ∧ o.data = .cell (some v)
theorem pCellE {x : Str} {pos : Pos} {v : Value} {a : Addr} (hc : env.cells.lookup x = some a) (hv : CellA c nw a v) (q : Q v m nw) (hk : env.scope.kind = .function := by rfl) (hl : env.kindOf x = some .cell := by rfl)
    (hd : (x == ("__debug__" : Str)) = false := by decide) : P c (eval (.Name x pos) env) Q m nw := fun h tk I => by
  obtain ⟨o, ho, hd'⟩ := hv
  exact wpAny_Name (wpAny_loadName_cell hk hl hc ⟨o, ho.get I, hd'⟩ ⟨_, _, _, _, rfl, I, q⟩) hd
theorem pTests0 {env : Env} (q : QB true m nw) : P c (forIn ([] : List Expr) true fun t r => if r = true then do let ok ← isTrue t env (eval t env); pure (ForInStep.yield ok) else pure (ForInStep.yield r)) QB m nw := fun _ _ I => wpAny_tests_nil ⟨_, _, _, _, rfl, I, q⟩
theorem pTests1 {env : Env} {t : Expr} (H : P c (isTrue t env (eval t env)) QB m nw) : P c (forIn [t] true fun t r => if r = true then do let ok ← isTrue t env (eval t env); pure (ForInStep.yield ok) else pure (ForInStep.yield r)) QB m nw := fun _ _ I => wpAny_tests_one (H _ _ I)
theorem pIfExp {test body orelse : Expr} {pos : Pos} (H : P c (isTrue test env (eval test env)) (fun b m1 n1 => if b then P c (eval body env) Q m1 n1 else P c (eval orelse env) Q m1 n1) m nw) : P c (eval (.IfExp test body orelse pos) env) Q m nw :=
  fun _ _ I => wpAny_IfExp (H.seq I fun b _ _ _ _ q I => by cases b <;> exact q _ _ I)
end
/-- a call of the i-th def that keeps cells -/
theorem pEnterC {prog : Program} {w : World} {A : Around} {R : Result → Shared → Prop} {s : Shared} {a : Addr} {i n : Nat} {args : List Value} {binds : List (Str × Value)} {mp : Mp} (X : FnAt s.heap a i) (hl : s.heap.NoLimit) (r : Rm A (n + 1))
    (hbind : ∀ pm cd doc, bindArgs (docDef (nameOf (stAt i)) (prmOf (stAt i)) (bodOf (stAt i)) (scpOf (stAt i)) pm cd doc) ⟨args, []⟩ = pure binds)
    (hkind : ∀ n, ∀ x ∈ binds, (scpOf (stAt i)).names.lookup x.1 = some .local ∨ ((scpOf (stAt i)).names.lookup x.1 = some .cell ∧ ((cellsFrom n (scpOf (stAt i)).names []).lookup x.1).isSome = true))
    (hnd : ((cellsFrom 0 (scpOf (stAt i)).names []).map (·.1)).Nodup)
    (hm : ∀ L cd, bindL (envOfC (nameOf (stAt i)) (scpOf (stAt i)) L a cd).kindOf binds (fun _ => none) = fun x => mp.lookup x)
    (h : ∀ cd A' cells, Rm A' n → CellsAre (bindC (envOfC (nameOf (stAt i)) (scpOf (stAt i)) s.heap.objs.size a cd).kindOf binds fun _ => none) (cellsFrom (s.heap.objs.size + 1) (scpOf (stAt i)).names []) cells →
      P ⟨prog, w, A', s, s.heap, s.heap.objs.size⟩ (execs (bodOf (stAt i)) (envOfC (nameOf (stAt i)) (scpOf (stAt i)) s.heap.objs.size a cd)) (endQ ⟨prog, w, A', s, s.heap, s.heap.objs.size⟩ R) mp cells)
    (hco : (scpOf (stAt i)).isCoroutine = false := by rfl) (hgen : (scpOf (stAt i)).isGenerator = false := by rfl) (hk : (scpOf (stAt i)).kind = .function := by rfl) : codeAny (model prog w) A (.call (.ref a) ⟨args, []⟩) R s := by
  obtain ⟨o, pm, cd, doc, h1, h2, h3⟩ := X
  refine call_cellsN_ret r.room h1 h2 hl h3 (hbind pm cd doc) (hkind _) hnd (fun h₁ tk cells F N Y => ?_) hco hgen hk
  rw [hm] at F
  exact (h cd _ cells r.deeper Y).seq (c := ⟨prog, w, _, s, s.heap, s.heap.objs.size⟩) ⟨F, N⟩ fun f m' nw' h' tk' q I => q h' tk' I
end
section
open PySem PySem.W PyProof.Rows PySem.Calls
section
open PySem.SeqAt PySem.MeetsSeq PySem.MeetsSeq3
/-- `<` and `>` of two values -/
noncomputable def OrdAt (A : Around) (s : Shared) (op : CmpOp) (y x : Value) (b : Bool) : Prop :=
  ∀ (prog : Program) (w : World) (E : Value → Shared → Prop) (Q : Value → Shared → Prop), Q (.bool b) s → wpAny (model prog w) A (richCompare op y x) Q E s
/-- the first place where they part decides -/
noncomputable def lexN (e r : Nat → Bool) : Nat → Nat → Bool
  | 0, _ => false
  | k + 1, i => if e i then lexN e r k (i + 1) else r i
theorem lt_loopAt (l b : Addr) (items items2 : Array Value) (n n2 : Nat) (hsz : items.size = items2.size) (e r : Nat → Bool) (op : CmpOp) (code : Int) (hop : (op = .Lt ∧ code = 0) ∨ (op = .Gt ∧ code = 4)) (k : Nat) :
    ∀ i : Nat, items.size - i = k → Meets (Builtin.«list.__eq__.loop» ⟨[.ref l, .ref b, rawInt i, rawInt code], []⟩)
      (fun A R s => s.heap.get? l = some (W.listOf items n) ∧ s.heap.get? b = some (W.listOf items2 n2) ∧
        (∀ j (h1 : j < items.size) (h2 : j < items2.size), EqAt A.in1 s items[j] items2[j] (e j)) ∧ (∀ j (h1 : j < items.size) (h2 : j < items2.size), OrdAt A.in1 s op items[j] items2[j] (r j)) ∧
        R (.ok (.ret (.bool (lexN e r k i)))) s) := by
  induction k with
  | zero =>
    intro i hk prog w A R s h
    obtain ⟨hp, g, d, tk, os⟩ := s; obtain ⟨hl, hb, he, hr, h⟩ := h
    have hi1 : items[((i : Nat) : Int).toNat]? = none := by simp; lia
    have hi2 : items2[((i : Nat) : Int).toNat]? = none := by simp; lia
    rcases hop with ⟨rfl, rfl⟩ | ⟨rfl, rfl⟩
    · wp_walk using wpAny_loadPart' hl, wpAny_loadPart' hb
      rw [hi1, hi2]
      wp_walk using wpAny_loadPart' hl, wpAny_loadPart' hb
      show R (.ok (.ret (.bool (decide (items.size < items2.size))))) _
      rw [hsz]
      simpa [lexN] using h
    · wp_walk using wpAny_loadPart' hl, wpAny_loadPart' hb
      rw [hi1, hi2]
      wp_walk using wpAny_loadPart' hl, wpAny_loadPart' hb
      show R (.ok (.ret (.bool (decide (items.size > items2.size))))) _
      rw [hsz]
      simpa [lexN] using h
  | succ k ih =>
    intro i hk prog w A R s h
    obtain ⟨hp, g, d, tk, os⟩ := s; obtain ⟨hl, hb, he, hr, h⟩ := h
    have hlt : i < items.size := by lia
    have hlt2 : i < items2.size := by lia
    have hi1 : items[((i : Nat) : Int).toNat]? = some items[i] := by simp [hlt]
    have hi2 : items2[((i : Nat) : Int).toNat]? = some items2[i] := by simp [hlt2]
    have hc : ((i : Int) + 1) = ((i + 1 : Nat) : Int) := by push_cast; rfl
    have go : ∀ (h : R (.ok (.ret (.bool (lexN e r k (i + 1))))) ⟨hp, g, d, tk, os⟩), codeAny (model prog w) A (.builtin "list.__eq__.loop" ⟨[.ref l, .ref b, rawInt ((i : Int) + 1), rawInt code], []⟩) R ⟨hp, g, d, tk, os⟩ := fun h => by
      rw [hc]
      exact codeAny_builtin entry_eq_loop (by
        rw [Around.under_plainId plain_eq_loop _]
        exact ih (i + 1) (by lia) prog w A R _ ⟨hl, hb, he, hr, h⟩)
    rcases hop with ⟨rfl, rfl⟩ | ⟨rfl, rfl⟩
    all_goals
      wp_walk using wpAny_loadPart' hl, wpAny_loadPart' hb
      rw [hi1, hi2]
      refine wpAny_bind (he i hlt hlt2 prog w _ _ ?_)
      cases hb' : e i with
      | true =>
        have h' : R (.ok (.ret (.bool (lexN e r k (i + 1))))) ⟨hp, g, d, tk, os⟩ := by simpa [lexN, hb'] using h
        wp_walk
        exact ⟨plainId_quiet plain_eq_loop _, go h'⟩
      | false =>
        have h' : R (.ok (.ret (.bool (r i)))) ⟨hp, g, d, tk, os⟩ := by simpa [lexN, hb'] using h
        wp_walk using wpAny_loadPart' hl, wpAny_loadPart' hb
        rw [hi1, hi2]
        have hr' : ∀ {E : Value → Shared → Prop} {Q : Value → Shared → Prop}, Q (.bool (r i)) ⟨hp, g, d, tk, os⟩ → wpAny (model prog w) A.in1 (richCompare _ items[i] items2[i]) Q E ⟨hp, g, d, tk, os⟩ := fun h => hr i hlt hlt2 prog w _ _ h
        wp_walk using hr'
        exact h'
theorem list_ltAt (l b : Addr) (items items2 : Array Value) (n n2 : Nat) (hsz : items.size = items2.size) (e r : Nat → Bool) :
    Meets (Builtin.«list.__lt__» ⟨[.ref l, .ref b], []⟩)
      (fun A R s => s.heap.get? l = some (W.listOf items n) ∧ s.heap.get? b = some (W.listOf items2 n2) ∧
        (∀ j (h1 : j < items.size) (h2 : j < items2.size), EqAt A.in1 s items[j] items2[j] (e j)) ∧ (∀ j (h1 : j < items.size) (h2 : j < items2.size), OrdAt A.in1 s .Lt items[j] items2[j] (r j)) ∧
        R (.ok (.ret (.bool (lexN e r items.size 0)))) s) := by
  intro prog w A R s h
  obtain ⟨hp, g, d, tk, os⟩ := s; obtain ⟨hl, hb, he, hr, h⟩ := h
  have f3 := AutoSeq1.sub_list_list
  wp_walk using wpAny_loadPart' hl, wpAny_loadPart' hb
  exact ⟨plainId_quiet plain_eq_loop _, codeAny_builtin entry_eq_loop (by
    rw [Around.under_plainId plain_eq_loop _]
    exact lt_loopAt l b items items2 n n2 hsz e r .Lt 0 (.inl ⟨rfl, rfl⟩) _ 0 rfl prog w A R _ ⟨hl, hb, he, hr, h⟩)⟩
theorem list_gtAt (l b : Addr) (items items2 : Array Value) (n n2 : Nat) (hsz : items.size = items2.size) (e r : Nat → Bool) :
    Meets (Builtin.«list.__gt__» ⟨[.ref l, .ref b], []⟩)
      (fun A R s => s.heap.get? l = some (W.listOf items n) ∧ s.heap.get? b = some (W.listOf items2 n2) ∧
        (∀ j (h1 : j < items.size) (h2 : j < items2.size), EqAt A.in1 s items[j] items2[j] (e j)) ∧ (∀ j (h1 : j < items.size) (h2 : j < items2.size), OrdAt A.in1 s .Gt items[j] items2[j] (r j)) ∧
        R (.ok (.ret (.bool (lexN e r items.size 0)))) s) := by
  intro prog w A R s h
  obtain ⟨hp, g, d, tk, os⟩ := s; obtain ⟨hl, hb, he, hr, h⟩ := h
  have f3 := AutoSeq1.sub_list_list
  wp_walk using wpAny_loadPart' hl, wpAny_loadPart' hb
  exact ⟨plainId_quiet plain_eq_loop _, codeAny_builtin entry_eq_loop (by
    rw [Around.under_plainId plain_eq_loop _]
    exact lt_loopAt l b items items2 n n2 hsz e r .Gt 4 (.inr ⟨rfl, rfl⟩) _ 0 rfl prog w A R _ ⟨hl, hb, he, hr, h⟩)⟩
theorem pLtL {c : Cx} {m : Mp} {nw : Nw} {Q : Value → Mp → Nw → Prop} {l b : Addr} {xs ys : List Value} {n n2 : Nat} (e r : Nat → Bool) (hu : c.A.units < cLine) (hl : Has c nw l (W.listOf xs.toArray n)) (hb : Has c nw b (W.listOf ys.toArray n2)) (hsz : xs.length = ys.length)
    (he : ∀ A s j (h1 : j < xs.length) (h2 : j < ys.length), EqAt A s xs[j] ys[j] (e j)) (hr : ∀ A s j (h1 : j < xs.length) (h2 : j < ys.length), OrdAt A s .Lt xs[j] ys[j] (r j)) (q : Q (.bool (lexN e r xs.length 0)) m nw) :
    P c (compareOp .Lt (.ref l) (.ref b)) Q m nw := fun h tk I => by
  show wpAny _ _ (richCompare .Lt (.ref l) (.ref b)) _ _ _
  refine richCompare_meets_room (op := .Lt) ⟨_, hl.get I, rfl⟩ ⟨_, hb.get I, rfl⟩ F.slot_list_lt F.entry_list_lt (F.args_list_lt_2 _ _) (list_ltAt l b xs.toArray ys.toArray n n2 (by simpa using hsz) e r)
    ⟨hl.get I, hb.get I, fun j h1 h2 => he _ _ j (by simpa using h1) (by simpa using h2), fun j h1 h2 => hr _ _ j (by simpa using h1) (by simpa using h2), (fun x => nomatch x), ?_⟩ hu
  exact ⟨_, _, _, _, rfl, I, by simpa using q⟩
theorem pGtL {c : Cx} {m : Mp} {nw : Nw} {Q : Value → Mp → Nw → Prop} {l b : Addr} {xs ys : List Value} {n n2 : Nat} (e r : Nat → Bool) (hu : c.A.units < cLine) (hl : Has c nw l (W.listOf xs.toArray n)) (hb : Has c nw b (W.listOf ys.toArray n2)) (hsz : xs.length = ys.length)
    (he : ∀ A s j (h1 : j < xs.length) (h2 : j < ys.length), EqAt A s xs[j] ys[j] (e j)) (hr : ∀ A s j (h1 : j < xs.length) (h2 : j < ys.length), OrdAt A s .Gt xs[j] ys[j] (r j)) (q : Q (.bool (lexN e r xs.length 0)) m nw) :
    P c (compareOp .Gt (.ref l) (.ref b)) Q m nw := fun h tk I => by
  show wpAny _ _ (richCompare .Gt (.ref l) (.ref b)) _ _ _
  refine richCompare_meets_room (op := .Gt) ⟨_, hl.get I, rfl⟩ ⟨_, hb.get I, rfl⟩ F.slot_list_gt F.entry_list_gt (F.args_list_gt_2 _ _) (list_gtAt l b xs.toArray ys.toArray n n2 (by simpa using hsz) e r)
    ⟨hl.get I, hb.get I, fun j h1 h2 => he _ _ j (by simpa using h1) (by simpa using h2), fun j h1 h2 => hr _ _ j (by simpa using h1) (by simpa using h2), (fun x => nomatch x), ?_⟩ hu
  exact ⟨_, _, _, _, rfl, I, by simpa using q⟩
end

end
section
open PySem PySem.W PyProof.Rows PySem.Calls
noncomputable def tupOf (vs : List Value) : Obj := { cls := .type "tuple", data := .seq vs.toArray }
section
variable {c : Cx} {m : Mp} {nw : Nw} {env : Env} {Q : Value → Mp → Nw → Prop} {QU : Unit → Mp → Nw → Prop} {QF : Flow → Mp → Nw → Prop} {QB : Bool → Mp → Nw → Prop}
theorem pTuple {elts : List Expr} {k : Nat} {pos : Pos} (H : P c (spliced (backTo pos (starEach elts env))) (fun vs m1 n1 => vs.length ≤ 2 ^ 20 ∧ ∀ a, (∀ p ∈ n1, p.1 ≠ a) → Q (.ref a) m1 ((a, tupOf vs) :: n1)) m nw) : P c (eval (.Tuple elts k pos) env) Q m nw :=
  fun _ _ I => wpAny_Tuple (H.seq I fun _ _ _ _ _ q I => ⟨Nat.le_trans q.1 (by decide), by
    obtain ⟨I', f⟩ := inPush (o := tupOf _) I rfl
    exact ⟨_, _, _, _, rfl, I', q.2 _ f⟩⟩)
theorem pBinds {ys : List Str} (hL : env.locals = c.L) (hk : env.scope.kind = .function) (hy : ∀ y ∈ ys, env.kindOf y = some .local) : ∀ {vs : List Value} {m : Mp}, QU () ((ys.zip vs).reverse ++ m) nw → ys.length = vs.length → P c (assignInOrder (ys.map fun n => bindName env n) vs) QU m nw := by
  induction ys with
  | nil => intro vs m q _ h tk I; exact PyProof.Rows.assignInOrder_nil ⟨_, _, _, _, rfl, I, by simpa using q⟩
  | cons y ys ih =>
    intro vs m q hlen
    cases vs with
    | nil => simp at hlen
    | cons v vs =>
      intro h tk I
      refine PyProof.Rows.assignInOrder_cons (wpAny_bindName ((pStoreE (QU := fun _ => P c (assignInOrder (ys.map fun n => bindName env n) vs) QU) (ih (fun y hy' => hy y (List.mem_cons_of_mem _ hy')) ?_ (by simpa using hlen)) hL hk (hy y List.mem_cons_self)).seq I fun _ _ _ _ _ q I => q _ _ I))
      simpa using q
theorem pSwap {elts : List Expr} {k : Nat} {tpos pos : Pos} {value : Expr} {xs : List Str} (hh : c.A.handled = none) (H : P c (eval value env) (fun v m1 n1 => ∃ a vs, v = .ref a ∧ vs.length = xs.length ∧ Has c n1 a (tupOf vs) ∧ QF .next ((xs.reverse.zip vs.reverse).reverse ++ m1) n1) m nw)
    (hL : env.locals = c.L) (hk : env.scope.kind = .function) (hy : (xs.all fun y => env.kindOf y == some .local) = true)
    (hs : swapsWithSole [.Tuple elts k tpos] value pos.line env = pure false := by rfl) (hw : swappedStores [.Tuple elts k tpos] value env = pure (some xs) := by rfl) :
    P c (exec (.Assign [.Tuple elts k tpos] value pos) env) QF m nw := fun h tk I => by
  refine PyProof.Rows.Assign_Tuple_swapped (H.seq I fun v m1 n1 h1 tk1 q I1 => ?_) hs hw
  obtain ⟨a, vs, rfl, hlen, ha, q⟩ := q
  have ht : (c.st h1 tk1).heap.IsTuple a vs.toArray := ⟨_, ha.get I1, rfl, _, rfl⟩
  have e : xs.length = vs.toArray.size := by rw [List.size_toArray, hlen]
  rw [e]
  refine wpAny_unpackItems_tuple hh ht fun h2 e2 => ?_
  refine (pBinds (QU := fun _ => QF .next) (ys := xs.reverse) (vs := vs.reverse) hL hk (fun y hy' => by simpa using List.all_eq_true.mp hy y (List.mem_reverse.mp hy')) q (by simp [hlen])).seq (inKeep I1 fun b o e => e2 b o (Nat.ne_of_lt (Heap.lt_size e)) e) fun _ _ _ _ _ q I => ⟨_, _, _, _, rfl, I, q⟩
theorem pUn {op : UnaryOp} {x : Expr} {pos : Pos} (H : P c (eval x env) (fun v => P c (unaryOp op v) Q) m nw) : P c (eval (.UnaryOp op x pos) env) Q m nw := fun _ _ I => wpAny_UnaryOp (H.seq I fun _ _ _ _ _ q I => q _ _ I)
theorem pNeg {i : Int} {t : Tok} (q : ∀ t, Q (.int (-i) t) m nw) : P c (unaryOp .USub (.int i t)) Q m nw := fun _ _ I => PySem.P.neg_int ⟨_, _, _, _, rfl, I, q _⟩
theorem pIntB {b : Bool} (q : ∀ t, Q (.int (if b then 1 else 0) t) m nw) : P c (call (.type "int") [.bool b]) Q m nw := fun _ _ I => call_int_bool ⟨_, _, _, _, rfl, I, q _⟩
theorem pLenS {x : Str} {t : Tok} (hf : x.cps.size < 2 ^ 30) (q : ∀ t, Q (.int (x.cps.size : Int) t) m nw) : P c (call (.builtin "len") [.str x t]) Q m nw := fun _ _ I =>
  PySem.P.len_str (by show ¬ ((x.cps.size : Int) ≥ 2 ^ 63); lia) ⟨_, _, _, _, rfl, I, q _⟩
end
/-- an item of the search: its price, its name and its places -/
structure ItemA (vs : List Value) (x : It) : Prop where
  ex : ∃ t u o, vs = [.int (x.price : Int) t, .str ⟨x.name.toArray⟩ u, o]
theorem wlt_lt : ∀ (x y : List Nat), decide (x < y) = wlt x y
  | [], [] => by simp [wlt]
  | [], _ :: _ => by simp [wlt]
  | _ :: _, [] => by simp [wlt]
  | a :: x, b :: y => by
    have ih := wlt_lt x y
    unfold wlt
    by_cases h : a = b
    · rw [if_pos h, ← ih, h]; simp [List.cons_lt_cons_iff]
    · rw [if_neg h]; simp [List.cons_lt_cons_iff, h]
end
section
open PySem PySem.W PyProof.Rows PySem.Calls
theorem IA.get {vs : List Value} {ks : List Nat} (h : IA vs ks) {i : Nat} (hi : i < ks.length) : ∃ t, vs[i]? = some (.int (ks[i] : Int) t) := IntsAre.get h i _ (by simp [hi])
end
section
open PySem PySem.W PyProof.Rows PySem.Calls
theorem filterMap_take (p : List Nat) (n : Nat) : (List.range n).filterMap (fun x => p[x]?) = p.take n := by
  induction n with
  | zero => rfl
  | succ n ih =>
    rw [List.range_succ, List.filterMap_append, ih, List.take_add_one]
    cases h : p[n]? <;> simp [h]
theorem filterMap_range (p : List Nat) : (List.range p.length).filterMap (fun x => p[x]?) = p := by rw [filterMap_take, List.take_length]
open PySem.Builtin PySem.Builtin.Str in
theorem slice_first (p : List Nat) : Txt.slice ⟨p.toArray⟩ none (some 1) = ⟨(p.take 1).toArray⟩ := by
  cases p with
  | nil => rfl
  | cons a p =>
    cases p with
    | nil => rfl
    | cons b p =>
      have e : strSliceIndices none (some 1) 1 (Str.length ⟨(a :: b :: p).toArray⟩) = [0] := by
        have e1 : max (0 : Int) (min 1 ((a :: b :: p).length : Int)) = 1 := by simp only [List.length_cons]; lia
        show sliceRange 0 (max (0 : Int) (min 1 ((a :: b :: p).length : Int))) 1 = [0]
        rw [e1]; rfl
      unfold Txt.slice
      rw [e]
      rw [if_neg (by simp [Str.length])]
      simp
open PySem.Builtin PySem.Builtin.Str in
theorem slice_rest (a : Nat) (p : List Nat) : Txt.slice ⟨(a :: p).toArray⟩ (some 1) none = ⟨p.toArray⟩ := by
  have e : strSliceIndices (some 1) none 1 (Str.length ⟨(a :: p).toArray⟩) = (List.range p.length).map (· + 1) := by
    have e1 : max (0 : Int) (min 1 ((a :: p).length : Int)) = 1 := by simp only [List.length_cons]; lia
    show sliceRange (max (0 : Int) (min 1 ((a :: p).length : Int))) ((a :: p).length : Int) 1 = _
    rw [e1]
    unfold sliceRange
    have e2 : (if (1 : Int) > 0 then (if (1 : Int) < ((a :: p).length : Int) then (((a :: p).length : Int) - 1 + 1 - 1) / 1 else 0) else (if (1 : Int) > ((a :: p).length : Int) then (1 - ((a :: p).length : Int) - 1 - 1) / (-1) else 0)) = (p.length : Int) := by
      rw [if_pos (by decide)]
      simp only [List.length_cons]
      split <;> lia
    simp only [e2]
    rw [Int.toNat_natCast]
    refine List.map_congr_left fun k _ => ?_
    lia
  unfold Txt.slice
  rw [e, if_neg (by simp [Str.length])]
  congr 1
  rw [List.filterMap_map]
  apply congrArg
  apply List.ext_getElem?
  intro i
  have : (List.range p.length).filterMap ((fun x => (a :: p).toArray[x]?) ∘ fun x => x + 1) = p := by
    have h : ((fun x => (a :: p).toArray[x]?) ∘ fun x => x + 1) = fun x => p[x]? := by
      funext x; simp
    rw [h]
    exact filterMap_range p
  rw [this]
end
section
open PySem PySem.W PyProof.Rows PySem.Calls
/-- the text of the signs p -/
noncomputable def S (p : List Nat) : Str := ⟨p.toArray⟩
theorem S_eq (p q : List Nat) : ((S p).cps.toList == (S q).cps.toList) = decide (p = q) := by
  show (p == q) = decide (p = q)
  by_cases h : p = q <;> simp [h]
section
variable {c : Cx} {m : Mp} {nw : Nw} {env : Env} {Q : Value → Mp → Nw → Prop}
theorem pEqS {p q : List Nat} {t u : Tok} (h : Q (.bool (decide (p = q))) m nw) : P c (compareOp .Eq (.str (S p) t) (.str (S q) u)) Q m nw := fun _ _ I => PySem.P.eq_str (by rw [S_eq]; exact ⟨_, _, _, _, rfl, I, h⟩)
theorem pNeS {p q : List Nat} {t u : Tok} (h : Q (.bool (!decide (p = q))) m nw) : P c (compareOp .NotEq (.str (S p) t) (.str (S q) u)) Q m nw := fun _ _ I => PySem.P.ne_str (by
  rw [show ((S p).cps.toList != (S q).cps.toList) = !decide (p = q) from by rw [bne, S_eq]]; exact ⟨_, _, _, _, rfl, I, h⟩)
theorem pItemS {value slice : Expr} {p : List Nat} {i : Nat} {t u : Tok} {a : Nat} (hi : p[i]? = some a) (hz : p.length ≤ 2 ^ 20) (q : ∀ t, Q (.str (S [a]) t) m nw)
    (hs : subscripted slice false (.str (S p) t) (.int (i : Int) u) = operate [.str (S p) t, .int (i : Int) u] (getItem (.str (S p) t) (.int (i : Int) u)) := by with_unfolding_all rfl)
    (ht : ∀ r, letTemporaryGo value (.str (S p) t) r = pure () := by intro _; with_unfolding_all rfl) : P c (subscriptTail value slice (.str (S p) t) (.int (i : Int) u)) Q m nw := fun _ _ I => by
  have hlt : i < p.length := (List.getElem?_eq_some_iff.mp hi).1
  have hl : (S p).length = p.length := by simp [S, Str.length]
  have e : Txt.item (S p) (i : Int) = S [a] := by
    have e1 : seqIndex? (i : Int) (S p).length = some i := by
      rw [hl]
      unfold seqIndex?
      simp
      lia
    unfold Txt.item Txt.charAt
    rw [e1]
    simp [S, hi]
  refine item_str (by simp [fitsSsize]; lia) (by rw [hl]; lia) (by rw [hl]; lia) (fun _ => ?_) hs ht
  rw [e]; exact ⟨_, _, _, _, rfl, I, q _⟩
theorem pAddS {p q : List Nat} {t u : Tok} (hz : p.length + q.length ≤ 2 ^ 20) (h : ∀ t, Q (.str (S (p ++ q)) t) m nw) : P c (binaryOp .Add (.str (S p) t) (.str (S q) u)) Q m nw := fun _ _ I =>
  PyProof.Rows.add_str (fun t' tk => by
    have e : S p ++ S q = S (p ++ q) := by
      show (⟨p.toArray ++ q.toArray⟩ : Str) = _
      simp [S]
    rw [e]; exact ⟨_, _, _, _, rfl, I, h _⟩) (by simp [S, Str.length]; exact Nat.le_trans hz (by decide))
end
end
section
open PySem PySem.W PyProof.Rows PySem.Calls
/-- the best place of argBest -/
theorem argBest_ok (ks : List Nat) : ∀ n, argBest (fun i j => decide ((at0 ks i : Int) < (at0 ks j : Int))) n ≤ n ∧ ∀ i, i ≤ n → at0 ks (argBest (fun i j => decide ((at0 ks i : Int) < (at0 ks j : Int))) n) ≤ at0 ks i := by
  intro n
  induction n with
  | zero => exact ⟨Nat.le_refl _, fun i hi => by rw [Nat.le_zero.mp hi]; exact Nat.le_refl _⟩
  | succ n ih =>
    obtain ⟨h1, h2⟩ := ih
    unfold argBest
    split
    · rename_i h
      have h := of_decide_eq_true h
      refine ⟨Nat.le_refl _, fun i hi => ?_⟩
      rcases Nat.lt_or_ge i (n + 1) with hlt | hge
      · have := h2 i (Nat.le_of_lt_succ hlt)
        lia
      · rw [Nat.le_antisymm hi hge]; exact Nat.le_refl _
    · rename_i h
      have h : ¬ _ := fun h' => h (decide_eq_true h')
      refine ⟨Nat.le_succ_of_le h1, fun i hi => ?_⟩
      rcases Nat.lt_or_ge i (n + 1) with hlt | hge
      · exact h2 i (Nat.le_of_lt_succ hlt)
      · rw [Nat.le_antisymm hi hge]; lia
/-- what min gives -/
structure MinOf (ks : List Nat) (k : Nat) : Prop where
  mem : k ∈ ks
  le : ∀ x ∈ ks, k ≤ x
theorem minOf_best {ks : List Nat} (h : ks ≠ []) : MinOf ks (at0 ks (argBest (fun i j => decide ((at0 ks i : Int) < (at0 ks j : Int))) (ks.length - 1))) := by
  have hl : 0 < ks.length := List.length_pos_iff.mpr h
  obtain ⟨h1, h2⟩ := argBest_ok ks (ks.length - 1)
  refine ⟨at0_mem (by lia), fun x hx => ?_⟩
  obtain ⟨i, hi, e⟩ := List.getElem_of_mem hx
  have := h2 i (by lia)
  rw [at0_get _ _ hi, e] at this
  exact this
theorem MinOf.unique {ks : List Nat} {a b : Nat} (h1 : MinOf ks a) (h2 : MinOf ks b) : a = b := Nat.le_antisymm (h1.le b h2.mem) (h2.le a h1.mem)
section
variable {c : Cx} {m : Mp} {nw : Nw} {env : Env} {Q : Value → Mp → Nw → Prop}
theorem pMinL {a : Addr} {vs : List Value} {ks : List Nat} {n : Nat} (hh : c.A.handled = none) (hl : Has c nw a (W.listOf vs.toArray n)) (hv : IA vs ks) (hne : ks ≠ []) (q : ∀ k t, MinOf ks k → Q (.int (k : Int) t) m nw) : P c (call (.builtin "min") [.ref a]) Q m nw := fun h tk I => by
  have hl' : (c.st h tk).heap.IsList a vs.toArray := PySem.IsL.isList (n := n) (hl.get I)
  have hlt : a ≠ h.objs.size := Nat.ne_of_lt (Heap.lt_size (hl.get I))
  have hlen : vs.length = ks.length := hv.length
  refine call_min_walk (wpAny_pyIter_list hl' ?_)
  have Wk : Walks c.prog c.w c.A.in1 h.objs.size [h.objs.size, a] [h.objs.size] vs.length (fun i v => vs[i]? = some v) (fun i h' => h'.IsListIter h.objs.size a i ∧ h'.IsList a vs.toArray) := by
    simpa using Walks.list (prog := c.prog) (w := c.w) (A := c.A.in1) hh h.objs.size a hlt vs.toArray
  have val : ∀ i v, vs[i]? = some v → ∃ t, v = Value.int ((at0 ks i : Nat) : Int) t := fun i v hx => by
    have hi : i < ks.length := by rw [← hlen]; exact (List.getElem?_eq_some_iff.mp hx).1
    obtain ⟨t, ht⟩ := hv.get hi
    rw [ht] at hx
    exact ⟨t, by rw [at0_get _ _ hi]; exact (Option.some.inj hx).symm⟩
  refine ⟨_, _, _, _, _, _, _, rfl, Wk, ⟨⟨_, Heap.get?_push_size _ rfl, rfl, rfl⟩, hl'.at fun o e => Heap.get?_push_of_some _ e⟩, fun b hb => ?_, by rw [hlen]; exact List.length_pos_iff.mpr hne, CmpOf.ints_lt (fun i => ((at0 ks i : Nat) : Int)) val, fun v h' tk' hv' kk => ?_⟩
  · show b < (h.push _).objs.size
    rw [Heap.size_push]
    rcases List.mem_cons.mp hb with rfl | hb
    · exact Nat.lt_succ_self _
    · rw [List.mem_singleton.mp hb]; exact Nat.lt_succ_of_lt (Heap.lt_size (hl.get I))
  · obtain ⟨t, rfl⟩ := val _ _ hv'
    have k2 : ∀ b o, h.get? b = some o → h'.get? b = some o := fun b o e => kk b o (fun q => by have := Heap.lt_size e; rw [List.mem_singleton.mp q] at this; exact Nat.lt_irrefl _ this) (Heap.get?_push_of_some _ e)
    rw [hlen]
    exact ⟨h', tk', m, nw, rfl, inKeep I k2, q _ _ (minOf_best hne)⟩
/-- the dict at a with these pairs of texts and values -/
noncomputable def DictA (c : Cx) (nw : Nw) (a : Addr) (kvs : List (Str × Value)) : Prop := ∃ o, Has c nw a o ∧ o.IsDictOf (strKind c.prog c.w) kvs
theorem DictA.at {a : Addr} {kvs : List (Str × Value)} {h : Heap} (x : DictA c nw a kvs) (I : In c m nw h) : h.DictOf (strKind c.prog c.w) a kvs := by
  obtain ⟨o, ho, hd⟩ := x
  exact Heap.dictOf_iff.mpr ⟨o, ho.get I, hd⟩
theorem pDictGet {value slice : Expr} {a : Addr} {kvs : List (Str × Value)} {k : Str} {t : Tok} {v : Value} (hd : DictA c nw a kvs) (hv : valueAt kvs k = some v) (q : Q v m nw)
    (hs : subscripted slice false (.ref a) (.str k t) = operate [.ref a, .str k t] (getItem (.ref a) (.str k t)) := by with_unfolding_all rfl) (hg : ∀ r, letTemporaryGo value (.ref a) r = pure () := by intro _; with_unfolding_all rfl) :
    P c (subscriptTail value slice (.ref a) (.str k t)) Q m nw := fun h tk I =>
  subscriptTail_builtin (T := "dict") (s := c.st h tk) ((hd.at I).typeIs) slot_dict_getitem.lookup (wpAny_getItem_of (knd := strKind c.prog c.w) (strKind_is c.prog c.w k t) (hd.at I).mapOf hv ⟨_, _, _, _, rfl, I, q⟩) hs hg
theorem pSliceTo {v : Expr} {p1 p2 pos : Pos} {k : Nat} (H : P c (eval v env) (fun ov m1 n1 => ∃ p t, ov = .str (S p) t ∧ p.length ≤ 2 ^ 20 ∧ ∀ t, Q (.str (S (p.take 1)) t) m1 n1) m nw) (hg : ∀ x t r, letTemporaryGo v (.str x t) r = pure () := by intro _ _ _; with_unfolding_all rfl) :
    P c (eval (.Subscript v (.Slice none (some (.Constant (.int 1) k p1)) none p2) pos) env) Q m nw := fun h tk I =>
  Subscript_ (H.seq I fun ov m1 n1 h1 tk1 q I1 => by
    obtain ⟨p, t, rfl, hz, q⟩ := q
    refine wpAny_Slice ?_
    rw [evalPart_none]
    refine wpAny_pure ?_
    rw [evalPart_some]
    refine wpAny_Constant_int ?_
    refine wpAny_pure ?_
    refine slice_strN_ns (s := { c.st h1 tk1 with toks := tk1 + 1 }) I1.F I1.N (fun h2 t' k2 F2 N2 => ?_) (ht := hg _ _) (hsz := by simp [S, Str.length]; exact Nat.le_trans hz (by decide))
    rw [show Txt.slice (S p) none (some 1) = S (p.take 1) from slice_first p]
    exact ⟨h2, k2, m1, n1, rfl, ⟨F2, N2⟩, q t'⟩)
theorem pSliceFrom {v : Expr} {p1 p2 pos : Pos} {k : Nat} (H : P c (eval v env) (fun ov m1 n1 => ∃ a p t, ov = .str (S (a :: p)) t ∧ (a :: p).length ≤ 2 ^ 20 ∧ ∀ t, Q (.str (S p) t) m1 n1) m nw) (hg : ∀ x t r, letTemporaryGo v (.str x t) r = pure () := by intro _ _ _; with_unfolding_all rfl) :
    P c (eval (.Subscript v (.Slice (some (.Constant (.int 1) k p1)) none none p2) pos) env) Q m nw := fun h tk I =>
  Subscript_ (H.seq I fun ov m1 n1 h1 tk1 q I1 => by
    obtain ⟨a, p, t, rfl, hz, q⟩ := q
    refine wpAny_Slice ?_
    rw [evalPart_some]
    refine wpAny_Constant_int ?_
    rw [evalPart_none]
    refine wpAny_pure ?_
    refine wpAny_pure ?_
    refine slice_strN_sn (s := { c.st h1 tk1 with toks := tk1 + 1 }) I1.F I1.N (fun h2 t' k2 F2 N2 => ?_) (ht := hg _ _) (hsz := by simp only [S, Str.length, List.size_toArray]; exact Nat.le_trans hz (by decide))
    rw [show Txt.slice (S (a :: p)) (some 1) none = S p from slice_rest a p]
    exact ⟨h2, k2, m1, n1, rfl, ⟨F2, N2⟩, q t'⟩)
end
end
section
open PySem PySem.W PyProof.Rows PySem.Calls
section
variable {c : Cx} {m : Mp} {nw : Nw} {env : Env} {Q : Value → Mp → Nw → Prop}
theorem pGetD {a : Addr} {kvs : List (Str × Value)} {nm : Str} {id : String} {pl : Sem Bool} {QM : Value × List Value → Mp → Nw → Prop} (hd : DictA c nw a kvs) (slot : Slot "dict" nm id) (hty : typeOf (.builtin id) = pure (.type "method_descriptor"))
    (q : QM (.builtin id, [.ref a]) m nw) : P c (getMethod (.ref a) nm pl) QM m nw := fun h tk I => by
  obtain ⟨o, ho, hd'⟩ := hd
  obtain ⟨es, ep, ex, r⟩ := hd'
  have hT : (c.st h tk).TypeIs (.ref a) "dict" := (Heap.dictOf_iff.mpr ⟨o, ho.get I, es, ep, ex, r⟩ : h.DictOf (strKind c.prog c.w) a kvs).typeIs (s := c.st h tk)
  exact getMethod_builtin hT PySem.F.plainAttrs_dict slot hty (fun b e => by cases e; exact ⟨o, ho.get I, ex.2.1⟩) ⟨_, _, _, _, rfl, I, q⟩
theorem pValues {a : Addr} {kvs : List (Str × Value)} (hd : DictA c nw a kvs) (lo : (a == sysModules) = false) (q : ∀ v o, (∀ p ∈ nw, p.1 ≠ v) → o = { cls := .type "dict_values", data := .fields #[.ref a] } → Q (.ref v) m ((v, o) :: nw)) :
    P c (call (.builtin "dict.values") [.ref a]) Q m nw := fun h tk I => by
  have hD := hd.at I
  refine call_meetsIn PySem.F.slot_dict_values (hD.typeIs (s := c.st h tk)) PySem.F.entry_dict_values (PySem.F.args_dict_values_1 _) (meets_dict_values (strKind c.prog c.w) a lo) ⟨⟨kvs, hD⟩, ?_⟩
  obtain ⟨I', f⟩ := inPush (o := { cls := .type "dict_values", data := .fields #[.ref a] }) I rfl
  exact ⟨_, _, _, _, rfl, I', q _ _ f rfl⟩
theorem pMinV {v a : Addr} {o : Obj} {kvs : List (Str × Value)} {ks : List Nat} (hh : c.A.handled = none) (hv : (v, o) ∈ nw) (ho : o = { cls := .type "dict_values", data := .fields #[.ref a] }) (hd : DictA c nw a kvs) (hk : IA (kvs.map (·.2)) ks) (hne : ks ≠ [])
    (q : ∀ k t, MinOf ks k → Q (.int (k : Int) t) m nw) : P c (call (.builtin "min") [.ref v]) Q m nw := fun h tk I => by
  subst ho
  have hD := hd.at I
  obtain ⟨ep, hA⟩ := hD.dictAt
  have hV : (c.st h tk).heap.IsValuesView v a := ⟨_, (I.N _ hv).1, rfl, rfl⟩
  have hlt : a ≠ h.objs.size := by obtain ⟨o, ho, _⟩ := hd; exact Nat.ne_of_lt (Heap.lt_size (ho.get I))
  have hlen : kvs.length = ks.length := by have := hk.length; rwa [List.length_map] at this
  refine call_min_walk (wpAny_pyIter_values hV hA ?_)
  have Wk := Walks.dictValues (prog := c.prog) (w := c.w) (knd := strKind c.prog c.w) (A := c.A.in1) hh h.objs.size a hlt kvs ep
  have val : ∀ i v, (∃ k, kvs[i]? = some (k, v)) → ∃ t, v = Value.int ((at0 ks i : Nat) : Int) t := fun i v ⟨k, hx⟩ => by
    have hi : i < ks.length := by rw [← hlen]; exact (List.getElem?_eq_some_iff.mp hx).1
    obtain ⟨t, ht⟩ := hk.get hi
    rw [List.getElem?_map, hx] at ht
    exact ⟨t, by rw [at0_get _ _ hi]; exact Option.some.inj ht⟩
  refine ⟨_, _, _, _, _, _, _, rfl, Wk, ⟨⟨_, Heap.get?_push_size _ rfl, rfl, rfl⟩, hA.keep fun b o e => Heap.get?_push_of_some _ e⟩, fun b hb => ?_, by rw [hlen]; exact List.length_pos_iff.mpr hne, CmpOf.ints_lt (fun i => ((at0 ks i : Nat) : Int)) val, fun v h' tk' hv' kk => ?_⟩
  · show b < (h.push _).objs.size
    rw [Heap.size_push]
    rcases List.mem_cons.mp hb with rfl | hb
    · exact Nat.lt_succ_self _
    · rw [List.mem_singleton.mp hb]
      obtain ⟨o, ho, _⟩ := hd
      exact Nat.lt_succ_of_lt (Heap.lt_size (ho.get I))
  · obtain ⟨t, rfl⟩ := val _ _ hv'
    have k2 : ∀ b o, h.get? b = some o → h'.get? b = some o := fun b o e => kk b o (fun q => by have := Heap.lt_size e; rw [List.mem_singleton.mp q] at this; exact Nat.lt_irrefl _ this) (Heap.get?_push_of_some _ e)
    rw [hlen]
    exact ⟨h', tk', m, nw, rfl, inKeep I k2, q _ _ (minOf_best hne)⟩
end
end
section
open PySem PySem.W PyProof.Rows PySem.Calls
section
variable {prog : Program} {w : World} {A : Around} {E : Value → Shared → Prop} {s : Shared}
theorem draw_list {it l : Addr} {items : Array Value} (hne : l ≠ it) : ∀ (n i : Nat) (s : Shared) (Q : List Value → Shared → Prop), s.heap.IsListIter it l i → s.heap.IsList l items → i + n ≤ items.size →
    (∀ h', h'.IsListIter it l (i + n) → Heap.SameBut it s.heap h' → Q ((items.toList.drop i).take n) { s with heap := h' }) → wpAny (model prog w) A (draw (.ref it) n) Q E s
  | 0, i, s, Q, hit, _, _, hQ => by
    show wpAny _ _ (pure []) Q E s
    exact wpAny_pure (by simpa using hQ s.heap hit (Heap.SameBut.refl ..))
  | n + 1, i, s, Q, hit, hl, hle, hQ => by
    have hlt : i < items.size := by lia
    show wpAny _ _ (pyNext (.ref it) >>= _) Q E s
    refine wpAny_bind (wpAny_pyNext_list_item hit hl (x := items[i]) (by simp [hlt]) fun h₁ hit₁ hs₁ => ?_)
    refine wpAny_bind (wpAny_holding (draw_list hne n (i + 1) _ _ hit₁ (hl.extBut hs₁.extBut hne) (by lia) fun h₂ hit₂ hs₂ => wpAny_pure ?_))
    have hd : items.toList.drop i = items[i] :: items.toList.drop (i + 1) := by simp [List.drop_eq_getElem_cons, hlt]
    have := hQ h₂ (by rw [show i + (n + 1) = i + 1 + n by lia]; exact hit₂) (hs₁.trans hs₂)
    rw [hd, List.take_succ_cons] at this
    exact this
theorem unpackItems_list {l : Addr} {items : Array Value} {Q : List Value → Shared → Prop} (hh : A.handled = none) (hl : s.heap.IsList l items)
    (hQ : ∀ h', (∀ b o, s.heap.get? b = some o → h'.get? b = some o) → Q items.toList { s with heap := h' }) : wpAny (model prog w) A (unpackItems (.ref l) items.size none) Q E s := by
  have hlt : l ≠ s.heap.objs.size := by obtain ⟨o, ho, _⟩ := hl; exact Nat.ne_of_lt (Heap.lt_size ho)
  have hp : ∀ o', (s.heap.push o').IsList l items := fun o' => hl.at fun o e => Heap.get?_push_of_some _ e
  unfold unpackItems
  refine wpAny_bind ?_
  unfold notIterableAtAll
  refine wpAny_bind (wpAny_specialOf hl.typeIs slot_list_iter.lookup ?_)
  refine wpAny_pure ?_
  simp only [Bool.false_eq_true, if_false]
  refine wpAny_bind (wpAny_holding (wpAny_pyIter_list hl ?_))
  refine wpAny_bind (wpAny_holding (draw_list hlt items.size 0 _ _ ⟨_, Heap.get?_push_size _ rfl, rfl, rfl⟩ (hp _) (by lia) fun h₁ hit₁ hs₁ => ?_))
  have hall : List.take items.size (List.drop 0 items.toList) = items.toList := by
    rw [List.drop_zero]; exact List.take_of_length_le (by simp)
  rw [hall]
  rw [if_neg (by simp)]
  have hl₁ : h₁.IsList l items := (hp _).extBut hs₁.extBut hlt
  refine wpAny_bind (wpAny_holding (wpAny_pyNext_list_end hh hit₁ hl₁ (by simp) fun h₂ he₂ => ?_))
  simp only [Option.isSome_none, Bool.false_eq_true, if_false]
  refine wpAny_pure (hQ h₂ fun b o e => ?_)
  have hb : b ≠ s.heap.objs.size := Nat.ne_of_lt (Heap.lt_size e)
  exact he₂ b o hb (hs₁.extBut b o hb (Heap.get?_push_of_some _ e))
theorem assign_Tuple_list {env : Env} {elts : List Expr} {x1} {pos : Pos} {l : Addr} {items : Array Value} {Q : Unit → Shared → Prop} (hh : A.handled = none) (hl : s.heap.IsList l items)
    (hn : (assignEach elts env).length = items.size) (hstar : (assignEach elts env).findIdx? (·.1) = none)
    (h : ∀ h', (∀ b o, s.heap.get? b = some o → h'.get? b = some o) → wpAny (model prog w) A (assignInOrder ((assignEach elts env).map (·.2)) items.toList) Q E { s with heap := h' }) :
    wpAny (model prog w) A (assign (.Tuple elts x1 pos) env (.ref l)) Q E s := by
  rw [arm_assign_Tuple]
  refine wpAny_bind (wpAny_standAt ?_)
  unfold unpack
  rw [hn, hstar]
  exact wpAny_bind (wpAny_holding (unpackItems_list hh hl h))
end
/-- a list of lists of two -/
theorem Tk.pairL {prog : Program} {w : World} {A : Around} (x y : Str) (px py pt : Pos) (k : Nat) (hh : A.handled = none) (I ax : Addr) (hne : ax ≠ I) (es : List (Addr × Value × Value)) (hI : ∀ e ∈ es, e.1 ≠ I) :
    Tk prog w A I (.Tuple [.Name x px, .Name y py] k pt) [x, y] (I :: ax :: es.map (·.1)) [I] es.length (fun i vals => ∃ e, es[i]? = some e ∧ vals = [e.2.1, e.2.2])
      (fun i h => h.IsListIter I ax i ∧ h.IsList ax (es.map fun e => Value.ref e.1).toArray ∧ ∀ e ∈ es, h.IsList e.1 #[e.2.1, e.2.2]) where
  sub := fun b hb => by rw [List.mem_singleton.mp hb]; exact .head _
  frame := fun i h h' st hk => ⟨st.1.at fun o e => hk I (.head _) o e, st.2.1.at fun o e => hk ax (.tail _ (.head _)) o e, fun e he => (st.2.2 e he).at fun o q => hk e.1 (.tail _ (.tail _ (List.mem_map_of_mem he))) o q⟩
  ex := fun i h st b hb => by rw [List.mem_singleton.mp hb]; obtain ⟨o, ho, _⟩ := st.1; exact ⟨o, ho⟩
  item := fun env i s K E hi st hK => by
    have hx : (es.map fun e => Value.ref e.1).toArray[i]? = some (.ref es[i].1) := by simp [hi]
    refine wpAny_pyNext_list_item st.1 st.2.1 hx fun h1 hit hs => ?_
    have mem : es[i] ∈ es := List.getElem_mem hi
    have st' : ∀ e ∈ es, h1.IsList e.1 #[e.2.1, e.2.2] := fun e he => (st.2.2 e he).extBut hs.extBut (hI e he)
    refine ⟨_, rfl, wpAny_letOwnedTupleGo_listiter (s := { s with heap := h1 }) hit ?_⟩
    refine assign_Tuple_list hh (st' _ mem) rfl rfl fun h2 k2 => assign_two ?_
    exact hK [es[i].2.1, es[i].2.2] h2 _ ⟨es[i], List.getElem?_eq_getElem hi, rfl⟩ ⟨hit.at fun o e => k2 _ o e, (st.2.1.extBut hs.extBut hne).at fun o e => k2 _ o e, fun e he => (st' e he).at fun o q => k2 _ o q⟩
      fun b o hb e => k2 b o (hs.extBut b o (fun q => hb (q ▸ .head _)) e)
  done := fun s Q E st hQ => wpAny_pyNext_list_end hh st.1 st.2.1 (by simp) fun h' he' => hQ h' s.toks fun b o hb e => he' b o (fun q => hb (q ▸ .head _)) e
  self := fun _ _ _ _ st hQ => wpAny_pyIter_listiter st.1 hQ
section
variable {c : Cx} {m : Mp} {nw : Nw} {env : Env} {QF : Flow → Mp → Nw → Prop}
theorem itPairs {a : Addr} {es : List (Addr × Value × Value)} {n : Nat} {av : List Addr} (x y : Str) (px py pt : Pos) (k : Nat) (hh : c.A.handled = none) (hl : Has c nw a (W.listOf (es.map fun e => Value.ref e.1).toArray n)) (he : ∀ e ∈ es, ∃ k, Has c nw e.1 (W.listOf [e.2.1, e.2.2].toArray k))
    (hav : ∀ b ∈ av, b ≠ a ∧ (∀ e ∈ es, b ≠ e.1) ∧ ∃ o, (b, o) ∈ nw) : ItT c (.Tuple [.Name x px, .Name y py] k pt) [x, y] es.length (fun i vals => ∃ e, es[i]? = some e ∧ vals = [e.2.1, e.2.2]) av (.ref a) m nw := fun h tk K E I kk => by
  have hl' : h.IsList a (es.map fun e => Value.ref e.1).toArray := PySem.IsL.isList (n := n) (hl.get I)
  have hlt := Heap.lt_size (hl.get I)
  have hel : ∀ e ∈ es, e.1 < h.objs.size := fun e q => by obtain ⟨k, z⟩ := he e q; exact Heap.lt_size (z.get I)
  refine wpAny_pyIter_list hl' ?_
  refine kk h.objs.size [h.objs.size] _ _ _ tk (Tk.pairL x y px py pt k hh h.objs.size a (Nat.ne_of_lt hlt) es fun e q => Nat.ne_of_lt (hel e q)) (fun q => ?_) (fun b hb => ?_) (fun b hb q => ?_) (fun b q => ?_) (by rw [Heap.size_push]; exact Nat.le_succ _)
    ⟨⟨_, Heap.get?_push_size _ rfl, rfl, rfl⟩, hl'.at fun o e => Heap.get?_push_of_some _ e, fun e q => ?_⟩ (fun b o e => Heap.get?_push_of_some _ e)
  · rcases List.mem_cons.mp q with e | q
    · exact absurd I.F.ns.lt (e ▸ Nat.lt_irrefl _)
    · rcases List.mem_cons.mp q with e | q
      · exact hl.ne I e.symm
      · obtain ⟨z, hz, e⟩ := List.mem_map.mp q
        obtain ⟨k, zz⟩ := he z hz
        exact zz.ne I e
  · rw [List.mem_singleton.mp hb]
    exact Heap.get?_none_of_le (Nat.le_refl _)
  · obtain ⟨h1, h2, o, h3⟩ := hav b hb
    rcases List.mem_cons.mp q with e | q
    · have := Heap.lt_size (I.N _ h3).1; rw [show b = h.objs.size from e] at this; exact Nat.lt_irrefl _ this
    · rcases List.mem_cons.mp q with e | q
      · exact h1 e
      · obtain ⟨z, hz, e⟩ := List.mem_map.mp q
        exact h2 z hz e.symm
  · rw [Heap.size_push]
    rcases List.mem_cons.mp q with e | q
    · exact e ▸ Nat.lt_succ_self _
    · rcases List.mem_cons.mp q with e | q
      · exact e ▸ Nat.lt_succ_of_lt hlt
      · obtain ⟨z, hz, e⟩ := List.mem_map.mp q
        exact e ▸ Nat.lt_succ_of_lt (hel z hz)
  · obtain ⟨k, z⟩ := he e q
    exact (PySem.IsL.isList (n := k) (z.get I) : h.IsList e.1 _).at fun o e => Heap.get?_push_of_some _ e
/-- a turn behind its target's store -/
noncomputable def forK (prog : Program) (w : World) (A : Around) (body : List Stmt) (env : Env) (R : Result → Shared → Prop) (J : Shared → Prop) (E : Value → Shared → Prop) (s₂ : Shared) : Prop :=
  wpAny (model prog w) A (execs body env) (fun f s₃ => match f with
    | .next | .cont => J s₃
    | .brk => R (.ok .next) s₃
    | .ret v => R (.ok (.ret v)) s₃) E s₂
theorem codeAny_forLoop_E {prog : Program} {w : World} {A : Around} {s : Shared} {R : Result → Shared → Prop} {target it body env} (I : Nat → Shared → Prop)
    (turn : ∀ n s (E : Value → Shared → Prop), I n s → wpAny (model prog w) A (pyNext it) (fun r s₁ => match r with
      | none => R (.ok .next) s₁
      | some v => wpAny (model prog w) A (letOwnedTupleGo target it v) (fun _ s₁' => wpAny (model prog w) A (assign target env v) (fun _ s₂ => forK prog w A body env R (fun s₃ => ∃ m, m < n ∧ I m s₃) E s₂) E s₁') E s₁) E s)
    (n : Nat) (h : I n s) : codeAny (model prog w) A (.forLoop target it body [] env) R s :=
  codeAny_forLoop_any I (fun n s hI => wpAny_mono (turn n s _ hI) (fun r s₁ hr => by
    cases r with
    | none => exact wpAny_execs_nil hr
    | some v => exact hr) fun _ _ e => e) n h
/-- ahead of a turn of a for -/
noncomputable def forI (c : Cx) (St : Nat → Heap → Prop) (wr : List Addr) (N : Nat) (Iv : Nat → Mp → Nw → Prop) (n : Nat) (s' : Shared) : Prop :=
  ∃ i h tk m nw, s' = c.st h tk ∧ In c m nw h ∧ St i h ∧ Iv i m nw ∧ (∀ p ∈ nw, p.1 ∉ wr) ∧ i ≤ N ∧ n = N - i
theorem forT_code {tgt : Expr} {xs : List Str} {body : List Stmt} {N : Nat} {Pv : Nat → List Value → Prop} {av : List Addr} {R : Result → Shared → Prop} {I : Addr} {wr fp : List Addr} {St : Nat → Heap → Prop} {h1 h2 : Heap} {tk2 : Nat} (Iv : Nat → Mp → Nw → Prop)
    (Wk : Tk c.prog c.w c.A I tgt xs fp wr N Pv St) (hLf : c.L ∉ fp) (hwr : ∀ b ∈ wr, h1.get? b = none) (hav : ∀ a ∈ av, a ∉ fp) (hst : St 0 h2) (k : ∀ b o, h1.get? b = some o → h2.get? b = some o) (J1 : In c m nw h1) (hI0 : Iv 0 m nw)
    (turn : ∀ i vals m nw ext, i < N → Pv i vals → Iv i m nw → (∀ a ∈ av, ∀ q ∈ ext, q.1 ≠ a) → P c (execs body env) (forQ Iv i ext nw QF) ((xs.zip vals).reverse ++ m) (ext ++ nw))
    (fin : ∀ f m nw h tk, f = .next ∨ (∃ v, f = .ret v) → In c m nw h → QF f m nw → R (.ok f) (c.st h tk)) (done : ∀ m nw, Iv N m nw → QF .next m nw) (hL : env.locals = c.L) (hk : env.scope.kind = .function) (hx : (xs.all fun x => env.kindOf x == some .local) = true) :
    codeAny (model c.prog c.w) c.A (.forLoop tgt (.ref I) body [] env) R (c.st h2 tk2) := by
  have hb : ∀ b ∈ wr, c.b.get? b = none := fun b q => by
    cases e : c.b.get? b with
    | none => rfl
    | some o => have := J1.F.keep b o e; rw [hwr b q] at this; cases this
  have hLw : c.L ∉ wr := fun q => hLf (Wk.sub _ q)
  refine codeAny_forLoop_E (forI c St wr N Iv) ?_ N
    ⟨0, h2, tk2, m, nw, rfl, inKeep J1 k, hst, hI0, fun p hp q => (by have := (J1.N p hp).1; rw [show h1.get? p.1 = none from hwr _ q] at this; cases this), Nat.zero_le _, rfl⟩
  rintro n s' E' ⟨i, h, tk, m, nw, rfl, J, hst, hI, off, hi, rfl⟩
  by_cases hlt : i < N
  · refine wpAny_mono (Wk.item env i (c.st h tk) (forK c.prog c.w c.A body env R (fun s₃ => ∃ m, m < N - i ∧ forI c St wr N Iv m s₃) E') E' hlt hst fun vals h' tk' hv hst' kk => ?_) (fun r s₁ hr => by
      obtain ⟨v, e, hr⟩ := hr
      subst e
      exact hr) fun _ _ e => e
    have J' : In c m nw h' := inOff J hLw hb off kk
    refine storesP c hL hk (fun x hx' => by simpa using List.all_eq_true.mp hx x hx') J' fun h3 tk3 J3 hs3 _ => ?_
    have st3 : St (i + 1) h3 := Wk.frame _ _ _ hst' fun b hb' o e => (hs3.2 b (fun q => hLf (by rw [show b = c.L from q] at hb'; exact hb'))).trans e
    refine (turn i vals m nw (extOf c.b h3 fp) hlt hv hI (fun a ha q hq e => hav a ha (e ▸ (mem_extOf.mp hq).1))).seq (inExt J3 hLf) fun f m4 n4 h4 tk4 q4 J4 => ?_
    have fin' : forQ Iv i (extOf c.b h3 fp) nw QF .next m4 n4 → ∃ k, k < N - i ∧ forI c St wr N Iv k (c.st h4 tk4) := fun z => by
      obtain ⟨z1, nw', z2, z3⟩ := z
      refine ⟨N - (i + 1), by lia, i + 1, h4, tk4, m4, nw', rfl, ⟨J4.F, fun p hp => J4.N p (z2 p hp).1⟩, stExt (fun h'' kk' => Wk.frame _ _ _ st3 kk') J3 J4 z1, z3, fun p hp hw => ?_, hlt, rfl⟩
      rcases (z2 p hp).2 with q | q
      · exact off p q hw
      · obtain ⟨o, ho⟩ := Wk.ex _ _ st3 _ hw
        exact q (p.1, o) (mem_extOf.mpr ⟨Wk.sub _ hw, hb _ hw, ho⟩) rfl
    cases f with
    | next => exact fin' q4
    | cont => exact fin' q4
    | brk => exact fin _ _ _ _ _ (.inl rfl) J4 q4
    | ret v => exact fin _ _ _ _ _ (.inr ⟨v, rfl⟩) J4 q4
  · have : i = N := by lia
    subst this
    refine Wk.done _ _ _ hst fun h' tk' kk => fin _ _ _ _ _ (.inl rfl) (inOff J hLw hb off kk) (done m nw hI)
theorem pForT {tgt : Expr} {xs : List Str} {body : List Stmt} {iter : Expr} {pos : Pos} {N : Nat} {Pv : Nat → List Value → Prop} {av : List Addr} (Iv : Nat → Mp → Nw → Prop)
    (H : P c (eval iter env) (fun xv m1 n1 => ItT c tgt xs N Pv av xv m1 n1 ∧ Iv 0 m1 n1) m nw)
    (turn : ∀ i vals m nw ext, i < N → Pv i vals → Iv i m nw → (∀ a ∈ av, ∀ q ∈ ext, q.1 ≠ a) → P c (execs body env) (forQ Iv i ext nw QF) ((xs.zip vals).reverse ++ m) (ext ++ nw))
    (done : ∀ m nw, Iv N m nw → QF .next m nw) (hL : env.locals = c.L) (hk : env.scope.kind = .function) (hx : (xs.all fun x => env.kindOf x == some .local) = true) (hs : ∀ x, foldedSetIterable iter env x = pure x := by intro _; rfl) :
    P c (exec (.For tgt iter body [] pos) env) QF m nw := fun h tk J =>
  wpAny_For (H.seq J fun xv m1 n1 h1 tk1 hq J1 => hq.1 h1 tk1 _ _ J1 fun I wr fp St h2 tk2 Wk hLf hwr hav _ _ hst k =>
    forT_code Iv Wk hLf hwr hav hst k J1 hq.2 turn (fun f m nw h tk _ J q => ⟨_, _, _, _, rfl, J, q⟩) done hL hk hx) hs
end
end
open PySem PySem.W PyProof.Rows PySem.Calls
section
open PySem PySem.W PyProof.Rows PySem.Calls

theorem sdN_succ {lt : Nat → Nat → Bool} {new n : Nat} {h : List Nat} {pos : Nat} : sdN lt new (n + 1) h pos = if 0 < pos then (if lt new (at0 h ((pos - 1) / 2)) then sdN lt new n (h.set pos (at0 h ((pos - 1) / 2))) ((pos - 1) / 2) else h.set pos new) else h.set pos new := rfl

/-- what holds ahead of each turn of _siftdown's loop -/
structure SdI (H : Addr) (ka : Nat → Addr) (n : Nat) (dom : Nat → Prop) (new len : Nat) (lt : Nat → Nat → Bool) (tgt : List Nat) (q : Nat) (m : Mp) (nw : Nw) (g : List Nat) (kk : Nat) (t t1 : Tok) : Prop where
  hn : nw = [(H, keyL ka g n)]
  e1 : List.lookup ("heap" : Str) m = some (.ref H)
  e2 : List.lookup ("startpos" : Str) m = some (.int 0 t1)
  e3 : List.lookup ("pos" : Str) m = some (.int (q : Int) t)
  e4 : List.lookup ("newitem" : Str) m = some (.ref (ka new))
  hq : q < g.length
  hl : g.length = len
  hd : ∀ i ∈ g, dom i
  hk : q ≤ kk
  ht : sdN lt new kk g q = tgt

theorem siftdown_c {prog : Program} {w : World} {A : Around} {R : Result → Shared → Prop} {s : Shared} {f H : Addr} {hs : List Nat} {n pos k : Nat} {ka : Nat → Addr} {lt : Nat → Nat → Bool} {dom : Nat → Prop} {h₀ : Heap} {t1 t2 : Tok}
    (r : Rm A 12) (X : FnAt s.heap f 4) (lim : s.heap.NoLimit) (C : CmpOk prog w H h₀ ka lt dom) (k0 : ∀ b o, b ≠ H → h₀.get? b = some o → s.heap.get? b = some o)
    (hH : s.heap.get? H = some (keyL ka hs n)) (hp : pos < hs.length) (hsz : hs.length < 2 ^ 40) (hd : ∀ i ∈ hs, dom i) (hk : pos ≤ k)
    (ret : ∀ h' tk', (∀ b o, b ≠ H → s.heap.get? b = some o → h'.get? b = some o) → h'.get? H = some (keyL ka (sdN lt (at0 hs pos) k hs pos) n) → R (.ok (.ret .none)) { s with heap := h', toks := tk' }) :
    codeAny (model prog w) A (.call (.ref f) ⟨[.ref H, .int 0 t1, .int (pos : Int) t2], []⟩) R s := by
  refine pEnterH (i := 4) (binds := [("heap", .ref H), ("startpos", .int 0 t1), ("pos", .int (pos : Int) t2)]) X lim r hH (fun _ _ _ => rfl) (locs rfl) (fun cd A' r' => ?_)
  have hnew := hd _ (at0_mem hp)
  have k1 : ∀ b o, b ≠ H → h₀.get? b = some o → (s.heap.hide H).get? b = some o := fun b o hb e => (Heap.hide_ne _ hb).trans (k0 b o hb e)
  have ret' : ∀ m, endQ ⟨prog, w, A', s, s.heap.hide H, s.heap.objs.size⟩ R .next m [(H, keyL ka (sdN lt (at0 hs pos) k hs pos) n)] := fun m h tk I => ret h tk (keep_hide I.F.keep) (I.N.get (.head _))
  clear ret
  generalize hcx : (⟨prog, w, A', s, s.heap.hide H, s.heap.objs.size⟩ : Cx) = c at ret' ⊢
  have hc1 : c.A = A' := by rw [← hcx]
  have hc2 : c.b = s.heap.hide H := by rw [← hcx]
  have hc3 : s.heap.objs.size = c.L := by rw [← hcx]
  have C' : CmpOk c.prog c.w H h₀ ka lt dom := by rw [← hcx]; exact C
  rw [hc3]
  rw [← hc2] at k1
  rw [← hc1] at r'
  generalize hew : at0 hs pos = new at hnew ret'
  refine pCons ?_
  refine pAssign ?_
  refine pSub ?_
  refine pNameE rfl ?_
  refine pNameE rfl ?_
  refine pGetKey hp hsz ?_
  rw [hew]
  refine pStoreE ?_
  refine pCons ?_
  refine pWhile (fun q m nw => ∃ g kk t, SdI H ka n dom new hs.length lt (sdN lt new k hs pos) q m nw g kk t t1) pos (by exact ⟨hs, k, t2, rfl, rfl, rfl, rfl, rfl, hp, rfl, hd, hk, rfl⟩) ?_
  rintro q m nw ⟨g, kk, t, rfl, e1, e2, e3, e4, hq, hl, hdg, hk, ht⟩
  refine pIsCmp ?_
  refine pNameE (by assumption) ?_
  refine pNameE (by assumption) ?_
  refine pGt ?_
  refine pTrue ?_
  by_cases h0 : 0 < q
  · rw [if_pos (by simpa using h0)]
    obtain ⟨kk, rfl⟩ : ∃ j, kk = j + 1 := ⟨kk - 1, by lia⟩
    rw [sdN_succ, if_pos h0] at ht
    have hpp : (q - 1) / 2 < g.length := by lia
    refine pCons ?_
    refine pAssign ?_
    refine pBin ?_
    refine pBin ?_
    refine pNameE (by assumption) ?_
    refine pIntC fun _ => ?_
    refine pSubI fun _ => ?_
    refine pIntC fun _ => ?_
    refine pHalf h0 fun _ => ?_
    refine pStoreE ?_
    refine pCons ?_
    refine pAssign ?_
    refine pSub ?_
    refine pNameE (by assumption) ?_
    refine pNameE rfl ?_
    refine pGetKey hpp (by lia) ?_
    refine pStoreE ?_
    refine pCons ?_
    refine pIf ?_
    refine pIsCmp ?_
    refine pNameE (by assumption) ?_
    refine pNameE rfl ?_
    refine pLtK C' (r'.mono (by lia)) hnew (hdg _ (at0_mem hpp)) k1 ?_
    refine pTrue ?_
    by_cases hlt : lt new (at0 g ((q - 1) / 2)) = true
    · rw [if_pos hlt] at ht ⊢
      refine pCons ?_
      refine pAssignSub ?_
      refine pNameE rfl ?_
      refine pNameE (by assumption) ?_
      refine pNameE (by assumption) ?_
      refine pSetKey (fun _ h => nomatch h) hq (by lia) ?_
      refine pCons ?_
      refine pAssign ?_
      refine pNameE rfl ?_
      refine pStoreE ?_
      refine pCons ?_
      refine pCont ?_
      refine ⟨(q - 1) / 2, by lia, _, kk, _, rfl, e1, e2, rfl, e4, by rw [List.length_set]; exact hpp, by rw [List.length_set]; exact hl, fun i hi => ?_, by lia, ht⟩
      rcases List.mem_or_eq_of_mem_set hi with h | h
      · exact hdg i h
      · rw [h]; exact hdg _ (at0_mem hpp)
    · rw [if_neg hlt] at ht ⊢
      refine pNil ?_
      refine pCons ?_
      refine pBreak ?_
      refine pCons ?_
      refine pAssignSub ?_
      refine pNameE (by assumption) ?_
      refine pNameE (by assumption) ?_
      refine pNameE (by assumption) ?_
      refine pSetKey (fun _ h => nomatch h) hq (by lia) ?_
      refine pNil ?_
      rw [ht]
      exact ret' _
  · rw [if_neg (by simpa using h0)]
    have hq0 : q = 0 := by lia
    subst hq0
    have ht' : g.set 0 new = sdN lt new k hs pos := by rw [← ht]; cases kk <;> simp [sdN]
    refine pCons ?_
    refine pAssignSub ?_
    refine pNameE (by assumption) ?_
    refine pNameE (by assumption) ?_
    refine pNameE (by assumption) ?_
    refine pSetKey (fun _ h => nomatch h) hq (by lia) ?_
    refine pNil ?_
    rw [ht']
    exact ret' _
end
section
open PySem PySem.W PyProof.Rows PySem.Calls
variable {c : Cx} {m : Mp} {nw : Nw}
theorem pSiftdown {f H : Addr} {hs : List Nat} {n pos k : Nat} {ka : Nat → Addr} {lt : Nat → Nat → Bool} {dom : Nat → Prop} {h₀ : Heap} {t1 t2 : Tok} {Q : Value → Mp → Nw → Prop}
    (r : Rm c.A 12) (X : FnAt c.b f 4) (lim : c.b.NoLimit) (C : CmpOk c.prog c.w H h₀ ka lt dom) (k0 : ∀ b o, b ≠ H → h₀.get? b = some o → c.b.get? b = some o)
    (hne : ∀ q ∈ nw, q.1 ≠ H) (hp : pos < hs.length) (hsz : hs.length < 2 ^ 40) (hd : ∀ i ∈ hs, dom i) (hk : pos ≤ k)
    (q : Q .none m ((H, keyL ka (sdN lt (at0 hs pos) k hs pos) n) :: nw)) : P c (call (.ref f) [.ref H, .int 0 t1, .int (pos : Int) t2]) Q m ((H, keyL ka hs n) :: nw) := fun _ _ I =>
  wpAny_call (siftdown_c r (X.keeps I.F.keep) (lim.keeps I.F.keep) C (fun b o hb e => I.F.keep _ _ (k0 b o hb e)) (I.N _ (.head _)).1 hp hsz hd hk fun h' tk' kp hH => ⟨_, _, _, _, rfl, inTurn I hne kp hH, q⟩)
end
section
open PySem PySem.W PyProof.Rows PySem.Calls
theorem suN_succ {lt : Nat → Nat → Bool} {n : Nat} {h : List Nat} {pos : Nat} : suN lt (n + 1) h pos = if 2 * pos + 1 < h.length then suN lt n (h.set pos (at0 h (kid lt h pos))) (kid lt h pos) else (h, pos) := rfl
/-- behind _siftup's choice of the child -/
structure KidI (H : Addr) (ka : Nat → Addr) (n l len q k : Nat) (g : List Nat) (m : Mp) (nw : Nw) : Prop where
  hn : nw = [(H, keyL ka g n)]
  e1 : List.lookup ("heap" : Str) m = some (.ref H)
  e2 : ∃ t, List.lookup ("startpos" : Str) m = some (.int 0 t)
  e3 : ∃ t, List.lookup ("pos" : Str) m = some (.int (q : Int) t)
  e4 : List.lookup ("newitem" : Str) m = some (.ref (ka l))
  e5 : ∃ t, List.lookup ("endpos" : Str) m = some (.int (len : Int) t)
  e6 : ∃ t, List.lookup ("childpos" : Str) m = some (.int (k : Int) t)
/-- what holds ahead of each turn of _siftup's loop -/
structure SuI (H : Addr) (ka : Nat → Addr) (n : Nat) (dom : Nat → Prop) (l len : Nat) (lt : Nat → Nat → Bool) (tgt : List Nat × Nat) (q : Nat) (m : Mp) (nw : Nw) (g : List Nat) (kk : Nat) : Prop where
  hn : nw = [(H, keyL ka g n)]
  e1 : List.lookup ("heap" : Str) m = some (.ref H)
  e2 : ∃ t, List.lookup ("startpos" : Str) m = some (.int 0 t)
  e3 : ∃ t, List.lookup ("pos" : Str) m = some (.int (q : Int) t)
  e4 : List.lookup ("newitem" : Str) m = some (.ref (ka l))
  e5 : ∃ t, List.lookup ("endpos" : Str) m = some (.int (len : Int) t)
  e6 : ∃ t, List.lookup ("childpos" : Str) m = some (.int ((2 * q + 1 : Nat) : Int) t)
  hq : q < g.length
  hl : g.length = len
  hd : ∀ i ∈ g, dom i
  hk : g.length ≤ kk + q
  ht : suN lt kk g q = tgt
theorem dom_set {dom : Nat → Prop} {g : List Nat} {q p : Nat} (hd : ∀ i ∈ g, dom i) (hp : p < g.length) : ∀ i ∈ g.set q (at0 g p), dom i := fun i hi => by
  rcases List.mem_or_eq_of_mem_set hi with h | h
  · exact hd i h
  · rw [h]; exact hd _ (at0_mem hp)

theorem siftup_c {prog : Program} {w : World} {A : Around} {R : Result → Shared → Prop} {s : Shared} {f H : Addr} {hs : List Nat} {n : Nat} {ka : Nat → Addr} {lt : Nat → Nat → Bool} {dom : Nat → Prop} {h₀ : Heap} {t1 : Tok} {mg mb : Str → Option Value} {fa : Nat → Addr}
    (r : Rm A 14) (T : G mg mb fa h₀) (X : FnAt s.heap f 5) (C : CmpOk prog w H h₀ ka lt dom) (hH0 : h₀.get? H = none) (k0 : ∀ b o, h₀.get? b = some o → s.heap.get? b = some o)
    (hH : s.heap.get? H = some (keyL ka hs n)) (hp : 0 < hs.length) (hsz : hs.length < 2 ^ 20) (hd : ∀ i ∈ hs, dom i)
    (ret : ∀ h' tk', (∀ b o, b ≠ H → s.heap.get? b = some o → h'.get? b = some o) →
      h'.get? H = some (keyL ka (sdN lt (at0 hs 0) (suN lt hs.length hs 0).2 ((suN lt hs.length hs 0).1.set (suN lt hs.length hs 0).2 (at0 hs 0)) (suN lt hs.length hs 0).2) n) → R (.ok (.ret .none)) { s with heap := h', toks := tk' }) :
    codeAny (model prog w) A (.call (.ref f) ⟨[.ref H, .int 0 t1], []⟩) R s := by
  refine pEnterH (i := 5) (binds := [("heap", .ref H), ("pos", .int 0 t1)]) X (T.nolimit.keeps k0) r hH (fun _ _ _ => rfl) (locs rfl) (fun cd A' r' => ?_)
  have kH : ∀ b o, h₀.get? b = some o → (s.heap.hide H).get? b = some o := fun b o e => (Heap.hide_ne _ (fun hb => by subst hb; rw [hH0] at e; cases e)).trans (k0 b o e)
  have T' := T.keeps kH
  have ret' : ∀ g m, (sdN lt (at0 hs 0) (suN lt hs.length hs 0).2 ((suN lt hs.length hs 0).1.set (suN lt hs.length hs 0).2 (at0 hs 0)) (suN lt hs.length hs 0).2) = g → endQ ⟨prog, w, A', s, s.heap.hide H, s.heap.objs.size⟩ R .next m [(H, keyL ka g n)] := fun g m e h tk I => ret h tk (keep_hide I.F.keep) (by rw [e]; exact I.N.get (.head _))
  clear ret
  generalize hcx : (⟨prog, w, A', s, s.heap.hide H, s.heap.objs.size⟩ : Cx) = c at ret' ⊢
  have hc1 : c.A = A' := by rw [← hcx]
  have hc2 : c.b = s.heap.hide H := by rw [← hcx]
  have hc3 : s.heap.objs.size = c.L := by rw [← hcx]
  have C' : CmpOk c.prog c.w H h₀ ka lt dom := by rw [← hcx]; exact C
  rw [hc3]
  rw [← hc2] at T'
  have k1 : ∀ b o, b ≠ H → h₀.get? b = some o → c.b.get? b = some o := fun b o _ e => by rw [hc2]; exact kH b o e
  rw [← hc1] at r'
  clear hcx hc1 hc2 hc3 C kH T k0 hH
  generalize htg : suN lt hs.length hs 0 = tgt at ret'
  refine pCons ?_
  refine pAssign ?_
  refine pCall ?_
  refine pBnFE (by assumption) ?_
  refine pWithB ?_
  refine pArgs ?_
  refine pNameE rfl ?_
  refine pArgs0 ?_
  refine pLenK (by lia) fun _ => ?_
  refine pStoreE ?_
  refine pCons ?_
  refine pAssign ?_
  refine pNameE rfl ?_
  refine pStoreE ?_
  refine pCons ?_
  refine pAssign ?_
  refine pSub ?_
  refine pNameE rfl ?_
  refine pNameE rfl ?_
  refine pGetKey (p := 0) hp (by lia) ?_
  refine pStoreE ?_
  refine pCons ?_
  refine pAssign ?_
  refine pBin ?_
  refine pBin ?_
  refine pIntC fun _ => ?_
  refine pNameE rfl ?_
  refine pMul (by mul_fits) fun _ => ?_
  refine pIntC fun _ => ?_
  refine pAdd fun _ => ?_
  refine pStoreE ?_
  refine pCons ?_
  refine pWhile (fun k m nw => ∃ g kk q, k + q = hs.length ∧ SuI H ka n dom (at0 hs 0) hs.length lt tgt q m nw g kk) hs.length (by exact ⟨hs, hs.length, 0, rfl, rfl, rfl, ⟨_, rfl⟩, ⟨_, rfl⟩, rfl, ⟨_, rfl⟩, ⟨_, rfl⟩, hp, rfl, hd, Nat.le_refl _, htg⟩) ?_
  rintro k m nw ⟨g, kk, q, hkq, rfl, e1, ⟨_, e2⟩, ⟨_, e3⟩, e4, ⟨_, e5⟩, ⟨_, e6⟩, hq, hl, hdg, hk, ht⟩
  refine pIsCmp ?_
  refine pNameE (by assumption) ?_
  refine pNameE (by assumption) ?_
  refine pLt ?_
  refine pTrue ?_
  by_cases h0 : 2 * q + 1 < hs.length
  · rw [if_pos (decide_eq_true (by lia))]
    obtain ⟨kk, rfl⟩ : ∃ j, kk = j + 1 := ⟨kk - 1, by lia⟩
    rw [suN_succ, if_pos (by lia)] at ht
    refine pCons ?_
    refine pAssign ?_
    refine pBin ?_
    refine pNameE (by assumption) ?_
    refine pIntC fun _ => ?_
    refine pAdd fun _ => ?_
    refine pStoreE ?_
    refine pCons ?_
    refine pCut (KidI H ka n (at0 hs 0) hs.length q (kid lt g q) g) ?_ ?_
    · refine pIf ?_
      refine pIsBool ?_
      refine pAnd ?_
      refine pIsCmp ?_
      refine pNameE rfl ?_
      refine pNameE (by assumption) ?_
      refine pLt ?_
      refine pTrue ?_
      by_cases h1 : 2 * q + 1 + 1 < hs.length
      · rw [if_pos (decide_eq_true (by lia))]
        refine pAnd ?_
        refine pIsNot ?_
        refine pIsCmp ?_
        refine pSub ?_
        refine pNameE (by assumption) ?_
        refine pNameE (by assumption) ?_
        refine pGetKey (p := 2 * q + 1) (by lia) (by lia) ?_
        refine pSub ?_
        refine pNameE (by assumption) ?_
        refine pNameE rfl ?_
        refine pGetKey (p := 2 * q + 1 + 1) (by lia) (by lia) ?_
        refine pLtK C' (r'.mono (by lia)) (hdg _ (at0_mem (by lia))) (hdg _ (at0_mem (by lia))) k1 ?_
        refine pTrue ?_
        by_cases h2 : lt (at0 g (2 * q + 1)) (at0 g (2 * q + 1 + 1)) = true
        · rw [h2]
          have hk' : kid lt g q = 2 * q + 1 := by unfold kid; rw [if_neg (by rw [h2]; simp)]
          rw [hk', if_neg (by decide)]
          refine (if_neg Bool.false_ne_true).mpr ?_
          refine pNil ?_
          exact ⟨rfl, rfl, e1, ⟨_, e2⟩, ⟨_, e3⟩, e4, ⟨_, e5⟩, ⟨_, e6⟩⟩
        · have h2' : lt (at0 g (2 * q + 1)) (at0 g (2 * q + 1 + 1)) = false := by simpa using h2
          rw [h2']
          have hk' : kid lt g q = 2 * q + 1 + 1 := by unfold kid; rw [if_pos ⟨by lia, h2'⟩]
          rw [hk', if_pos (by decide)]
          refine pAnd0 ?_
          refine (if_pos rfl).mpr ?_
          refine pCons ?_
          refine pAssign ?_
          refine pNameE rfl ?_
          refine pStoreE ?_
          refine pNil ?_
          exact ⟨rfl, rfl, e1, ⟨_, e2⟩, ⟨_, e3⟩, e4, ⟨_, e5⟩, ⟨_, rfl⟩⟩
      · rw [if_neg (by simp; lia)]
        have hk' : kid lt g q = 2 * q + 1 := by unfold kid; rw [if_neg (by lia)]
        rw [hk', if_neg (by decide)]
        refine pNil ?_
        exact ⟨rfl, rfl, e1, ⟨_, e2⟩, ⟨_, e3⟩, e4, ⟨_, e5⟩, ⟨_, e6⟩⟩
    · clear e1 e2 e3 e4 e5 e6
      rintro m nw ⟨rfl, e1, ⟨_, e2⟩, ⟨_, e3⟩, e4, ⟨_, e5⟩, ⟨_, e6⟩⟩
      have hkid : kid lt g q < g.length ∧ q < kid lt g q := by unfold kid; split <;> lia
      generalize kid lt g q = j at hkid e6 ht ⊢
      refine pCons ?_
      refine pAssignSub ?_
      refine pSub ?_
      refine pNameE (by assumption) ?_
      refine pNameE (by assumption) ?_
      refine pGetKey hkid.1 (by lia) ?_
      refine pNameE (by assumption) ?_
      refine pNameE (by assumption) ?_
      refine pSetKey (fun _ h => nomatch h) hq (by lia) ?_
      refine pCons ?_
      refine pAssign ?_
      refine pNameE (by assumption) ?_
      refine pStoreE ?_
      refine pCons ?_
      refine pAssign ?_
      refine pBin ?_
      refine pBin ?_
      refine pIntC fun _ => ?_
      refine pNameE rfl ?_
      refine pMul (by mul_fits) fun _ => ?_
      refine pIntC fun _ => ?_
      refine pAdd fun _ => ?_
      refine pStoreE ?_
      refine pNil ?_
      exact ⟨hs.length - j, by lia, _, kk, j, by lia, rfl, e1, ⟨_, e2⟩, ⟨_, rfl⟩, e4, ⟨_, e5⟩, ⟨_, rfl⟩, by rw [List.length_set]; exact hkid.1, by rw [List.length_set]; exact hl, dom_set hdg hkid.1, by rw [List.length_set]; lia, ht⟩
  · rw [if_neg (by simp; lia)]
    have ht' : tgt = (g, q) := by rw [← ht]; cases kk <;> simp [suN]; lia
    subst ht'
    refine pCons ?_
    refine pAssignSub ?_
    refine pNameE (by assumption) ?_
    refine pNameE (by assumption) ?_
    refine pNameE (by assumption) ?_
    refine pSetKey (fun _ h => nomatch h) hq (by lia) ?_
    refine pCons ?_
    refine pExpr ?_
    refine pCall ?_
    refine pFn 4 T' ?_
    refine pWithG (T'.fn 4 (by decide)).2 ?_
    refine pArgs ?_
    refine pNameE (by assumption) ?_
    refine pArgs ?_
    refine pNameE (by assumption) ?_
    refine pArgs ?_
    refine pNameE (by assumption) ?_
    refine pArgs0 ?_
    refine pSiftdown (r'.mono (by lia)) (T'.fn 4 (by decide)).2 T'.nolimit C' k1 (fun _ h => nomatch h) (by rw [List.length_set]; exact hq) (by rw [List.length_set]; lia) (fun i hi => ?_) (Nat.le_refl _) ?_
    · rcases List.mem_or_eq_of_mem_set hi with h | h
      · exact hdg i h
      · rw [h]; exact hd _ (at0_mem hp)
    · refine ⟨rfl, ?_⟩
      refine pNil ?_
      refine ret' _ _ ?_
      rw [at0_set _ _ _ _ hq, if_pos rfl]
end
section
open PySem PySem.W PyProof.Rows PySem.Calls
section
variable {c : Cx} {m : Mp} {nw : Nw}
theorem pSiftup {f H : Addr} {hs : List Nat} {n : Nat} {ka : Nat → Addr} {lt : Nat → Nat → Bool} {dom : Nat → Prop} {h₀ : Heap} {t1 : Tok} {Q : Value → Mp → Nw → Prop} {mg mb : Str → Option Value} {fa : Nat → Addr}
    (r : Rm c.A 14) (T : G mg mb fa h₀) (X : FnAt c.b f 5) (C : CmpOk c.prog c.w H h₀ ka lt dom) (hH0 : h₀.get? H = none) (k0 : ∀ b o, h₀.get? b = some o → c.b.get? b = some o)
    (hne : ∀ q ∈ nw, q.1 ≠ H) (hp : 0 < hs.length) (hsz : hs.length < 2 ^ 20) (hd : ∀ i ∈ hs, dom i)
    (q : Q .none m ((H, keyL ka (sdN lt (at0 hs 0) (suN lt hs.length hs 0).2 ((suN lt hs.length hs 0).1.set (suN lt hs.length hs 0).2 (at0 hs 0)) (suN lt hs.length hs 0).2) n) :: nw)) : P c (call (.ref f) [.ref H, .int 0 t1]) Q m ((H, keyL ka hs n) :: nw) := fun _ _ I =>
  wpAny_call (siftup_c r T (X.keeps I.F.keep) C hH0 (fun b o e => I.F.keep _ _ (k0 b o e)) (I.N _ (.head _)).1 hp hsz hd fun h' tk' kp hH => ⟨_, _, _, _, rfl, inTurn I hne kp hH, q⟩)
end
theorem heappush_c {prog : Program} {w : World} {A : Around} {R : Result → Shared → Prop} {s : Shared} {f H : Addr} {hs : List Nat} {n x : Nat} {ka : Nat → Addr} {lt : Nat → Nat → Bool} {dom : Nat → Prop} {h₀ : Heap} {mg mb : Str → Option Value} {fa : Nat → Addr}
    (r : Rm A 14) (T : G mg mb fa h₀) (X : FnAt s.heap f 2) (C : CmpOk prog w H h₀ ka lt dom) (hH0 : h₀.get? H = none) (k0 : ∀ b o, h₀.get? b = some o → s.heap.get? b = some o)
    (hH : s.heap.get? H = some (keyL ka hs n)) (hsz : hs.length < 2 ^ 20) (hd : ∀ i ∈ hs, dom i) (hx : dom x)
    (ret : ∀ h' tk', (∀ b o, b ≠ H → s.heap.get? b = some o → h'.get? b = some o) → h'.get? H = some (keyL ka (pushN lt hs x) (n + 1)) → R (.ok (.ret .none)) { s with heap := h', toks := tk' }) :
    codeAny (model prog w) A (.call (.ref f) ⟨[.ref H, .ref (ka x)], []⟩) R s := by
  refine pEnterH (i := 2) (binds := [("heap", .ref H), ("item", .ref (ka x))]) X (T.nolimit.keeps k0) r hH (fun _ _ _ => rfl) (locs rfl) (fun cd A' r' => ?_)
  have kH : ∀ b o, h₀.get? b = some o → (s.heap.hide H).get? b = some o := fun b o e => (Heap.hide_ne _ (fun hb => by subst hb; rw [hH0] at e; cases e)).trans (k0 b o e)
  have T' := T.keeps kH
  have ret' : ∀ g m, pushN lt hs x = g → endQ ⟨prog, w, A', s, s.heap.hide H, s.heap.objs.size⟩ R .next m [(H, keyL ka g (n + 1))] := fun g m e h tk I => ret h tk (keep_hide I.F.keep) (by rw [e]; exact I.N.get (.head _))
  clear ret
  generalize hcx : (⟨prog, w, A', s, s.heap.hide H, s.heap.objs.size⟩ : Cx) = c at ret' ⊢
  have hc1 : c.A = A' := by rw [← hcx]
  have hc2 : c.b = s.heap.hide H := by rw [← hcx]
  have hc3 : s.heap.objs.size = c.L := by rw [← hcx]
  have C' : CmpOk c.prog c.w H h₀ ka lt dom := by rw [← hcx]; exact C
  rw [hc3]
  rw [← hc2] at T'
  have k1 : ∀ b o, b ≠ H → h₀.get? b = some o → c.b.get? b = some o := fun b o _ e => by rw [hc2]; exact kH b o e
  rw [← hc1] at r'
  clear hcx hc1 hc2 hc3 C kH T k0 hH
  refine pCons ?_
  refine pExpr ?_
  refine pMeth ?_
  refine pNameE rfl ?_
  refine pGetL (.head _) PySem.F.slot_list_append PySem.F.type_list_append ?_
  refine pWithB ?_
  refine pArgs ?_
  refine pNameE rfl ?_
  refine pArgs0 ?_
  refine pAppend (fun _ h => nomatch h) (by lia) ?_
  refine ⟨rfl, ?_⟩
  refine pCons ?_
  refine pExpr ?_
  refine pCall ?_
  refine pFn 4 T' ?_
  refine pWithG (T'.fn 4 (by decide)).2 ?_
  refine pArgs ?_
  refine pNameE rfl ?_
  refine pArgs ?_
  refine pIntC fun _ => ?_
  refine pArgs ?_
  refine pBin ?_
  refine pCall ?_
  refine pBnFE (by assumption) ?_
  refine pWithB ?_
  refine pArgs ?_
  refine pNameE rfl ?_
  refine pArgs0 ?_
  refine pLenK (by rw [List.length_append]; simp; lia) fun _ => ?_
  refine pIntC fun _ => ?_
  refine pSubI fun _ => ?_
  refine pArgs0 ?_
  have e1 : (((hs ++ [x]).length : Int) - 1) = (hs.length : Int) := by rw [List.length_append]; simp
  rw [e1]
  have e2 : at0 (hs ++ [x]) hs.length = x := by simp [at0]
  refine pSiftdown (r'.mono (by lia)) (T'.fn 4 (by decide)).2 T'.nolimit C' k1 (fun _ h => nomatch h) (by rw [List.length_append]; simp) (by rw [List.length_append]; simp; lia) (fun i hi => ?_) (Nat.le_refl _) ?_
  · rcases List.mem_append.mp hi with h | h
    · exact hd i h
    · rw [List.mem_singleton.mp h]; exact hx
  · refine ⟨rfl, ?_⟩
    refine pNil ?_
    exact ret' _ _ (by rw [e2]; rfl)

theorem heappop_c {prog : Program} {w : World} {A : Around} {R : Result → Shared → Prop} {s : Shared} {f H : Addr} {hs : List Nat} {n : Nat} {ka : Nat → Addr} {lt : Nat → Nat → Bool} {dom : Nat → Prop} {h₀ : Heap} {mg mb : Str → Option Value} {fa : Nat → Addr}
    (r : Rm A 16) (T : G mg mb fa h₀) (X : FnAt s.heap f 3) (C : CmpOk prog w H h₀ ka lt dom) (hH0 : h₀.get? H = none) (k0 : ∀ b o, h₀.get? b = some o → s.heap.get? b = some o)
    (hH : s.heap.get? H = some (keyL ka hs n)) (hsz : hs.length < 2 ^ 20) (hd : ∀ i ∈ hs, dom i) (hne : hs ≠ [])
    (ret : ∀ h' tk', (∀ b o, b ≠ H → s.heap.get? b = some o → h'.get? b = some o) → h'.get? H = some (keyL ka (popN lt hs).2 (n + 1)) → R (.ok (.ret (.ref (ka (popN lt hs).1)))) { s with heap := h', toks := tk' }) :
    codeAny (model prog w) A (.call (.ref f) ⟨[.ref H], []⟩) R s := by
  refine pEnterH (i := 3) (binds := [("heap", .ref H)]) X (T.nolimit.keeps k0) r hH (fun _ _ _ => rfl) (locs rfl) (fun cd A' r' => ?_)
  have kH : ∀ b o, h₀.get? b = some o → (s.heap.hide H).get? b = some o := fun b o e => (Heap.hide_ne _ (fun hb => by subst hb; rw [hH0] at e; cases e)).trans (k0 b o e)
  have T' := T.keeps kH
  have ret' : ∀ p m, popN lt hs = p → endQ ⟨prog, w, A', s, s.heap.hide H, s.heap.objs.size⟩ R (.ret (.ref (ka p.1))) m [(H, keyL ka p.2 (n + 1))] := fun g m e h tk I => by subst e; exact ret h tk (keep_hide I.F.keep) (I.N.get (.head _))
  clear ret
  generalize hcx : (⟨prog, w, A', s, s.heap.hide H, s.heap.objs.size⟩ : Cx) = c at ret' ⊢
  have hc1 : c.A = A' := by rw [← hcx]
  have hc2 : c.b = s.heap.hide H := by rw [← hcx]
  have hc3 : s.heap.objs.size = c.L := by rw [← hcx]
  have C' : CmpOk c.prog c.w H h₀ ka lt dom := by rw [← hcx]; exact C
  rw [hc3]
  rw [← hc2] at T'
  have k1 : ∀ b o, h₀.get? b = some o → c.b.get? b = some o := fun b o e => by rw [hc2]; exact kH b o e
  rw [← hc1] at r'
  clear hcx hc1 hc2 hc3 C kH k0 hH
  obtain ⟨g, l, rfl⟩ : ∃ g l, hs = g ++ [l] := ⟨hs.dropLast, hs.getLast hne, (List.dropLast_concat_getLast hne).symm⟩
  have hg : g.length < 2 ^ 20 := by rw [List.length_append] at hsz; lia
  have hdg : ∀ i ∈ g, dom i := fun i hi => hd i (List.mem_append_left _ hi)
  have hdl : dom l := hd l (List.mem_append_right _ (.head _))
  refine pCons ?_
  refine pAssign ?_
  refine pMeth ?_
  refine pNameE rfl ?_
  refine pGetL (.head _) PySem.F.slot_list_pop PySem.F.type_list_pop ?_
  refine pWithB0 ?_
  refine pPop (fun _ h => nomatch h) hg ?_
  refine pStoreE ?_
  refine pCons ?_
  refine pIf ?_
  refine pIsVal ?_
  refine pNameE rfl ?_
  refine pTruthL (.head _) (by rw [List.size_toArray, keys_length]; lia) ?_
  cases g with
  | nil =>
    refine (if_neg (by simp [keys])).mpr ?_
    refine pNil ?_
    refine pCons ?_
    refine pReturn ?_
    refine pNameE rfl ?_
    exact ret' (l, []) _ rfl
  | cons a g =>
    refine (if_pos (by simp [keys])).mpr ?_
    refine pCons ?_
    refine pAssign ?_
    refine pSub ?_
    refine pNameE rfl ?_
    refine pIntC fun _ => ?_
    refine pGetKey (p := 0) (Nat.zero_lt_succ _) (by lia) ?_
    refine pStoreE ?_
    refine pCons ?_
    refine pAssignSub ?_
    refine pNameE rfl ?_
    refine pNameE rfl ?_
    refine pIntC fun _ => ?_
    refine pSetKey (p := 0) (fun _ h => nomatch h) (Nat.zero_lt_succ _) (by lia) ?_
    refine pCons ?_
    refine pExpr ?_
    refine pCall ?_
    refine pFn 5 T' ?_
    refine pWithG (T'.fn 5 (by decide)).2 ?_
    refine pArgs ?_
    refine pNameE rfl ?_
    refine pArgs ?_
    refine pIntC fun _ => ?_
    refine pArgs0 ?_
    refine pSiftup (r'.mono (by lia)) T (T'.fn 5 (by decide)).2 C' hH0 k1 (fun _ h => nomatch h) (Nat.zero_lt_succ _) hg (fun i hi => ?_) ?_
    · rcases List.mem_or_eq_of_mem_set hi with h | h
      · exact hdg i h
      · rw [h]; exact hdl
    · refine ⟨rfl, ?_⟩
      refine pCons ?_
      refine pReturn ?_
      refine pNameE rfl ?_
      refine ret' (_, _) _ ?_
      show popN lt ((a :: g) ++ [l]) = _
      unfold popN
      simp only [List.dropLast_concat]
      have e : at0 (a :: g ++ [l]) ((a :: g ++ [l]).length - 1) = l := by simp [at0]
      rw [e]
      rfl
end
section
open PySem PySem.W PyProof.Rows PySem.Calls

/-- ahead of a turn of _law_close's loop -/
structure ClI (c : Cx) (pa la : Addr) (row : List Pt) (ks : List Nat) (i : Nat) (m : Mp) (nw : Nw) (d : Addr) (ws : List Value) : Prop where
  e1 : List.lookup ("parts" : Str) m = some (.ref pa)
  e2 : List.lookup ("places" : Str) m = some (.ref la)
  e3 : List.lookup ("out" : Str) m = some (.ref d)
  hd : (d, W.listOf ws.toArray 0) ∈ nw
  hw : IA ws (closeN row ks i)
theorem closeN_length {row : List Pt} {ks : List Nat} (i : Nat) : (closeN row ks i).length ≤ i := by
  induction i with
  | zero => simp [closeN]
  | succ i ih =>
    rw [closeN_succ]
    unfold closeStep
    split
    · rw [List.length_append]
      exact Nat.succ_le_succ ih
    · exact Nat.le_succ_of_le ih
theorem close_c {prog : Program} {w : World} {A : Around} {R : Result → Shared → Prop} {s : Shared} {f pa la : Addr} {ps vs : List Value} {n1 n2 : Nat} {row : List Pt} {ks : List Nat} {mg mb : Str → Option Value} {fa : Nat → Addr}
    (r : Rm A 2) (T : G mg mb fa s.heap) (X : FnAt s.heap f 17) (hp : s.heap.get? pa = some (W.listOf ps.toArray n1)) (hP : RowA ps row) (hl : s.heap.get? la = some (W.listOf vs.toArray n2)) (hL : IA vs ks) (hz : row.length ≤ 2 ^ 10)
    (ret : ∀ h' tk' a ws, (∀ b o, s.heap.get? b = some o → h'.get? b = some o) → s.heap.get? a = none → h'.get? a = some (W.listOf ws.toArray 0) → IA ws (closeF row ks) → R (.ok (.ret (.ref a))) { s with heap := h', toks := tk' }) :
    codeAny (model prog w) A (.call (.ref f) ⟨[.ref pa, .ref la], []⟩) R s := by
  refine pEnter (i := 17) (binds := [("parts", .ref pa), ("places", .ref la)]) X T.nolimit r (fun _ _ _ => rfl) (locs rfl) (fun cd A' r' => ?_)
  have ret' : ∀ a ws m nw, (a, W.listOf ws.toArray 0) ∈ nw → IA ws (closeF row ks) → endQ ⟨prog, w, A', s, s.heap, s.heap.objs.size⟩ R (.ret (.ref a)) m nw := fun a ws m nw ha hw h tk I => ret h tk a ws I.F.keep (I.N _ ha).2.2 (I.N _ ha).1 hw
  clear ret
  generalize hcx : (⟨prog, w, A', s, s.heap, s.heap.objs.size⟩ : Cx) = c at ret' ⊢
  have hc1 : c.A = A' := by rw [← hcx]
  have hc2 : c.b = s.heap := by rw [← hcx]
  have hc3 : s.heap.objs.size = c.L := by rw [← hcx]
  rw [hc3]
  rw [← hc2] at T hp hl
  rw [← hc1] at r'
  clear hcx hc1 hc2 hc3
  have Hp : ∀ nw, Has c nw pa (W.listOf ps.toArray n1) := fun _ => .inl hp
  have Hl : ∀ nw, Has c nw la (W.listOf vs.toArray n2) := fun _ => .inl hl
  refine pCons ?_
  refine pAssign ?_
  refine pList ?_
  refine pArgs0 ?_
  refine ⟨by decide, fun d _ => ?_⟩
  refine pStoreE ?_
  refine pCons ?_
  refine pForN (N := row.length + 1) (Pv := fun i v => ∃ t, v = .int (i : Int) t) (av := []) (fun i m nw => ∃ d ws, ClI c pa la row ks i m nw d ws) ?_ ?_ ?_
  · refine pCall ?_
    refine pBnTE (by assumption) ?_
    refine pWithT ?_
    refine pArgs ?_
    refine pBin ?_
    refine pCall ?_
    refine pBnFE (by assumption) ?_
    refine pWithB ?_
    refine pArgs ?_
    refine pNameE rfl ?_
    refine pArgs0 ?_
    refine pLenL (Hp _) (by rw [hP.len]; lia) fun _ => ?_
    refine pIntC fun _ => ?_
    refine pAdd fun _ => ?_
    refine pArgs0 ?_
    refine pRange1 fun a o _ ho => ?_
    refine ⟨itRange r'.hd (.head _) (by rw [hP.len] at ho; exact ho) (by lia) (fun _ h => nomatch h), ⟨d, [], rfl, rfl, rfl, .tail _ (.head _), ?_⟩⟩
    exact IntsAre.nil
  · rintro i v m nw ext hi ⟨t, rfl⟩ ⟨d, ws, e1, e2, e3, hd, hw⟩ _
    refine pStoreE ?_
    refine pCons ?_
    have hlt : i < row.length + 1 := hi
    refine pIfB (decide (i ∈ ks ∨ (0 < i ∧ row[i - 1]? = some .star ∧ (i - 1) ∈ closeN row ks i))) ?_ ?_
    · refine pIsBool ?_
      refine pOr ?_
      refine pIsCmp ?_
      refine pNameE rfl ?_
      refine pNameE (by assumption) ?_
      refine pIn _ (hL.eq i t) (Hl _) ?_
      refine pTrue ?_
      rw [hL.any]
      by_cases a1 : i ∈ ks
      · rw [if_pos (decide_eq_true a1)]
        exact ⟨by simp [a1], rfl, rfl⟩
      · rw [if_neg (by simpa using a1)]
        refine pOr ?_
        refine pIsBool ?_
        refine pAnd ?_
        refine pIsCmp ?_
        refine pNameE rfl ?_
        refine pIntC fun _ => ?_
        refine pGt ?_
        refine pTrue ?_
        by_cases a2 : 0 < i
        · rw [if_pos (decide_eq_true (by lia))]
          refine pAnd ?_
          refine pIsCmp ?_
          refine pSub ?_
          refine pNameE (by assumption) ?_
          refine pBin ?_
          refine pNameE rfl ?_
          refine pIntC fun _ => ?_
          refine pSubI fun _ => ?_
          have e : ((i : Int) - 1) = ((i - 1 : Nat) : Int) := by lia
          rw [e]
          obtain ⟨v, hv, hpv⟩ := hP.get (k := i - 1) (by lia)
          refine pGet (Hp _) hv (by lia) ?_
          refine pNoneC ?_
          refine pIsNone ?_
          refine pTrue ?_
          rw [hpv.isNone]
          have e2 : row[i - 1]? = some row[i - 1] := List.getElem?_eq_getElem (by lia)
          by_cases a3 : row[i - 1] = .star
          · rw [if_pos (decide_eq_true a3)]
            refine pAnd ?_
            refine pIsCmp ?_
            refine pBin ?_
            refine pNameE rfl ?_
            refine pIntC fun _ => ?_
            refine pSubI fun _ => ?_
            refine pNameE (by assumption) ?_
            rw [e]
            refine pIn _ (hw.eq (i - 1) _) (.inr (List.mem_append_right _ hd)) ?_
            refine pTrue ?_
            rw [hw.any]
            by_cases a4 : (i - 1) ∈ closeN row ks i
            · rw [if_pos (decide_eq_true a4)]
              refine pAnd0 ?_
              refine (if_pos rfl).mpr ?_
              exact ⟨by simp [a1, a2, a3, a4, e2], rfl, rfl⟩
            · rw [if_neg (by simpa using a4)]
              refine (if_neg Bool.false_ne_true).mpr ?_
              refine pOr0 ?_
              exact ⟨by simp [a1, a2, a3, a4, e2], rfl, rfl⟩
          · rw [if_neg (by simpa using a3)]
            refine (if_neg Bool.false_ne_true).mpr ?_
            refine pOr0 ?_
            exact ⟨by simp [a1, a2, a3, e2], rfl, rfl⟩
        · rw [if_neg (by simp; lia)]
          refine (if_neg Bool.false_ne_true).mpr ?_
          refine pOr0 ?_
          exact ⟨by simp [a1, a2], rfl, rfl⟩
    · have hst : closeN row ks (i + 1) = closeStep row ks (closeN row ks i) i := closeN_succ ..
      unfold closeStep at hst
      by_cases a : i ∈ ks ∨ (0 < i ∧ row[i - 1]? = some .star ∧ (i - 1) ∈ closeN row ks i)
      · rw [if_pos (decide_eq_true a)]
        rw [if_pos a] at hst
        refine pCons ?_
        refine pAssign ?_
        refine pBin ?_
        refine pNameE (by assumption) ?_
        refine pList ?_
        refine pArgs ?_
        refine pNameE rfl ?_
        refine pArgs0 ?_
        refine ⟨Nat.le_of_ble_eq_true rfl, fun b fb => ?_⟩
        refine pAddL (.inr (.tail _ (List.mem_append_right _ hd))) (.inr (.head _)) (by rw [hw.length]; have := closeN_length (row := row) (ks := ks) i; simp; lia) fun d' fd => ?_
        refine pStoreE ?_
        refine pNil ?_
        refine pNil ?_
        refine ⟨fun p hp => .tail _ (.tail _ (List.mem_append_left _ hp)), [(d', W.listOf (ws ++ [Value.int (i : Int) t]).toArray 0)], fun p hp => ?_, d', ws ++ [Value.int (i : Int) t], e1, e2, rfl, .head _, ?_⟩
        · rw [List.mem_singleton.mp hp]
          exact ⟨.head _, .inr fun q hq => fd q (.tail _ (List.mem_append_left _ hq))⟩
        · rw [hst]
          show IntsAre _ _
          rw [List.map_append]
          exact IntsAre.append hw (.cons _ _ .nil)
      · rw [if_neg (by simpa using a)]
        rw [if_neg a] at hst
        refine pNil ?_
        refine pNil ?_
        refine ⟨fun p hp => List.mem_append_left _ hp, nw, fun p hp => ⟨List.mem_append_right _ hp, .inl hp⟩, d, ws, e1, e2, e3, hd, ?_⟩
        rw [hst]; exact hw
  · rintro m nw ⟨d, ws, e1, e2, e3, hd, hw⟩
    refine pCons ?_
    refine pReturn ?_
    refine pNameE (by assumption) ?_
    exact ret' d ws _ _ hd hw
end
section
open PySem PySem.W PyProof.Rows PySem.Calls

section
variable {c : Cx} {m : Mp} {nw : Nw} {Q : Value → Mp → Nw → Prop} {mg mb : Str → Option Value} {fa : Nat → Addr}
theorem inFresh {h h' : Heap} {a : Addr} {o : Obj} (I : In c m nw h) (k : ∀ b x, h.get? b = some x → h'.get? b = some x) (hn : h.get? a = none) (ho : h'.get? a = some o) : In c m ((a, o) :: nw) h' ∧ ∀ p ∈ nw, p.1 ≠ a := by
  refine ⟨⟨I.F.keeps k, fun p hp => ?_⟩, fun p hp e => ?_⟩
  · rcases List.mem_cons.mp hp with rfl | hp
    · refine ⟨ho, fun e => ?_, ?_⟩
      · obtain ⟨oL, _, _, hL, _⟩ := I.F.ns
        rw [show c.L = a from e.symm, hn] at hL; cases hL
      · cases e : c.b.get? a with
        | none => rfl
        | some x => have := I.F.keep _ _ e; rw [hn] at this; cases this
    · exact ⟨k _ _ (I.N p hp).1, (I.N p hp).2⟩
  · have := (I.N p hp).1; rw [e, hn] at this; cases this
theorem pClose {pa la : Addr} {ps vs : List Value} {n1 n2 : Nat} {row : List Pt} {ks : List Nat} (r : Rm c.A 2) (T : G mg mb fa c.b) (hp : Has c nw pa (W.listOf ps.toArray n1)) (hP : RowA ps row) (hl : Has c nw la (W.listOf vs.toArray n2)) (hL : IA vs ks) (hz : row.length ≤ 2 ^ 10)
    (q : ∀ a ws, (∀ p ∈ nw, p.1 ≠ a) → IA ws (closeF row ks) → Q (.ref a) m ((a, W.listOf ws.toArray 0) :: nw)) : P c (call (.ref (fa 17)) [.ref pa, .ref la]) Q m nw := fun h tk I =>
  wpAny_call (close_c r (T.keeps I.F.keep) ((T.fn 17 (by decide)).2.keeps I.F.keep) (hp.get I) hP (hl.get I) hL hz fun h' tk' a ws k hn hg hw =>
    let ⟨I', f⟩ := inFresh I k hn hg
    ⟨_, _, _, _, rfl, I', q a ws f hw⟩)
end

/-- equality of the values that stand in rows and patterns -/
noncomputable def eqV : Value → Value → Bool
  | .none, .none => true
  | .str a _, .str b _ => a == b
  | _, _ => false
theorem eqV_none_none : MeetsSeq.EqGives .none .none true := fun prog w A E s Q h => PySem.SeqAt.EqAt.same .none prog w E Q h
theorem eqV_ok {y x : Value} (hy : y = .none ∨ ∃ a t, y = .str a t) (hx : x = .none ∨ ∃ a t, x = .str a t) : MeetsSeq.EqGives y x (eqV y x) := by
  rcases hy with rfl | ⟨a, t, rfl⟩ <;> rcases hx with rfl | ⟨b, u, rfl⟩
  · exact eqV_none_none
  · exact fun prog w A E s Q h => PySem.SeqAt.EqAt.none_str b u prog w E Q h
  · exact fun prog w A E s Q h => PySem.SeqAt.EqAt.str_none a t prog w E Q h
  · exact eqGives_str a b t u
theorem PtV.kind {p : Pt} {v : Value} (h : PtV p v) : v = .none ∨ ∃ a t, v = .str a t := by
  cases p with
  | star => exact .inl h
  | any => obtain ⟨t, rfl⟩ := h; exact .inr ⟨_, _, rfl⟩
  | sg a => obtain ⟨t, rfl⟩ := h; exact .inr ⟨_, _, rfl⟩
theorem PtV.takes {p : Pt} {v : Value} (h : PtV p v) (ch : Nat) (t u : Tok) : ([.none, .str "any" t, .str ⟨#[ch]⟩ u] : List Value).any (fun y => eqV y v) = takes p ch := by
  cases p with
  | star => rw [show v = .none from h]; rfl
  | any => obtain ⟨t, rfl⟩ := h; rfl
  | sg a =>
    obtain ⟨t, rfl⟩ := h
    have e : (("any" : Str) == ⟨#[a]⟩) = false := by
      rw [beq_eq_false_iff_ne]
      intro h
      have := congrArg (fun x : Str => x.cps.size) h
      exact absurd this (by show ¬ (3 = 1); decide)
    show (false || ((("any" : Str) == ⟨#[a]⟩) || ((⟨#[ch]⟩ : Str) == ⟨#[a]⟩) || false)) = (a == ch)
    rw [e]
    rw [Bool.eq_iff_iff]
    simp
    exact eq_comm

/-- _law_step's test and its step -/
noncomputable def tst (row : List Pt) (ch k : Nat) : Bool := match row[k]? with
  | some p => takes p ch
  | none => false
noncomputable def nxtP (row : List Pt) (k : Nat) : Nat := if row[k]? = some .star then k else k + 1
theorem onF_eq (row : List Pt) (ks : List Nat) (ch : Nat) : onF row ks ch = (((List.range ks.length).filter fun i => tst row ch (at0 ks i)).map fun i => nxtP row (at0 ks i)) := by
  have e : ks = (List.range ks.length).map (at0 ks) := by
    apply List.ext_getElem
    · simp
    · intro i h1 h2
      simp [at0_get _ _ h1]
  show (ks.filter (tst row ch)).map (nxtP row) = _
  conv => lhs; rw [e]
  rw [List.filter_map, List.map_map]
  rfl
theorem ia_of {zs : List (Nat × Value × Nw)} {f : Nat → Nat} (h : ∀ z ∈ zs, z.2.2 = [] ∧ ∃ t, z.2.1 = .int (f z.1 : Int) t) : IA (zs.map (·.2.1)) ((zs.map (·.1)).map f) ∧ zs.flatMap (·.2.2) = [] := by
  induction zs with
  | nil => exact ⟨.nil, rfl⟩
  | cons z zs ih =>
    obtain ⟨h1, t, h2⟩ := h z List.mem_cons_self
    obtain ⟨i1, i2⟩ := ih fun y hy => h y (List.mem_cons_of_mem _ hy)
    refine ⟨?_, ?_⟩
    · rw [List.map_cons, h2]
      exact .cons _ _ i1
    · rw [List.flatMap_cons, h1, i2]; rfl
theorem step_c {prog : Program} {w : World} {A : Around} {R : Result → Shared → Prop} {s : Shared} {f pa la : Addr} {ps vs : List Value} {n1 n2 ch : Nat} {t0 : Tok} {row : List Pt} {ks : List Nat} {mg mb : Str → Option Value} {fa : Nat → Addr}
    (r : Rm A 4) (T : G mg mb fa s.heap) (X : FnAt s.heap f 18) (hp : s.heap.get? pa = some (W.listOf ps.toArray n1)) (hP : RowA ps row) (hl : s.heap.get? la = some (W.listOf vs.toArray n2)) (hL : IA vs ks) (hz : row.length ≤ 2 ^ 10) (hz2 : ks.length ≤ 2 ^ 10)
    (ret : ∀ h' tk' a ws, (∀ b o, s.heap.get? b = some o → h'.get? b = some o) → s.heap.get? a = none → h'.get? a = some (W.listOf ws.toArray 0) → IA ws (stepF row ks ch) → R (.ok (.ret (.ref a))) { s with heap := h', toks := tk' }) :
    codeAny (model prog w) A (.call (.ref f) ⟨[.ref pa, .ref la, .str ⟨#[ch]⟩ t0], []⟩) R s := by
  refine pEnterC (i := 18) (binds := [("parts", .ref pa), ("places", .ref la), ("sign", .str ⟨#[ch]⟩ t0)]) (mp := [("places", .ref la)]) X T.nolimit r (fun _ _ _ => rfl) (fun n => kindsX rfl n) (by decide) (fun L cd => ?_) (fun cd A' cells r' Y => ?_)
  · rw [cons_lookup]; rfl
  have Y' : CellsAre _ [("sign", s.heap.objs.size + 2), ("parts", s.heap.objs.size + 1)] cells := Y
  obtain ⟨o1, o2, rfl, d1, d2⟩ := Y'.two
  have d1' : o1.data = .cell (some (.str ⟨#[ch]⟩ t0)) := d1
  have d2' : o2.data = .cell (some (.ref pa)) := d2
  clear d1 d2 Y Y'
  have ret' : ∀ a ws m nw, (a, W.listOf ws.toArray 0) ∈ nw → IA ws (stepF row ks ch) → endQ ⟨prog, w, A', s, s.heap, s.heap.objs.size⟩ R (.ret (.ref a)) m nw := fun a ws m nw ha hw h tk I => ret h tk a ws I.F.keep (I.N _ ha).2.2 (I.N _ ha).1 hw
  clear ret
  generalize hcx : (⟨prog, w, A', s, s.heap, s.heap.objs.size⟩ : Cx) = c at ret' ⊢
  have hc1 : c.A = A' := by rw [← hcx]
  have hc2 : c.b = s.heap := by rw [← hcx]
  have hc3 : s.heap.objs.size = c.L := by rw [← hcx]
  rw [hc3]
  rw [← hc2] at T hp hl
  rw [← hc1] at r'
  clear hcx hc1 hc2 hc3
  have Hl : ∀ nw, Has c nw la (W.listOf vs.toArray n2) := fun _ => .inl hl
  have hvl : vs.length = ks.length := hL.length
  refine pCons ?_
  refine pAssignComp (xs := ["k"]) (N := vs.length) (Pv := fun i vals => ∃ v, vals = [v] ∧ vs[i]? = some v) (p := fun i => tst row ch (at0 ks i)) (El := fun i y mk => mk = [] ∧ ∃ t, y = .int ((nxtP row (at0 ks i) : Nat) : Int) t) ?_ (by rfl) rfl (by rfl) (by rfl) (by lia) (by rfl) (by decide) (by rfl) (by decide) (by decide)
  refine pNameE rfl ⟨(itList (av := []) r'.hd (Hl _) (fun _ h => nomatch h)).toT _ _, ?_, ?_⟩
  · rintro h1 C I1 i vals m0 nw' hi ⟨v, rfl, hv⟩
    have hi' : i < ks.length := hvl ▸ hi
    obtain ⟨tv, hv'⟩ := hL.get hi'
    rw [hv] at hv'
    cases hv'
    have hke : at0 ks i = ks[i] := at0_get _ _ hi'
    generalize ks[i] = k at hke ⊢
    have T1 : G mg mb fa h1 := T.keeps I1.F.keep
    have Hp1 : ∀ nw, Has { c with b := h1, L := C } nw pa (W.listOf ps.toArray n1) := fun _ => .inl (I1.F.keep _ _ hp)
    have c1 : ∀ nw, CellA { c with b := h1, L := C } nw (c.L + 1) (.ref pa) := fun _ => ⟨o2, .inl (I1.N _ (.tail _ (.head _))).1, d2'⟩
    have c2 : ∀ nw, CellA { c with b := h1, L := C } nw (c.L + 2) (.str ⟨#[ch]⟩ t0) := fun _ => ⟨o1, .inl (I1.N _ (.head _)).1, d1'⟩
    refine pTests1 ?_
    refine pIsBool ?_
    refine pAnd ?_
    refine pIsCmp ?_
    refine pNameE rfl ?_
    refine pCall ?_
    refine pBnFE (by assumption) ?_
    refine pWithB ?_
    refine pArgs ?_
    refine pCellE rfl (by first | assumption | (apply_assumption; done) | (apply_assumption; assumption) | (apply_assumption; intro p hp; (repeat (first | assumption | refine List.mem_cons_of_mem _ ?_)); done)) ?_
    refine pArgs0 ?_
    refine pLenL (Hp1 _) (by rw [hP.len]; lia) fun _ => ?_
    refine pLt ?_
    refine pTrue ?_
    rw [hP.len]
    show if _ then _ else _
    by_cases a1 : k < row.length
    · rw [if_pos (decide_eq_true (Int.ofNat_lt.mpr a1))]
      obtain ⟨v, hv2, hpv⟩ := hP.get a1
      have e2 : row[k]? = some row[k] := List.getElem?_eq_getElem a1
      refine pAnd ?_
      refine pIsCmp ?_
      refine pSub ?_
      refine pCellE rfl (by first | assumption | (apply_assumption; done) | (apply_assumption; assumption) | (apply_assumption; intro p hp; (repeat (first | assumption | refine List.mem_cons_of_mem _ ?_)); done)) ?_
      refine pNameE rfl ?_
      refine pGet (Hp1 _) hv2 (by lia) ?_
      refine pList ?_
      refine pArgs ?_
      refine pNoneC ?_
      refine pArgs ?_
      refine pStrC fun _ => ?_
      refine pArgs ?_
      refine pCellE rfl (by first | assumption | (apply_assumption; done) | (apply_assumption; assumption) | (apply_assumption; intro p hp; (repeat (first | assumption | refine List.mem_cons_of_mem _ ?_)); done)) ?_
      refine pArgs0 ?_
      refine ⟨Nat.le_of_ble_eq_true rfl, fun b fb => ?_⟩
      refine pIn (fun y => eqV y v) (fun y hy => eqV_ok ?_ hpv.kind) (.inr (.head _)) ?_
      · simp only [List.mem_cons, List.not_mem_nil, or_false] at hy
        rcases hy with rfl | rfl | rfl
        · exact .inl rfl
        · exact .inr ⟨_, _, rfl⟩
        · exact .inr ⟨_, _, rfl⟩
      rw [hpv.takes]
      refine pTrue ?_
      have et : tst row ch (at0 ks i) = takes row[k] ch := by rw [hke]; unfold tst; rw [e2]
      cases htk : takes row[k] ch with
      | false =>
        rw [if_neg (by decide)]
        exact ⟨fun q hq => .tail _ hq, (et.trans htk).symm, fun h => nomatch h⟩
      | true =>
        refine (if_pos rfl).mpr ?_
        refine pAnd0 ?_
        refine ⟨fun q hq => .tail _ hq, (et.trans htk).symm, fun _ => ?_⟩
        refine pIfExp ?_
        refine pIsCmp ?_
        refine pSub ?_
        refine pCellE rfl (by first | assumption | (apply_assumption; done) | (apply_assumption; assumption) | (apply_assumption; intro p hp; (repeat (first | assumption | refine List.mem_cons_of_mem _ ?_)); done)) ?_
        refine pNameE rfl ?_
        refine pGet (Hp1 _) hv2 (by lia) ?_
        refine pNoneC ?_
        refine pIsNone ?_
        refine pTrue ?_
        rw [hpv.isNone]
        by_cases a3 : row[k] = .star
        · rw [if_pos (decide_eq_true a3)]
          refine pNameE rfl ?_
          exact ⟨[], fun q hq => .tail _ hq, (fun _ h => nomatch h), rfl, _, by rw [hke]; unfold nxtP; rw [e2, a3]; rfl⟩
        · rw [if_neg (by simpa using a3)]
          refine pBin ?_
          refine pNameE rfl ?_
          refine pIntC fun _ => ?_
          refine pAdd fun _ => ?_
          exact ⟨[], fun q hq => .tail _ hq, (fun _ h => nomatch h), rfl, _, by rw [hke]; unfold nxtP; rw [e2, if_neg (by simpa using a3)]; rfl⟩
    · rw [if_neg (by simpa using a1)]
      refine ⟨fun q hq => hq, ?_, fun h => nomatch h⟩
      show false = tst row ch (at0 ks i)
      rw [hke]
      unfold tst
      rw [List.getElem?_eq_none (by lia)]
  · intro D zs n hne _ G'
    obtain ⟨ia, fl⟩ := ia_of (f := fun i => nxtP row (at0 ks i)) G'.el
    rw [G'.is, hvl, ← onF_eq] at ia
    rw [fl]
    have c1 : CellA c ((D, W.listOf (zs.map (·.2.1)).toArray n) :: ([] ++ [(c.L + 2, o1), (c.L + 1, o2)])) (c.L + 1) (.ref pa) := ⟨o2, .inr (.tail _ (.tail _ (.head _))), d2'⟩
    refine pCons ?_
    refine pReturn ?_
    refine pCall ?_
    refine pFnE 17 T ?_
    refine pWithG (T.fn 17 (by decide)).2 ?_
    refine pArgs ?_
    refine pCellE rfl (by first | assumption | (apply_assumption; done) | (apply_assumption; assumption) | (apply_assumption; intro p hp; (repeat (first | assumption | refine List.mem_cons_of_mem _ ?_)); done)) ?_
    refine pArgs ?_
    refine pNameE rfl ?_
    refine pArgs0 ?_
    refine pClose (r'.mono (by lia)) T (.inl hp) hP (.inr (.head _)) ia hz fun a ws _ hw => ?_
    exact ret' _ _ _ _ (.head _) hw
end
section
open PySem PySem.W PyProof.Rows PySem.Calls

/-- the three looks of two items' order -/
noncomputable def eqI (x y : It) : Nat → Bool
  | 0 => (x.price : Int) == (y.price : Int)
  | 1 => ((x.name.length : Nat) : Int) == ((y.name.length : Nat) : Int)
  | _ => (⟨x.name.toArray⟩ : Str) == ⟨y.name.toArray⟩
noncomputable def ordI (x y : It) : Nat → Bool
  | 0 => decide ((x.price : Int) < (y.price : Int))
  | 1 => decide (((x.name.length : Nat) : Int) < ((y.name.length : Nat) : Int))
  | _ => decide (x.name < y.name)
theorem lex_ilt (x y : It) : lexN (eqI x y) (ordI x y) 3 0 = ilt x y := by
  show (if ((x.price : Int) == (y.price : Int)) = true then (if (((x.name.length : Nat) : Int) == ((y.name.length : Nat) : Int)) = true then (if ((⟨x.name.toArray⟩ : Str) == ⟨y.name.toArray⟩) = true then false else decide (x.name < y.name)) else decide (((x.name.length : Nat) : Int) < ((y.name.length : Nat) : Int))) else decide ((x.price : Int) < (y.price : Int))) = ilt x y
  unfold ilt
  by_cases h1 : x.price = y.price
  · rw [if_pos (by simp [h1]), if_pos h1]
    by_cases h2 : x.name.length = y.name.length
    · rw [if_pos (by simp [h2]), if_pos h2]
      by_cases h3 : x.name = y.name
      · rw [if_pos (by simp [h3]), h3, wlt_irrefl]
      · rw [if_neg (by simpa using h3), wlt_lt]
    · rw [if_neg (by simp; lia), if_neg h2]
      rw [Bool.eq_iff_iff]; simp
  · rw [if_neg (by simp; lia), if_neg h1]
    rw [Bool.eq_iff_iff]; simp

theorem compare_c {prog : Program} {w : World} {A : Around} {R : Result → Shared → Prop} {s : Shared} {f a b : Addr} {xs ys : List Value} {n1 n2 : Nat} {x y : It} {mg mb : Str → Option Value} {fa : Nat → Addr}
    (r : Rm A 2) (T : G mg mb fa s.heap) (X : FnAt s.heap f 19) (ha : s.heap.get? a = some (W.listOf xs.toArray n1)) (hx : ItemA xs x) (hb : s.heap.get? b = some (W.listOf ys.toArray n2)) (hy : ItemA ys y) (hz : x.name.length < 2 ^ 20) (hz2 : y.name.length < 2 ^ 20)
    (ret : ∀ h' tk' k t, (∀ b o, s.heap.get? b = some o → h'.get? b = some o) → (k < 0 ↔ ilt x y = true) → R (.ok (.ret (.int k t))) { s with heap := h', toks := tk' }) :
    codeAny (model prog w) A (.call (.ref f) ⟨[.ref a, .ref b], []⟩) R s := by
  refine pEnter (i := 19) (binds := [("one", .ref a), ("two", .ref b)]) X T.nolimit r (fun _ _ _ => rfl) (locs rfl) (fun cd A' r' => ?_)
  have ret' : ∀ k t m nw, (k < 0 ↔ ilt x y = true) → endQ ⟨prog, w, A', s, s.heap, s.heap.objs.size⟩ R (.ret (.int k t)) m nw := fun k t m nw hk h tk I => ret h tk k t I.F.keep hk
  clear ret
  generalize hcx : (⟨prog, w, A', s, s.heap, s.heap.objs.size⟩ : Cx) = c at ret' ⊢
  have hc1 : c.A = A' := by rw [← hcx]
  have hc2 : c.b = s.heap := by rw [← hcx]
  have hc3 : s.heap.objs.size = c.L := by rw [← hcx]
  rw [hc3]
  rw [← hc2] at T ha hb
  rw [← hc1] at r'
  clear hcx hc1 hc2 hc3
  obtain ⟨t1, u1, o1, rfl⟩ := hx.ex
  obtain ⟨t2, u2, o2, rfl⟩ := hy.ex
  have Ha : ∀ nw, Has c nw a (W.listOf [.int (x.price : Int) t1, .str ⟨x.name.toArray⟩ u1, o1].toArray n1) := fun _ => .inl ha
  have Hb : ∀ nw, Has c nw b (W.listOf [.int (y.price : Int) t2, .str ⟨y.name.toArray⟩ u2, o2].toArray n2) := fun _ => .inl hb
  refine pCons ?_
  refine pSwap (xs := ["first", "other"]) r'.hd ?_ rfl (by rfl) (by rfl) (by rfl) (by rfl)
  refine pTuple ?_
  refine pArgs ?_
  refine pList ?_
  refine pArgs ?_
  refine pSub ?_
  refine pNameE rfl ?_
  refine pIntC fun _ => ?_
  refine pGet (p := 0) (Ha _) rfl (by decide) ?_
  refine pArgs ?_
  refine pCall ?_
  refine pBnFE (by assumption) ?_
  refine pWithB ?_
  refine pArgs ?_
  refine pSub ?_
  refine pNameE rfl ?_
  refine pIntC fun _ => ?_
  refine pGet (p := 1) (Ha _) rfl (by decide) ?_
  refine pArgs0 ?_
  refine pLenS (by simpa using Nat.lt_trans hz (by decide)) fun _ => ?_
  refine pArgs ?_
  refine pSub ?_
  refine pNameE rfl ?_
  refine pIntC fun _ => ?_
  refine pGet (p := 1) (Ha _) rfl (by decide) ?_
  refine pArgs0 ?_
  refine ⟨Nat.le_of_ble_eq_true rfl, fun d1 fd1 => ?_⟩
  refine pArgs ?_
  refine pList ?_
  refine pArgs ?_
  refine pSub ?_
  refine pNameE rfl ?_
  refine pIntC fun _ => ?_
  refine pGet (p := 0) (Hb _) rfl (by decide) ?_
  refine pArgs ?_
  refine pCall ?_
  refine pBnFE (by assumption) ?_
  refine pWithB ?_
  refine pArgs ?_
  refine pSub ?_
  refine pNameE rfl ?_
  refine pIntC fun _ => ?_
  refine pGet (p := 1) (Hb _) rfl (by decide) ?_
  refine pArgs0 ?_
  refine pLenS (by simpa using Nat.lt_trans hz2 (by decide)) fun _ => ?_
  refine pArgs ?_
  refine pSub ?_
  refine pNameE rfl ?_
  refine pIntC fun _ => ?_
  refine pGet (p := 1) (Hb _) rfl (by decide) ?_
  refine pArgs0 ?_
  refine ⟨Nat.le_of_ble_eq_true rfl, fun d2 fd2 => ?_⟩
  refine pArgs0 ?_
  refine ⟨Nat.le_of_ble_eq_true rfl, fun d3 fd3 => ?_⟩
  refine ⟨d3, _, rfl, rfl, .inr (.head _), ?_⟩
  have hlex : lexN (eqI x y) (ordI x y) 3 0 = ilt x y := lex_ilt x y
  refine pCons ?_
  refine pReturn ?_
  refine pIfExp ?_
  refine pIsCmp ?_
  refine pNameE rfl ?_
  refine pNameE rfl ?_
  refine pLtL (eqI x y) (ordI x y) r'.units (.inr (.tail _ (.tail _ (.head _)))) (.inr (.tail _ (.head _))) rfl ?_ ?_ ?_
  · intro A s j h1 h2
    rcases j with _ | _ | _ | j
    · exact PySem.SeqAt.EqAt.int_int _ _ _ _
    · exact PySem.SeqAt.EqAt.int_int _ _ _ _
    · exact PySem.SeqAt.EqAt.str_str _ _ _ _
    · exact absurd h1 (by simp)
  · intro A s j h1 h2
    rcases j with _ | _ | _ | j
    · exact fun prog w E Q h => lt_int h
    · exact fun prog w E Q h => lt_int h
    · exact fun prog w E Q h => PySem.P.lt_str h
    · exact absurd h1 (by simp)
  refine pTrue ?_
  show if lexN (eqI x y) (ordI x y) 3 0 = true then _ else _
  rw [hlex]
  by_cases hi : ilt x y = true
  · rw [if_pos hi]
    refine pUn ?_
    refine pIntC fun _ => ?_
    refine pNeg fun _ => ?_
    exact ret' _ _ _ _ ⟨fun _ => hi, fun _ => by decide⟩
  · rw [if_neg hi]
    refine pCall ?_
    refine pBnTE (by assumption) ?_
    refine pWithT ?_
    refine pArgs ?_
    refine pCmp ?_
    refine pNameE rfl ?_
    refine pNameE rfl ?_
    refine pGtL (eqI x y) (ordI y x) r'.units (.inr (.tail _ (.tail _ (.head _)))) (.inr (.tail _ (.head _))) rfl ?_ ?_ ?_
    · intro A s j h1 h2
      rcases j with _ | _ | _ | j
      · exact PySem.SeqAt.EqAt.int_int _ _ _ _
      · exact PySem.SeqAt.EqAt.int_int _ _ _ _
      · exact PySem.SeqAt.EqAt.str_str _ _ _ _
      · exact absurd h1 (by simp)
    · intro A s j h1 h2
      rcases j with _ | _ | _ | j
      · exact fun prog w E Q h => gt_int h
      · exact fun prog w E Q h => gt_int h
      · exact fun prog w E Q h => PySem.P.gt_str h
      · exact absurd h1 (by simp)
    refine pArgs0 ?_
    refine pIntB fun _ => ?_
    refine ret' _ _ _ _ ⟨fun h => ?_, fun h => absurd h hi⟩
    split at h
    · exact absurd h (by decide)
    · exact absurd h (by decide)
end
section
open PySem PySem.W PyProof.Rows PySem.Calls

theorem IA.snoc {vs : List Value} {ks : List Nat} (h : IA vs ks) (k : Nat) (t : Tok) : IA (vs ++ [.int (k : Int) t]) (ks ++ [k]) := by
  show IntsAre _ _
  rw [List.map_append]
  exact IntsAre.append h (.cons _ _ .nil)
theorem minOf_three (a b c : Nat) : MinOf [a, b, c] (min (min a b) c) := by
  refine ⟨?_, fun x hx => ?_⟩
  · simp only [List.mem_cons, List.not_mem_nil, or_false]; lia
  · simp only [List.mem_cons, List.not_mem_nil, or_false] at hx; lia
theorem ptOf_star {x : Nat} : ptOf x = .star ↔ x = 42 := by
  unfold ptOf
  by_cases h : x = 42
  · simp [h]
  · by_cases h2 : x = 63 <;> simp [h, h2]
theorem minOf_ways (l : List Nat) {k : Nat} (h : MinOf (1000 :: l) k) : k = minL l := by
  refine h.unique ⟨?_, fun x hx => ?_⟩
  · rcases minL_mem l with e | e
    · rw [e]; exact List.mem_cons_self
    · exact List.mem_cons_of_mem _ e
  · rcases List.mem_cons.mp hx with rfl | hx
    · exact minL_le_top l
    · exact minL_le hx
/-- the prices' dict -/
noncomputable def prD (pr : Nat → Nat) (ta tb tc : Tok) : List (Str × Value) := [(S [97], .int (pr 97 : Int) ta), (S [98], .int (pr 98 : Int) tb), (S [99], .int (pr 99 : Int) tc)]
noncomputable def Sgn (p : List Nat) : Prop := ∀ c ∈ p, c ∈ [97, 98, 99, 63, 42]
theorem prD_get {pr : Nat → Nat} {ta tb tc : Tok} {a : Nat} (h : a ∈ abc) : ∃ t, valueAt (prD pr ta tb tc) (S [a]) = some (.int (pr a : Int) t) := by
  simp only [abc, List.mem_cons, List.not_mem_nil, or_false] at h
  rcases h with rfl | rfl | rfl
  · exact ⟨ta, rfl⟩
  · exact ⟨tb, rfl⟩
  · exact ⟨tc, rfl⟩
/-- what _law_least answers, from any heap -/
noncomputable def LeastOk (prog : Program) (w : World) (pr : Nat → Nat) (d : Addr) (ta tb tc : Tok) (fa : Nat → Addr) (mg mb : Str → Option Value) (k : Nat) : Prop :=
  ∀ (one two : List Nat) (A : Around) (R : Result → Shared → Prop) (s : Shared) (t1 t2 : Tok), one.length + two.length < k → Sgn one → Sgn two → Rm A (k + 1) → G mg mb fa s.heap → (∃ o, s.heap.get? d = some o ∧ o.IsDictOf (strKind prog w) (prD pr ta tb tc)) →
    (∀ h' tk' t, (∀ b o, s.heap.get? b = some o → h'.get? b = some o) → R (.ok (.ret (.int (leastN pr k (one.map ptOf) (two.map ptOf) : Int) t))) { s with heap := h', toks := tk' }) →
    codeAny (model prog w) A (.call (.ref (fa 21)) ⟨[.str (S one) t1, .str (S two) t2, .ref d], []⟩) R s
section
variable {c : Cx} {m : Mp} {nw : Nw} {Q : Value → Mp → Nw → Prop} {mg mb : Str → Option Value} {fa : Nat → Addr} {pr : Nat → Nat} {d : Addr} {ta tb tc : Tok} {k : Nat}
theorem pLeast {one two : List Nat} {t1 t2 : Tok} (H : LeastOk c.prog c.w pr d ta tb tc fa mg mb k) (hz : one.length + two.length < k) (s1 : Sgn one) (s2 : Sgn two) (r : Rm c.A (k + 1)) (T : G mg mb fa c.b) (D : ∃ o, c.b.get? d = some o ∧ o.IsDictOf (strKind c.prog c.w) (prD pr ta tb tc))
    (q : ∀ t, Q (.int (leastN pr k (one.map ptOf) (two.map ptOf) : Int) t) m nw) : P c (call (.ref (fa 21)) [.str (S one) t1, .str (S two) t2, .ref d]) Q m nw := fun h tk I =>
  wpAny_call (H one two _ _ _ t1 t2 hz s1 s2 r (T.keeps I.F.keep) (let ⟨o, h1, h2⟩ := D; ⟨o, I.F.keep _ _ h1, h2⟩) fun h' tk' t k => ⟨h', tk', m, nw, rfl, inKeep I k, q t⟩)
end
/-- the for's body in _law_least -/
noncomputable def lfBody : List Stmt := match (bodOf (stAt 21))[2]? with
  | some (Stmt.For _ _ b _ _) => b
  | _ => []
theorem least_turn {c : Cx} {m : Mp} {nw : Nw} {mg mb : Str → Option Value} {fa : Nat → Addr} {pr : Nat → Nat} {d : Addr} {ta tb tc : Tok} {k : Nat} {a : Addr} {cd : Value} {f o : List Nat} {tf to : Tok} {D : Addr} {ws : List Value} {wn : List Nat} {oc : Obj} {QF : Flow → Mp → Nw → Prop}
    (H : LeastOk c.prog c.w pr d ta tb tc fa mg mb k) (hz : f.length + o.length ≤ k) (hz2 : f.length + o.length ≤ 100) (s1 : Sgn f) (s2 : Sgn o) (r : Rm c.A (k + 1)) (T : G mg mb fa c.b) (DD : ∃ o, c.b.get? d = some o ∧ o.IsDictOf (strKind c.prog c.w) (prD pr ta tb tc)) (lo : (d == sysModules) = false)
    (e1 : List.lookup ("first" : Str) m = some (.str (S f) tf)) (e2 : List.lookup ("other" : Str) m = some (.str (S o) to)) (e3 : List.lookup ("ways" : Str) m = some (.ref D)) (hD : (D, W.listOf ws.toArray 0) ∈ nw) (hw : IA ws wn) (hwl : wn.length ≤ 10)
    (hc : (c.L + 3, oc) ∈ nw) (hcd : oc.data = .cell (some (.ref d)))
    (q : ∀ m' D' ws' nw', List.lookup ("ways" : Str) m' = some (.ref D') → (D', W.listOf ws'.toArray 0) ∈ nw' → IA ws' (wn ++ starWays pr (leastN pr k) (f.map ptOf) (o.map ptOf)) → (∀ p ∈ nw, p ∈ nw') → ((D' = D ∧ ws' = ws) ∨ ∀ p ∈ nw, p.1 ≠ D') → QF .next m' nw') :
    P c (execs lfBody (envOfC (nameOf (stAt 21)) (scpOf (stAt 21)) c.L a cd)) QF m nw := by
  have c3 : ∀ nw', (∀ p ∈ nw, p ∈ nw') → CellA c nw' (c.L + 3) (.ref d) := fun nw' h => ⟨oc, .inr (h _ hc), hcd⟩
  have DDA : ∀ nw, DictA c nw d (prD pr ta tb tc) := fun _ => let ⟨o, h1, h2⟩ := DD; ⟨o, .inl h1, h2⟩
  have c3' : CellA c nw (c.L + 3) (.ref d) := c3 _ fun _ h => h
  refine pCons ?_
  refine pIf ?_
  refine pIsCmp ?_
  refine pSliceTo ?_
  refine pNameE (by assumption) ?_
  refine ⟨f, tf, rfl, by lia, fun _ => ?_⟩
  refine pStrC fun _ => ?_
  refine pEqS (q := [42]) ?_
  refine pTrue ?_
  cases f with
  | nil =>
    rw [if_neg (by simp)]
    refine pNil ?_
    refine pNil ?_
    refine q _ D ws _ e3 hD ?_ (fun _ h => h) (.inl ⟨rfl, rfl⟩)
    simpa [starWays] using hw
  | cons x f =>
    by_cases hx : x = 42
    · subst hx
      rw [if_pos (by simp)]
      have hstar : ptOf 42 = .star := rfl
      refine pCons ?_
      refine pAssign ?_
      refine pBin ?_
      refine pNameE (by assumption) ?_
      refine pList ?_
      refine pArgs ?_
      refine pCall ?_
      refine pFnE 21 T ?_
      refine pWithG (T.fn 21 (by decide)).2 ?_
      refine pArgs ?_
      refine pSliceFrom ?_
      refine pNameE (by assumption) ?_
      refine ⟨42, f, tf, rfl, by lia, fun _ => ?_⟩
      refine pArgs ?_
      refine pNameE (by assumption) ?_
      refine pArgs ?_
      refine pCellE rfl (by first | assumption | (apply_assumption; done) | (apply_assumption; assumption) | (apply_assumption; intro p hp; (repeat (first | assumption | refine List.mem_cons_of_mem _ ?_)); done)) ?_
      refine pArgs0 ?_
      have sf : Sgn f := fun c hc => s1 c (List.mem_cons_of_mem _ hc)
      have hz' : f.length + o.length < k := by simp only [List.length_cons] at hz; lia
      have hst : starWays pr (leastN pr k) ((42 :: f).map ptOf) (o.map ptOf) = leastN pr k (f.map ptOf) (o.map ptOf) :: (match o.map ptOf with
          | [] => []
          | q :: o' => if q = .star then [] else [cheap pr q + leastN pr k ((42 :: f).map ptOf) o']) := rfl
      rw [hst] at q
      refine pLeast H hz' sf s2 r T DD fun tv => ?_
      refine pArgs0 ?_
      refine ⟨Nat.le_of_ble_eq_true rfl, fun b fb => ?_⟩
      refine pAddL (.inr (.tail _ hD)) (.inr (.head _)) (by rw [hw.length]; simp; lia) fun D1 fD1 => ?_
      refine pStoreE ?_
      refine pCons ?_
      have hw1 := hw.snoc (leastN pr k (f.map ptOf) (o.map ptOf)) tv
      generalize leastN pr k (f.map ptOf) (o.map ptOf) = v1 at hw1 q ⊢
      refine pIf ?_
      refine pIsBool ?_
      refine pAnd ?_
      refine pIsCmp ?_
      refine pNameE (by assumption) ?_
      refine pStrC fun _ => ?_
      refine pNeS (q := []) ?_
      refine pTrue ?_
      cases o with
      | nil =>
        rw [if_neg (by simp)]
        refine (if_neg Bool.false_ne_true).mpr ?_
        refine pNil ?_
        refine pNil ?_
        refine pNil ?_
        exact q _ D1 _ _ rfl (.head _) hw1 (fun p hp => .tail _ (.tail _ hp)) (.inr fun p hp => fD1 p (.tail _ hp))
      | cons y o =>
        rw [if_pos (by simp)]
        refine pAnd ?_
        refine pIsCmp ?_
        refine pSub ?_
        refine pNameE (by assumption) ?_
        refine pIntC fun _ => ?_
        refine pItemS (i := 0) rfl (by lia) fun _ => ?_
        refine pStrC fun _ => ?_
        refine pNeS (q := [42]) ?_
        refine pTrue ?_
        by_cases hy : y = 42
        · subst hy
          rw [if_neg (by simp)]
          refine (if_neg Bool.false_ne_true).mpr ?_
          refine pNil ?_
          refine pNil ?_
          refine pNil ?_
          exact q _ D1 _ _ rfl (.head _) hw1 (fun p hp => .tail _ (.tail _ hp)) (.inr fun p hp => fD1 p (.tail _ hp))
        · rw [if_pos (by simpa using hy)]
          refine pAnd0 ?_
          refine (if_pos rfl).mpr ?_
          refine pCons ?_
          refine pAssign ?_
          refine pIfExp ?_
          refine pIsCmp ?_
          refine pSub ?_
          refine pNameE (by assumption) ?_
          refine pIntC fun _ => ?_
          refine pItemS (i := 0) rfl (by lia) fun _ => ?_
          refine pStrC fun _ => ?_
          refine pEqS (q := [63]) ?_
          refine pTrue ?_
          have so : Sgn o := fun c hc => s2 c (List.mem_cons_of_mem _ hc)
          have hyp : ptOf y ≠ .star := fun e => hy (ptOf_star.mp e)
          rw [List.map_cons] at q
          simp only [if_neg hyp] at q
          have hz3 : (42 :: f).length + o.length < k := by simp only [List.length_cons] at hz ⊢; lia
          by_cases h63 : y = 63
          · subst h63
            rw [if_pos (by simp)]
            refine pCall ?_
            refine pBnFE (by assumption) ?_
            refine pWithB ?_
            refine pArgs ?_
            refine pMeth ?_
            refine pCellE rfl (by first | assumption | (apply_assumption; done) | (apply_assumption; assumption) | (apply_assumption; intro p hp; (repeat (first | assumption | refine List.mem_cons_of_mem _ ?_)); done)) ?_
            refine pGetD (kvs := prD pr ta tb tc) (DDA _) PySem.F.slot_dict_values PySem.F.type_dict_values ?_
            refine pWithB0 ?_
            refine pValues (kvs := prD pr ta tb tc) (DDA _) lo fun v ov fv hov => ?_
            refine pArgs0 ?_
            refine pMinV (ks := [pr 97, pr 98, pr 99]) r.hd (.head _) hov (DDA _) (.cons _ _ (.cons _ _ (.cons _ _ .nil))) (by simp) fun kk tk hkk => ?_
            have hkc : kk = cheap pr (ptOf 63) := hkk.unique (minOf_three _ _ _)
            rw [hkc]
            refine pStoreE ?_
            refine pCons ?_
            refine pAssign ?_
            refine pBin ?_
            refine pNameE rfl ?_
            refine pList ?_
            refine pArgs ?_
            refine pBin ?_
            refine pNameE rfl ?_
            refine pCall ?_
            refine pFnE 21 T ?_
            refine pWithG (T.fn 21 (by decide)).2 ?_
            refine pArgs ?_
            refine pNameE (by assumption) ?_
            refine pArgs ?_
            refine pSliceFrom ?_
            refine pNameE (by assumption) ?_
            refine ⟨63, o, to, rfl, by lia, fun _ => ?_⟩
            refine pArgs ?_
            refine pCellE rfl (by first | assumption | (apply_assumption; done) | (apply_assumption; assumption) | (apply_assumption; intro p hp; (repeat (first | assumption | refine List.mem_cons_of_mem _ ?_)); done)) ?_
            refine pArgs0 ?_
            refine pLeast H hz3 s1 so r T DD fun _ => ?_
            refine pAdd fun _ => ?_
            refine pArgs0 ?_
            refine ⟨Nat.le_of_ble_eq_true rfl, fun b2 fb2 => ?_⟩
            refine pAddL (by refine .inr ?_; repeat (first | exact List.Mem.head _ | refine List.Mem.tail _ ?_)) (.inr (.head _)) (by rw [hw1.length]; simp; lia) fun D2 fD2 => ?_
            refine pStoreE ?_
            refine pNil ?_
            refine pNil ?_
            refine pNil ?_
            have hw2 : ∀ t, IA (ws ++ [Value.int (v1 : Int) tv] ++ [Value.int ((cheap pr (ptOf 63) : Int) + (leastN pr k ((42 :: f).map ptOf) (o.map ptOf) : Int)) t]) (wn ++ [v1, cheap pr (ptOf 63) + leastN pr k ((42 :: f).map ptOf) (o.map ptOf)]) := fun t => by
              have h := hw1.snoc (cheap pr (ptOf 63) + leastN pr k ((42 :: f).map ptOf) (o.map ptOf)) t
              rw [List.append_assoc wn] at h
              exact h
            exact q _ D2 _ _ rfl (.head _) (hw2 _) (fun p hp => by repeat (first | assumption | refine List.Mem.tail _ ?_)) (.inr fun p hp => fD2 p (by repeat (first | assumption | refine List.Mem.tail _ ?_)))
          · rw [if_neg (by simpa using h63)]
            have habc : y ∈ abc := by
              have := s2 y List.mem_cons_self
              simp only [List.mem_cons, List.not_mem_nil, or_false] at this
              simp only [abc, List.mem_cons, List.not_mem_nil, or_false]
              rcases this with h | h | h | h | h
              · exact .inl h
              · exact .inr (.inl h)
              · exact .inr (.inr h)
              · exact absurd h h63
              · exact absurd h hy
            refine pSub ?_
            refine pCellE rfl (by first | assumption | (apply_assumption; done) | (apply_assumption; assumption) | (apply_assumption; intro p hp; (repeat (first | assumption | refine List.mem_cons_of_mem _ ?_)); done)) ?_
            refine pSub ?_
            refine pNameE (by assumption) ?_
            refine pIntC fun _ => ?_
            refine pItemS (i := 0) rfl (by lia) fun _ => ?_
            obtain ⟨t5, h5⟩ := prD_get (pr := pr) (ta := ta) (tb := tb) (tc := tc) habc
            refine pDictGet (DDA _) h5 ?_
            have hkc : pr y = cheap pr (ptOf y) := by
              unfold ptOf
              rw [if_neg hy, if_neg h63]; rfl
            rw [hkc]
            refine pStoreE ?_
            refine pCons ?_
            refine pAssign ?_
            refine pBin ?_
            refine pNameE rfl ?_
            refine pList ?_
            refine pArgs ?_
            refine pBin ?_
            refine pNameE rfl ?_
            refine pCall ?_
            refine pFnE 21 T ?_
            refine pWithG (T.fn 21 (by decide)).2 ?_
            refine pArgs ?_
            refine pNameE (by assumption) ?_
            refine pArgs ?_
            refine pSliceFrom ?_
            refine pNameE (by assumption) ?_
            refine ⟨y, o, to, rfl, by lia, fun _ => ?_⟩
            refine pArgs ?_
            refine pCellE rfl (by first | assumption | (apply_assumption; done) | (apply_assumption; assumption) | (apply_assumption; intro p hp; (repeat (first | assumption | refine List.mem_cons_of_mem _ ?_)); done)) ?_
            refine pArgs0 ?_
            refine pLeast H hz3 s1 so r T DD fun _ => ?_
            refine pAdd fun _ => ?_
            refine pArgs0 ?_
            refine ⟨Nat.le_of_ble_eq_true rfl, fun b2 fb2 => ?_⟩
            refine pAddL (by refine .inr ?_; repeat (first | exact List.Mem.head _ | refine List.Mem.tail _ ?_)) (.inr (.head _)) (by rw [hw1.length]; simp; lia) fun D2 fD2 => ?_
            refine pStoreE ?_
            refine pNil ?_
            refine pNil ?_
            refine pNil ?_
            have hw2 : ∀ t, IA (ws ++ [Value.int (v1 : Int) tv] ++ [Value.int ((cheap pr (ptOf y) : Int) + (leastN pr k ((42 :: f).map ptOf) (o.map ptOf) : Int)) t]) (wn ++ [v1, cheap pr (ptOf y) + leastN pr k ((42 :: f).map ptOf) (o.map ptOf)]) := fun t => by
              have h := hw1.snoc (cheap pr (ptOf y) + leastN pr k ((42 :: f).map ptOf) (o.map ptOf)) t
              rw [List.append_assoc wn] at h
              exact h
            exact q _ D2 _ _ rfl (.head _) (hw2 _) (fun p hp => by repeat (first | assumption | refine List.Mem.tail _ ?_)) (.inr fun p hp => fD2 p (by repeat (first | assumption | refine List.Mem.tail _ ?_)))
    · rw [if_neg (by simpa using hx)]
      refine pNil ?_
      refine pNil ?_
      refine q _ D ws _ e3 hD ?_ (fun _ h => h) (.inl ⟨rfl, rfl⟩)
      have hn : starWays pr (leastN pr k) ((x :: f).map ptOf) (o.map ptOf) = [] := by
        have : ptOf x ≠ .star := fun e => hx (ptOf_star.mp e)
        rw [List.map_cons]
        generalize ptOf x = p at this ⊢
        cases p with
        | star => exact absurd rfl this
        | any => rfl
        | sg a => rfl
      rw [hn, List.append_nil]; exact hw
end
section
open PySem PySem.W PyProof.Rows PySem.Calls

/-- ahead of a turn of _law_least's for -/
structure LfI (c : Cx) (wn0 wn1 wn2 : List Nat) (cells : Nw) (i : Nat) (m : Mp) (nw : Nw) (D : Addr) (ws : List Value) : Prop where
  e : List.lookup ("ways" : Str) m = some (.ref D)
  hD : (D, W.listOf ws.toArray 0) ∈ nw
  hw : IA ws (if i = 0 then wn0 else if i = 1 then wn1 else wn2)
  hc : ∀ p ∈ cells, p ∈ nw
theorem ItT.mono {c : Cx} {tgt : Expr} {xs : List Str} {N : Nat} {Pv Pv' : Nat → List Value → Prop} {av : List Addr} {xv : Value} {m : Mp} {nw : Nw} (h : ∀ i vals, Pv i vals → Pv' i vals) (x : ItT c tgt xs N Pv av xv m nw) : ItT c tgt xs N Pv' av xv m nw :=
  fun g tk K E I k => x g tk K E I fun J wr fp St h' tk' W hL hwr hav hlt hz st kk => k J wr fp St h' tk' ⟨W.sub, W.frame, W.ex, fun env i s K E hi hst hK => W.item env i s K E hi hst fun vals h' tk' hv => hK vals h' tk' (h i vals hv), W.done, W.self⟩ hL hwr hav hlt hz st kk
theorem star_in : ∀ a ∈ [97, 98, 99, 63, 42], ∀ b ∈ [97, 98, 99, 63, 42], (!(!(PySem.Builtin.Str.occurrences (S [a, b]) (S [42]) 0 (S [a, b]).length 1).isEmpty)) = decide (a ≠ 42 ∧ b ≠ 42) := by decide +kernel
section
open PySem.SeqAt PySem.MeetsSeq PySem.MeetsSeq3
variable {c : Cx} {m : Mp} {nw : Nw} {Q : Value → Mp → Nw → Prop}
theorem pNotInS {a b : Nat} {t u : Tok} (ha : a ∈ [97, 98, 99, 63, 42]) (hb : b ∈ [97, 98, 99, 63, 42]) (h : Q (.bool (decide (a ≠ 42 ∧ b ≠ 42))) m nw) : P c (compareOp .NotIn (.str (S [42]) t) (.str (S [a, b]) u)) Q m nw := fun _ _ I =>
  PySem.P.notIn_str (by rw [star_in a ha b hb]; exact ⟨_, _, _, _, rfl, I, h⟩)
theorem pNeNil {a b : Addr} {vs : List Value} {n k : Nat} (hu : c.A.units < cLine) (hl : Has c nw a (W.listOf vs.toArray n)) (hb : Has c nw b (W.listOf ([] : List Value).toArray k)) (h : Q (.bool (decide (vs ≠ []))) m nw) : P c (compareOp .NotEq (.ref a) (.ref b)) Q m nw := fun g tk I => by
  show wpAny _ _ (richCompare .NotEq (.ref a) (.ref b)) _ _ _
  cases vs with
  | nil =>
    refine richCompare_meets_room (op := .NotEq) ⟨_, hl.get I, rfl⟩ ⟨_, hb.get I, rfl⟩ F.slot_list_ne F.entry_list_ne (F.args_list_ne_2 _ _) (PySem.SeqAt.list_neAt a b _ _ n k _ _ _ _ rfl (fun _ => true))
      ⟨hl.get I, hb.get I, fun j h1 => absurd h1 (by simp), (fun x => nomatch x), ?_⟩ hu
    exact ⟨_, _, _, _, rfl, I, by simpa using h⟩
  | cons v vs =>
    refine richCompare_meets_room (op := .NotEq) ⟨_, hl.get I, rfl⟩ ⟨_, hb.get I, rfl⟩ F.slot_list_ne F.entry_list_ne (F.args_list_ne_2 _ _) (PySem.SeqAt.list_ne_lengthsAt a b _ _ n k _ _ _ _ (by simp))
      ⟨hl.get I, hb.get I, (fun x => nomatch x), ?_⟩ hu
    exact ⟨_, _, _, _, rfl, I, by simpa using h⟩
end
theorem q_kind {p q y : Value} (h : y ∈ [p, q]) (hp : ∃ a t, p = .str a t := by exact ⟨_, _, rfl⟩) (hq : ∃ a t, q = .str a t := by exact ⟨_, _, rfl⟩) : y = .none ∨ ∃ a t, y = .str a t := by
  simp only [List.mem_cons, List.not_mem_nil, or_false] at h
  rcases h with rfl | rfl
  · exact .inr hp
  · exact .inr hq
theorem q_takes {a ch : Nat} {t u v : Tok} (h : a ≠ 42) : ([.str "?" t, .str (S [ch]) u] : List Value).any (fun y => eqV y (.str (S [a]) v)) = takes (ptOf a) ch := by
  have e1 : (("?" : Str) == S [a]) = decide (a = 63) := by
    rw [Bool.eq_iff_iff]
    constructor
    · intro h
      have := congrArg (fun x : Str => x.cps.toList) (beq_iff_eq.mp h)
      have : [63] = [a] := this
      simpa using (List.cons.inj this).1.symm
    · intro h
      have := of_decide_eq_true h
      subst this; rfl
  have e2 : ((S [ch]) == S [a]) = decide (ch = a) := by
    rw [Bool.eq_iff_iff]; simp [S]
  show ((("?" : Str) == S [a]) || ((S [ch] == S [a]) || false)) = _
  rw [e1, e2]
  unfold ptOf
  rw [if_neg h]
  by_cases h63 : a = 63
  · rw [if_pos h63]; simp [h63, takes]
  · rw [if_neg h63]
    show _ = (a == ch)
    rw [decide_eq_false h63]
    by_cases hc : ch = a
    · subst hc; simp
    · have hc' : ¬ a = ch := fun e => hc e.symm
      simp [hc, hc']
theorem pairs_vals {one two : List Nat} {t1 t2 : Tok} {b1 b2 : Addr} {i : Nat} {vals : List Value} (h : ∃ e, ([(b1, .str (S one) t1, .str (S two) t2), (b2, .str (S two) t2, .str (S one) t1)] : List (Addr × Value × Value))[i]? = some e ∧ vals = [e.2.1, e.2.2]) :
    ∃ tf to, vals = [Value.str (S (if i = 0 then one else two)) tf, Value.str (S (if i = 0 then two else one)) to] := by
  obtain ⟨e, he, hv⟩ := h
  rcases i with _ | _ | i
  · cases he; exact ⟨_, _, hv⟩
  · cases he; exact ⟨_, _, hv⟩
  · cases he
theorem pairs_has {c : Cx} {nw : Nw} {b1 b2 : Addr} {u v : Value} (h1 : (b1, W.listOf [u, v].toArray 0) ∈ nw) (h2 : (b2, W.listOf [v, u].toArray 0) ∈ nw) : ∀ e ∈ ([(b1, u, v), (b2, v, u)] : List (Addr × Value × Value)), ∃ k, Has c nw e.1 (W.listOf [e.2.1, e.2.2].toArray k) := fun e he => by
  simp only [List.mem_cons, List.not_mem_nil, or_false] at he
  rcases he with rfl | rfl
  · exact ⟨0, .inr h1⟩
  · exact ⟨0, .inr h2⟩
theorem starWays_length (pr : Nat → Nat) (rec : List Pt → List Pt → Nat) (f o : List Pt) : (starWays pr rec f o).length ≤ 2 := by
  unfold starWays
  split
  · split
    · simp
    · split <;> simp
  · simp
set_option maxHeartbeats 4000000 in
theorem least_ok {prog : Program} {w : World} {pr : Nat → Nat} {d : Addr} {ta tb tc : Tok} {fa : Nat → Addr} {mg mb : Str → Option Value} (lo : (d == sysModules) = false) : ∀ k, k ≤ 90 → LeastOk prog w pr d ta tb tc fa mg mb k := by
  intro k
  induction k with
  | zero => intro _ one two A R s t1 t2 hz; lia
  | succ k ih =>
    intro hk90 one two A R s t1 t2 hz s1 s2 r T DD ret
    have H0 := ih (by lia)
    refine pEnterC (i := 21) (n := k + 1) (binds := [("one", .str (S one) t1), ("two", .str (S two) t2), ("prices", .ref d)]) (mp := []) (T.fn 21 (by decide)).2 T.nolimit r (fun _ _ _ => rfl) (fun n => kindsX rfl n) (by decide) (fun L cd => rfl) (fun cd A' cells r' Y => ?_)
    have Y' : CellsAre _ [("prices", s.heap.objs.size + 3), ("two", s.heap.objs.size + 2), ("one", s.heap.objs.size + 1)] cells := Y
    obtain ⟨o3, o2, o1, rfl, d3, d2, d1⟩ := Y'.three
    have d1' : o1.data = .cell (some (.str (S one) t1)) := d1
    have d2' : o2.data = .cell (some (.str (S two) t2)) := d2
    have d3' : o3.data = .cell (some (.ref d)) := d3
    clear d1 d2 d3 Y Y'
    have ret' : ∀ k' t m nw, k' = leastN pr (k + 1) (one.map ptOf) (two.map ptOf) → endQ ⟨prog, w, A', s, s.heap, s.heap.objs.size⟩ R (.ret (.int (k' : Int) t)) m nw := fun k' t m nw e h tk I => by subst e; exact ret h tk t I.F.keep
    clear ret
    generalize hcx : (⟨prog, w, A', s, s.heap, s.heap.objs.size⟩ : Cx) = c at ret' ⊢
    have hc1 : c.A = A' := by rw [← hcx]
    have hc2 : c.b = s.heap := by rw [← hcx]
    have hc3 : s.heap.objs.size = c.L := by rw [← hcx]
    have hc4 : c.prog = prog := by rw [← hcx]
    have hc5 : c.w = w := by rw [← hcx]
    rw [hc3]
    rw [← hc2] at T DD
    rw [← hc1] at r'
    rw [← hc4, ← hc5] at H0 DD
    clear hcx hc1 hc2 hc3 hc4 hc5
    generalize hcl : ([(c.L + 3, o3), (c.L + 2, o2), (c.L + 1, o1)] : Nw) = cells
    have m3 : (c.L + 3, o3) ∈ cells := by rw [← hcl]; exact .head _
    have m2 : (c.L + 2, o2) ∈ cells := by rw [← hcl]; exact .tail _ (.head _)
    have m1 : (c.L + 1, o1) ∈ cells := by rw [← hcl]; exact .tail _ (.tail _ (.head _))
    have c1 : ∀ nw, (∀ p ∈ cells, p ∈ nw) → CellA c nw (c.L + 1) (.str (S one) t1) := fun nw h => ⟨o1, .inr (h _ m1), d1'⟩
    have c2 : ∀ nw, (∀ p ∈ cells, p ∈ nw) → CellA c nw (c.L + 2) (.str (S two) t2) := fun nw h => ⟨o2, .inr (h _ m2), d2'⟩
    have c3 : ∀ nw, (∀ p ∈ cells, p ∈ nw) → CellA c nw (c.L + 3) (.ref d) := fun nw h => ⟨o3, .inr (h _ m3), d3'⟩
    refine pCons ?_
    refine pAssign ?_
    refine pList ?_
    refine pArgs ?_
    refine pIntC fun _ => ?_
    refine pArgs0 ?_
    refine ⟨Nat.le_of_ble_eq_true rfl, fun D0 fD0 => ?_⟩
    refine pStoreE ?_
    refine pCons ?_
    refine pIfB (decide (one = [] ∧ two = [])) ?_ ?_
    · refine pIsBool ?_
      refine pAnd ?_
      refine pIsCmp ?_
      refine pCellE rfl (by first | assumption | (apply_assumption; done) | (apply_assumption; assumption) | (apply_assumption; intro p hp; (repeat (first | assumption | refine List.mem_cons_of_mem _ ?_)); done)) ?_
      refine pStrC fun _ => ?_
      refine pEqS (q := []) ?_
      refine pTrue ?_
      by_cases h1 : one = []
      · rw [if_pos (decide_eq_true h1)]
        refine pAnd ?_
        refine pIsCmp ?_
        refine pCellE rfl (by first | assumption | (apply_assumption; done) | (apply_assumption; assumption) | (apply_assumption; intro p hp; (repeat (first | assumption | refine List.mem_cons_of_mem _ ?_)); done)) ?_
        refine pStrC fun _ => ?_
        refine pEqS (q := []) ?_
        refine pTrue ?_
        by_cases h2 : two = []
        · rw [if_pos (decide_eq_true h2)]
          refine pAnd0 ?_
          exact ⟨by simp [h1, h2], rfl, rfl⟩
        · rw [if_neg (by simpa using h2)]
          exact ⟨by simp [h1, h2], rfl, rfl⟩
      · rw [if_neg (by simpa using h1)]
        exact ⟨by simp [h1], rfl, rfl⟩
    by_cases h0 : one = [] ∧ two = []
    · rw [if_pos (decide_eq_true h0)]
      refine pCons ?_
      refine pReturn ?_
      refine pIntC fun _ => ?_
      refine ret' 0 _ _ _ ?_
      unfold leastN
      rw [if_pos (by simp [h0.1, h0.2])]
    rw [if_neg (by simpa using h0)]
    refine pNil ?_
    refine pCons ?_
    have hlen : ∀ i : Nat, ([1000] ++ (if i = 0 then [] else if i = 1 then starWays pr (leastN pr k) (one.map ptOf) (two.map ptOf) else starWays pr (leastN pr k) (one.map ptOf) (two.map ptOf) ++ starWays pr (leastN pr k) (two.map ptOf) (one.map ptOf)) : List Nat).length ≤ 10 := fun i => by
      have h1 := starWays_length pr (leastN pr k) (one.map ptOf) (two.map ptOf)
      have h2 := starWays_length pr (leastN pr k) (two.map ptOf) (one.map ptOf)
      split
      · simp
      · split <;> simp <;> lia
    refine pForT (xs := ["first", "other"]) (N := 2) (av := []) (Pv := fun i vals => ∃ tf to, vals = [Value.str (S (if i = 0 then one else two)) tf, Value.str (S (if i = 0 then two else one)) to])
      (fun i m nw => ∃ D ws, LfI c [1000] ([1000] ++ starWays pr (leastN pr k) (one.map ptOf) (two.map ptOf)) ([1000] ++ starWays pr (leastN pr k) (one.map ptOf) (two.map ptOf) ++ starWays pr (leastN pr k) (two.map ptOf) (one.map ptOf)) cells i m nw D ws) ?_ ?_ ?_ rfl (by rfl) (by rfl)
    · refine pList ?_
      refine pArgs ?_
      refine pList ?_
      refine pArgs ?_
      refine pCellE rfl (by first | assumption | (apply_assumption; done) | (apply_assumption; assumption) | (apply_assumption; intro p hp; (repeat (first | assumption | refine List.mem_cons_of_mem _ ?_)); done)) ?_
      refine pArgs ?_
      refine pCellE rfl (by first | assumption | (apply_assumption; done) | (apply_assumption; assumption) | (apply_assumption; intro p hp; (repeat (first | assumption | refine List.mem_cons_of_mem _ ?_)); done)) ?_
      refine pArgs0 ?_
      refine ⟨Nat.le_of_ble_eq_true rfl, fun b1 fb1 => ?_⟩
      refine pArgs ?_
      refine pList ?_
      refine pArgs ?_
      refine pCellE rfl (by first | assumption | (apply_assumption; done) | (apply_assumption; assumption) | (apply_assumption; intro p hp; (repeat (first | assumption | refine List.mem_cons_of_mem _ ?_)); done)) ?_
      refine pArgs ?_
      refine pCellE rfl (by first | assumption | (apply_assumption; done) | (apply_assumption; assumption) | (apply_assumption; intro p hp; (repeat (first | assumption | refine List.mem_cons_of_mem _ ?_)); done)) ?_
      refine pArgs0 ?_
      refine ⟨Nat.le_of_ble_eq_true rfl, fun b2 fb2 => ?_⟩
      refine pArgs0 ?_
      refine ⟨Nat.le_of_ble_eq_true rfl, fun b3 fb3 => ?_⟩
      refine ⟨ItT.mono (fun i vals h => pairs_vals h) (itPairs (n := 0) (es := [(b1, .str (S one) t1, .str (S two) t2), (b2, .str (S two) t2, .str (S one) t1)]) "first" "other" _ _ _ _ r'.hd (.inr (.head _)) (pairs_has (.tail _ (.tail _ (.head _))) (.tail _ (.head _))) (fun _ h => nomatch h)), ⟨D0, _, rfl, .tail _ (.tail _ (.tail _ (.head _))), .cons _ _ .nil, fun p hp => .tail _ (.tail _ (.tail _ (.tail _ hp)))⟩⟩
    · rintro i vals m nw ext hi ⟨tf, to, rfl⟩ ⟨D, ws, e, hD, hw, hc⟩ _
      have hi2 : i < 2 := hi
      have hl1 := starWays_length pr (leastN pr k) (one.map ptOf) (two.map ptOf)
      have hl2 := starWays_length pr (leastN pr k) (two.map ptOf) (one.map ptOf)
      show P c (execs lfBody _) _ _ _
      refine least_turn H0 (f := if i = 0 then one else two) (o := if i = 0 then two else one) (D := D) (ws := ws) (d := d) (oc := o3) (by split <;> lia) (by split <;> lia) (by split <;> assumption) (by split <;> assumption) r' T DD lo rfl rfl e (List.mem_append_right _ hD) hw
        (by split; simp; split <;> simp <;> lia) (List.mem_append_right _ (hc _ m3)) d3' fun m' D' ws' nw' e' hD' hw' hsub hor => ?_
      refine ⟨fun p hp => hsub _ (List.mem_append_left _ hp), (D', W.listOf ws'.toArray 0) :: cells, fun p hp => ?_, D', ws', e', .head _, ?_, fun p hp => .tail _ hp⟩
      · rcases List.mem_cons.mp hp with rfl | hp
        · refine ⟨hD', hor.imp (fun ⟨a, b⟩ => by subst a; subst b; exact hD) fun h q hq => h q (List.mem_append_left _ hq)⟩
        · exact ⟨hsub _ (List.mem_append_right _ (hc _ hp)), .inl (hc _ hp)⟩
      · rcases i with _ | _ | i
        · simpa using hw'
        · simpa using hw'
        · lia
    · rintro m nw ⟨D, ws, e, hD, hw, hc⟩
      have hw : IA ws ([1000] ++ starWays pr (leastN pr k) (one.map ptOf) (two.map ptOf) ++ starWays pr (leastN pr k) (two.map ptOf) (one.map ptOf)) := by simpa using hw
      have hwl := hlen 2
      simp only [show ¬ (2 : Nat) = 0 from by decide, show ¬ (2 : Nat) = 1 from by decide, if_false, ← List.append_assoc] at hwl
      have hleast : leastN pr (k + 1) (one.map ptOf) (two.map ptOf) = minL (starWays pr (leastN pr k) (one.map ptOf) (two.map ptOf) ++ starWays pr (leastN pr k) (two.map ptOf) (one.map ptOf) ++ bothWays pr (leastN pr k) (one.map ptOf) (two.map ptOf)) := by
        show (if one.map ptOf = [] ∧ two.map ptOf = [] then 0 else _) = _
        rw [if_neg (by simpa using h0)]
      have fin : ∀ m nw D ws, List.lookup ("ways" : Str) m = some (.ref D) → (D, W.listOf ws.toArray 0) ∈ nw → IA ws ([1000] ++ starWays pr (leastN pr k) (one.map ptOf) (two.map ptOf) ++ starWays pr (leastN pr k) (two.map ptOf) (one.map ptOf) ++ bothWays pr (leastN pr k) (one.map ptOf) (two.map ptOf)) →
          P c (execs ((bodOf (stAt 21)).drop 4) (envOfC (nameOf (stAt 21)) (scpOf (stAt 21)) c.L (fa 21) cd)) (endQ c R) m nw := fun m nw D ws e hD hw => by
        refine pCons ?_
        refine pReturn ?_
        refine pCall ?_
        refine pBnFE (by assumption) ?_
        refine pWithB ?_
        refine pArgs ?_
        refine pNameE (by assumption) ?_
        refine pArgs0 ?_
        refine pMinL r'.hd (.inr hD) hw (by simp) fun kk t hk => ?_
        refine ret' kk t _ _ ?_
        rw [hleast]
        exact minOf_ways _ (by simpa using hk)
      refine pCons ?_
      refine pIfB (match one, two with | a :: _, b :: _ => decide (a ≠ 42 ∧ b ≠ 42) | _, _ => false) ?_ ?_
      · refine pIsBool ?_
        refine pAnd ?_
        refine pIsCmp ?_
        refine pCellE rfl (by first | assumption | (apply_assumption; done) | (apply_assumption; assumption) | (apply_assumption; intro p hp; (repeat (first | assumption | refine List.mem_cons_of_mem _ ?_)); done)) ?_
        refine pStrC fun _ => ?_
        refine pNeS (q := []) ?_
        refine pTrue ?_
        cases one with
        | nil =>
          rw [if_neg (by simp)]
          exact ⟨rfl, rfl, rfl⟩
        | cons a one =>
          rw [if_pos (by simp)]
          refine pAnd ?_
          refine pIsCmp ?_
          refine pCellE rfl (by first | assumption | (apply_assumption; done) | (apply_assumption; assumption) | (apply_assumption; intro p hp; (repeat (first | assumption | refine List.mem_cons_of_mem _ ?_)); done)) ?_
          refine pStrC fun _ => ?_
          refine pNeS (q := []) ?_
          refine pTrue ?_
          cases two with
          | nil =>
            rw [if_neg (by simp)]
            exact ⟨rfl, rfl, rfl⟩
          | cons b two =>
            rw [if_pos (by simp)]
            refine pAnd ?_
            refine pIsCmp ?_
            refine pStrC fun _ => ?_
            refine pBin ?_
            refine pSub ?_
            refine pCellE rfl (by first | assumption | (apply_assumption; done) | (apply_assumption; assumption) | (apply_assumption; intro p hp; (repeat (first | assumption | refine List.mem_cons_of_mem _ ?_)); done)) ?_
            refine pIntC fun _ => ?_
            refine pItemS (i := 0) rfl (by lia) fun _ => ?_
            refine pSub ?_
            refine pCellE rfl (by first | assumption | (apply_assumption; done) | (apply_assumption; assumption) | (apply_assumption; intro p hp; (repeat (first | assumption | refine List.mem_cons_of_mem _ ?_)); done)) ?_
            refine pIntC fun _ => ?_
            refine pItemS (i := 0) rfl (by lia) fun _ => ?_
            refine pAddS (p := [a]) (q := [b]) (Nat.le_of_ble_eq_true rfl) fun _ => ?_
            refine pNotInS (s1 a List.mem_cons_self) (s2 b List.mem_cons_self) ?_
            refine pTrue ?_
            by_cases h42 : a ≠ 42 ∧ b ≠ 42
            · rw [if_pos (decide_eq_true h42)]
              refine pAnd0 ?_
              exact ⟨(decide_eq_true h42).symm, rfl, rfl⟩
            · rw [if_neg (by simpa using h42)]
              exact ⟨(decide_eq_false h42).symm, rfl, rfl⟩
      · cases one with
        | nil =>
          rw [if_neg (by simp)]
          refine pNil ?_
          exact fin _ _ D ws e hD (by rw [show bothWays pr (leastN pr k) (List.map ptOf []) (two.map ptOf) = [] from rfl, List.append_nil]; exact hw)
        | cons a one =>
          cases two with
          | nil =>
            rw [if_neg (by simp)]
            refine pNil ?_
            exact fin _ _ D ws e hD (by rw [show bothWays pr (leastN pr k) ((a :: one).map ptOf) (List.map ptOf []) = [] from rfl, List.append_nil]; exact hw)
          | cons b two =>
            show if decide (a ≠ 42 ∧ b ≠ 42) = true then _ else _
            by_cases h42 : a ≠ 42 ∧ b ≠ 42
            · rw [if_pos (decide_eq_true h42)]
              refine pCons ?_
              refine pAssignComp (xs := ["sign"]) (N := 3) (Pv := fun i vals => ∃ v, vals = [v] ∧ SignAt "abc" i v) (p := fun i => takes (ptOf a) (97 + i) && takes (ptOf b) (97 + i)) (El := fun i y mk => mk = [] ∧ ∃ t, y = .int ((pr (97 + i) : Nat) : Int) t) ?_
                (by rfl) rfl (by rfl) (by rfl) (by decide) (by rfl) (by decide) (by rfl) (by decide) (by decide)
              refine pStrC fun ts => ⟨(itStr (av := []) (s := "abc") r'.hd (by decide +kernel) (fun _ h => nomatch h)).toT _ _, ?_, ?_⟩
              · rintro h1 C I1 i vals m0 nw' hi ⟨v, rfl, hv⟩
                have hv : ∃ u, v = .str (S [97 + i]) u := by
                  obtain ⟨ch, u, h1, h2⟩ := hv
                  have hi3 : i < 3 := hi
                  rcases i with _ | _ | _ | i
                  · cases h1; exact ⟨u, h2⟩
                  · cases h1; exact ⟨u, h2⟩
                  · cases h1; exact ⟨u, h2⟩
                  · lia
                obtain ⟨u, rfl⟩ := hv
                have habc : 97 + i ∈ abc := by
                  have hi3 : i < 3 := hi
                  simp only [abc, List.mem_cons, List.not_mem_nil, or_false]; lia
                have C1 : ∀ nw, CellA { c with b := h1, L := C } nw (c.L + 1) (.str (S (a :: one)) t1) := fun _ => ⟨o1, .inl (I1.N _ (hc _ m1)).1, d1'⟩
                have C2 : ∀ nw, CellA { c with b := h1, L := C } nw (c.L + 2) (.str (S (b :: two)) t2) := fun _ => ⟨o2, .inl (I1.N _ (hc _ m2)).1, d2'⟩
                have C3 : ∀ nw, CellA { c with b := h1, L := C } nw (c.L + 3) (.ref d) := fun _ => ⟨o3, .inl (I1.N _ (hc _ m3)).1, d3'⟩
                clear c1 c2 c3
                refine pTests1 ?_
                refine pIsBool ?_
                refine pAnd ?_
                refine pIsCmp ?_
                refine pSub ?_
                refine pCellE rfl (by first | assumption | (apply_assumption; done) | (apply_assumption; assumption) | (apply_assumption; intro p hp; (repeat (first | assumption | refine List.mem_cons_of_mem _ ?_)); done)) ?_
                refine pIntC fun _ => ?_
                refine pItemS (i := 0) rfl (by lia) fun _ => ?_
                refine pList ?_
                refine pArgs ?_
                refine pStrC fun _ => ?_
                refine pArgs ?_
                refine pNameE rfl ?_
                refine pArgs0 ?_
                refine ⟨Nat.le_of_ble_eq_true rfl, fun x1 fx1 => ?_⟩
                refine pIn (fun y => eqV y _) (fun y hy => eqV_ok (q_kind hy) (.inr ⟨_, _, rfl⟩)) (.inr (.head _)) ?_
                rw [q_takes h42.1]
                refine pTrue ?_
                cases hta : takes (ptOf a) (97 + i) with
                | false =>
                  rw [if_neg (by decide)]
                  exact ⟨fun q hq => .tail _ hq, by show false = (takes (ptOf a) (97 + i) && takes (ptOf b) (97 + i)); rw [hta]; rfl, (fun h => nomatch h)⟩
                | true =>
                  refine (if_pos rfl).mpr ?_
                  refine pAnd ?_
                  refine pIsCmp ?_
                  refine pSub ?_
                  refine pCellE rfl (by first | assumption | (apply_assumption; done) | (apply_assumption; assumption) | (apply_assumption; intro p hp; (repeat (first | assumption | refine List.mem_cons_of_mem _ ?_)); done)) ?_
                  refine pIntC fun _ => ?_
                  refine pItemS (i := 0) rfl (by lia) fun _ => ?_
                  refine pList ?_
                  refine pArgs ?_
                  refine pStrC fun _ => ?_
                  refine pArgs ?_
                  refine pNameE rfl ?_
                  refine pArgs0 ?_
                  refine ⟨Nat.le_of_ble_eq_true rfl, fun x2 fx2 => ?_⟩
                  refine pIn (fun y => eqV y _) (fun y hy => eqV_ok (q_kind hy) (.inr ⟨_, _, rfl⟩)) (.inr (.head _)) ?_
                  rw [q_takes h42.2]
                  refine pTrue ?_
                  cases htb : takes (ptOf b) (97 + i) with
                  | false =>
                    rw [if_neg (by decide)]
                    exact ⟨fun q hq => .tail _ (.tail _ hq), by show false = (takes (ptOf a) (97 + i) && takes (ptOf b) (97 + i)); rw [hta, htb]; rfl, (fun h => nomatch h)⟩
                  | true =>
                    refine (if_pos rfl).mpr ?_
                    refine pAnd0 ?_
                    refine ⟨fun q hq => .tail _ (.tail _ hq), by show true = (takes (ptOf a) (97 + i) && takes (ptOf b) (97 + i)); rw [hta, htb]; rfl, fun _ => ?_⟩
                    refine pSub ?_
                    refine pCellE rfl (by first | assumption | (apply_assumption; done) | (apply_assumption; assumption) | (apply_assumption; intro p hp; (repeat (first | assumption | refine List.mem_cons_of_mem _ ?_)); done)) ?_
                    refine pNameE rfl ?_
                    obtain ⟨t5, h5⟩ := prD_get (pr := pr) (ta := ta) (tb := tb) (tc := tc) habc
                    refine pDictGet (kvs := prD pr ta tb tc) (let ⟨o, z1, z2⟩ := DD; ⟨o, .inl (I1.F.keep _ _ z1), z2⟩) h5 ?_
                    exact ⟨[], fun q hq => .tail _ (.tail _ hq), (fun _ h => nomatch h), rfl, _, rfl⟩
              · intro D2 zs n2 hne _ G'
                obtain ⟨ia, fl⟩ := ia_of (f := fun i => pr (97 + i)) G'.el
                have hbs : ((List.range 3).filter fun i => takes (ptOf a) (97 + i) && takes (ptOf b) (97 + i)).map (fun i => pr (97 + i)) = bothS pr (ptOf a) (ptOf b) := by
                  show _ = (([0, 1, 2].map (97 + ·)).filter fun s => takes (ptOf a) s && takes (ptOf b) s).map pr
                  rw [List.filter_map, List.map_map]; rfl
                rw [G'.is, hbs] at ia
                rw [fl, List.nil_append]
                have hbw : bothWays pr (leastN pr k) ((a :: one).map ptOf) ((b :: two).map ptOf) = if bothS pr (ptOf a) (ptOf b) = [] then [] else [minB (bothS pr (ptOf a) (ptOf b)) + leastN pr k (one.map ptOf) (two.map ptOf)] := by
                  show (if ptOf a = .star ∨ ptOf b = .star then [] else _) = _
                  rw [if_neg (fun h => h.elim (fun e => h42.1 (ptOf_star.mp e)) fun e => h42.2 (ptOf_star.mp e))]
                have c1n : ∀ nw', (∀ p ∈ nw, p ∈ nw') → CellA c nw' (c.L + 1) (.str (S (a :: one)) t1) := fun nw' h => c1 _ fun p hp => h _ (hc _ hp)
                have c2n : ∀ nw', (∀ p ∈ nw, p ∈ nw') → CellA c nw' (c.L + 2) (.str (S (b :: two)) t2) := fun nw' h => c2 _ fun p hp => h _ (hc _ hp)
                have c3n : ∀ nw', (∀ p ∈ nw, p ∈ nw') → CellA c nw' (c.L + 3) (.ref d) := fun nw' h => c3 _ fun p hp => h _ (hc _ hp)
                clear c1 c2 c3
                have hlz : (zs.map (·.2.1)).length = (bothS pr (ptOf a) (ptOf b)).length := ia.length
                refine pCons ?_
                refine pAssign ?_
                refine pBin ?_
                refine pNameE (by assumption) ?_
                refine pIfExp ?_
                refine pIsCmp ?_
                refine pNameE rfl ?_
                refine pList ?_
                refine pArgs0 ?_
                refine ⟨Nat.le_of_ble_eq_true rfl, fun x3 fx3 => ?_⟩
                refine pNeNil r'.units (.inr (.tail _ (.head _))) (.inr (.head _)) ?_
                refine pTrue ?_
                by_cases hb0 : bothS pr (ptOf a) (ptOf b) = []
                · have hz0 : zs.map (·.2.1) = [] := List.eq_nil_of_length_eq_zero (by rw [hlz, hb0]; rfl)
                  rw [if_neg (by simp only [hz0]; simp)]
                  refine pList ?_
                  refine pArgs0 ?_
                  refine ⟨Nat.le_of_ble_eq_true rfl, fun x4 fx4 => ?_⟩
                  refine pAddL (.inr (.tail _ (.tail _ (.tail _ hD)))) (.inr (.head _)) (by rw [hw.length]; simp only [List.length_nil]; lia) fun D4 fD4 => ?_
                  refine pStoreE ?_
                  refine pNil ?_
                  exact fin _ _ D4 _ rfl (.head _) (by rw [hbw, if_pos hb0, List.append_nil, List.append_nil]; exact hw)
                · have hz0 : zs.map (·.2.1) ≠ [] := fun e => hb0 (List.eq_nil_of_length_eq_zero (by rw [← hlz, e]; rfl))
                  rw [if_pos (decide_eq_true hz0)]
                  refine pList ?_
                  refine pArgs ?_
                  refine pBin ?_
                  refine pCall ?_
                  refine pBnFE (by assumption) ?_
                  refine pWithB ?_
                  refine pArgs ?_
                  refine pNameE rfl ?_
                  refine pArgs0 ?_
                  refine pMinL r'.hd (.inr (.tail _ (.head _))) ia hb0 fun kk tk hkk => ?_
                  have hkc : kk = minB (bothS pr (ptOf a) (ptOf b)) := hkk.unique ⟨minB_mem hb0, fun x hx => minB_le hx⟩
                  rw [hkc]
                  have hz1 : one.length + two.length < k := by simp only [List.length_cons] at hz; lia
                  refine pCall ?_
                  refine pFnE 21 T ?_
                  refine pWithG (T.fn 21 (by decide)).2 ?_
                  refine pArgs ?_
                  refine pSliceFrom ?_
                  refine pCellE rfl (by first | assumption | (apply_assumption; done) | (apply_assumption; assumption) | (apply_assumption; intro p hp; (repeat (first | assumption | refine List.mem_cons_of_mem _ ?_)); done)) ?_
                  refine ⟨a, one, t1, rfl, by simp only [List.length_cons] at hz ⊢; lia, fun _ => ?_⟩
                  refine pArgs ?_
                  refine pSliceFrom ?_
                  refine pCellE rfl (by first | assumption | (apply_assumption; done) | (apply_assumption; assumption) | (apply_assumption; intro p hp; (repeat (first | assumption | refine List.mem_cons_of_mem _ ?_)); done)) ?_
                  refine ⟨b, two, t2, rfl, by simp only [List.length_cons] at hz ⊢; lia, fun _ => ?_⟩
                  refine pArgs ?_
                  refine pCellE rfl (by first | assumption | (apply_assumption; done) | (apply_assumption; assumption) | (apply_assumption; intro p hp; (repeat (first | assumption | refine List.mem_cons_of_mem _ ?_)); done)) ?_
                  refine pArgs0 ?_
                  refine pLeast H0 hz1 (fun c hc => s1 c (List.mem_cons_of_mem _ hc)) (fun c hc => s2 c (List.mem_cons_of_mem _ hc)) r' T DD fun _ => ?_
                  refine pAdd fun _ => ?_
                  refine pArgs0 ?_
                  refine ⟨Nat.le_of_ble_eq_true rfl, fun x4 fx4 => ?_⟩
                  refine pAddL (.inr (.tail _ (.tail _ (.tail _ hD)))) (.inr (.head _)) (by rw [hw.length]; simp only [List.length_cons, List.length_nil]; lia) fun D4 fD4 => ?_
                  refine pStoreE ?_
                  refine pNil ?_
                  exact fin _ _ D4 _ rfl (.head _) (by rw [hbw, if_neg hb0]; exact hw.snoc (minB (bothS pr (ptOf a) (ptOf b)) + leastN pr k (one.map ptOf) (two.map ptOf)) _)
            · rw [if_neg (by simpa using h42)]
              have hbw : bothWays pr (leastN pr k) ((a :: one).map ptOf) ((b :: two).map ptOf) = [] := by
                show (if ptOf a = .star ∨ ptOf b = .star then [] else _) = _
                rw [if_pos]
                by_cases ha : a = 42
                · exact .inl (ptOf_star.mpr ha)
                · exact .inr (ptOf_star.mpr (Decidable.byContradiction fun hb => h42 ⟨ha, hb⟩))
              refine pNil ?_
              exact fin _ _ D ws e hD (by rw [hbw, List.append_nil]; exact hw)
end
section
open PySem PySem.W PyProof.Rows PySem.Calls
/-- '**' made to '*', from the left -/
noncomputable def rep : List Nat → List Nat
  | 42 :: 42 :: r => 42 :: rep r
  | a :: r => a :: rep r
  | [] => []
theorem rep_ok : ∀ a ∈ [97, 98, 99, 63, 42], ∀ b ∈ [97, 98, 99, 63, 42], ∀ c ∈ [97, 98, 99, 63, 42],
    Txt.replace (S [a, b, c]) (S [42, 42]) (S [42]) = S (rep [a, b, c]) ∧ Txt.replace (S (rep [a, b, c])) (S [42, 42]) (S [42]) = S (rep (rep [a, b, c])) ∧ (rep (rep [a, b, c])).map ptOf = trF [a, b, c] ∧
    (rep [a, b, c]).length ≤ 3 ∧ (rep (rep [a, b, c])).length ≤ 3 ∧ (∀ x ∈ rep (rep [a, b, c]), x ∈ [97, 98, 99, 63, 42]) ∧ (trF [a, b, c]).length ≤ 3 := by decide +kernel
end
section
open PySem PySem.W PyProof.Rows PySem.Calls
section
variable {prog : Program} {w : World} {A : Around} {E : Value → Shared → Prop} {s : Shared}
theorem lookup_keep {c : Nat} {d : Addr} {kvs : List (Int × Value)} {Q : Builtin.Str.Mapped → Shared → Prop} (hh : A.handled = none) (lo : (d == sysModules) = false) (hm : s.heap.DictOf (intKind prog w) d kvs) (hv : valueAt kvs (c : Int) = none)
    (h : ∀ h' tk, (∀ b o, s.heap.get? b = some o → h'.get? b = some o) → Q .keep { s with heap := h', toks := tk }) : wpAny (model prog w) A (Builtin.Str.tableLookup (.ref d) c) Q E s := by
  unfold Builtin.Str.tableLookup
  refine wpAny_bind (wpAny_attempt ?_)
  refine wpAny_bind (wpAny_mkInt ?_)
  refine wpAny_getItem_missing_of (knd := intKind prog w) (intKind_is prog w c _) lo hh hm.mapOf hv fun h' e hN => ?_
  refine wpAny_bind (wpAny_isInstance (T := "KeyError") (b := true) ?_ (by rw [isSubtype_type]; kernel_rfl) ?_)
  · obtain ⟨_, _, o, v, ho, r⟩ := hN
    exact ⟨o, ho, r.1⟩
  · exact wpAny_bind (wpAny_rule (wpAny_pure (h h' _ hN.1)))
theorem translate_one {c : Nat} {d : Addr} {t : Tok} {kvs : List (Int × Value)} {Q : Value → Shared → Prop} (hc : c < 128) (hh : A.handled = none) (lo : (d == sysModules) = false) (hm : s.heap.DictOf (intKind prog w) d kvs) (hv : valueAt kvs (c : Int) = none)
    (h : ∀ h' tk t', (∀ b o, s.heap.get? b = some o → h'.get? b = some o) → Q (.str ⟨#[c]⟩ t') { s with heap := h', toks := tk }) : wpAny (model prog w) A (call (.builtin "str.translate") [.str ⟨#[c]⟩ t, .ref d]) Q E s := by
  refine wpAny_call_entry PySem.F.slot_str_translate (typeIs_str s _ t) PySem.F.entry_str_translate ?_ (PySem.F.args_str_translate_2 _ _)
  unfold Builtin.«str.translate»
  refine wpAny_bind (wpAny_of_eq (a := (.str ⟨#[c]⟩ t, ⟨#[c]⟩, .ref d)) rfl ?_)
  dsimp only
  rw [if_neg (by simp [Str.length])]
  have hf : ((⟨#[c]⟩ : Str).cps.all fun x => decide (x < 128)) = true := by simp [hc]
  rw [hf]
  rw [← Array.forIn_toList]
  simp only [List.forIn_cons, List.forIn_nil]
  have ht : Builtin.Str.tooLong 0 = false := by rfl
  simp only [ht, Bool.false_eq_true, if_false, if_true, List.lookup_nil]
  refine wpAny_bind (wpAny_bind ?_)
  refine wpAny_bind (lookup_keep (A := A.in1) hh lo hm hv fun h' tk k => ?_)
  dsimp only
  refine wpAny_bind (wpAny_pure ?_)
  dsimp only
  refine wpAny_pure ?_
  dsimp only
  refine wpAny_pure ?_
  dsimp only
  have ht1 : Builtin.Str.tooLong (0 + 1) = false := by rfl
  rw [ht1, if_neg Bool.false_ne_true]
  show wpAny (model prog w) A.in1 (retStr ⟨#[c]⟩) _ _ _
  unfold retStr
  refine wpAny_bind (wpAny_mkStr ?_ (by show (1 : Nat) ≤ sizeLine; decide))
  exact wpAny_pure ⟨_, rfl, h h' _ _ k⟩
end
end
section
open PySem PySem.W PyProof.Rows PySem.Calls
section
variable {c : Cx} {m : Mp} {nw : Nw} {env : Env} {Q : Value → Mp → Nw → Prop} {mg : Str → Option Value}
set_option maxRecDepth 100000 in
theorem pGetS {x : Str} {t : Tok} {nm : Str} {id : String} {pl : Sem Bool} {QM : Value × List Value → Mp → Nw → Prop} (slot : Slot "str" nm id) (hty : typeOf (.builtin id) = pure (.type "method_descriptor"))
    (q : QM (.builtin id, [.str x t]) m nw) : P c (getMethod (.str x t) nm pl) QM m nw := fun h tk I =>
  getMethod_builtin (typeIs_str _ x t) PySem.F.plainAttrs_str slot hty (fun b e => nomatch e) ⟨_, _, _, _, rfl, I, q⟩
/-- a global that is no def -/
theorem pGlobE {x : Str} {pos : Pos} {v : Value} (hg : c.b.Ns mainGlobals mg) (hv : mg x = some v) (q : Q v m nw) (he : env.globals = mainGlobals := by rfl) (hk : env.scope.kind = .function := by rfl) (hx : env.kindOf x = some .globalImplicit := by rfl)
    (hd : (x == ("__debug__" : Str)) = false := by decide) : P c (eval (.Name x pos) env) Q m nw := fun h tk I =>
  Name_function_global hk hx (loadGlobal_global (mg := mg) (by rw [he]; exact hg.keeps I.F.keep) hv ⟨_, _, _, _, rfl, I, q⟩) hd
theorem pIsiStr {x : Str} {t : Tok} (q : Q (.bool true) m nw) : P c (call (.builtin "isinstance") [.str x t, .type "str"]) Q m nw := fun h tk I =>
  call_isinstance_yes (T := "str") (typeIs_str _ x t) (by first | rfl | (rw [typeOf_type]; kernel_rfl) | kernel_rfl) (by first | rfl | (rw [isSubtype_type]; kernel_rfl)) ⟨_, _, _, _, rfl, I, q⟩
end
end
section
open PySem PySem.W PyProof.Rows PySem.Calls

theorem pTranslate {c : Cx} {m : Mp} {nw : Nw} {Q : Value → Mp → Nw → Prop} {a : Nat} {d : Addr} {t : Tok} {kvs : List (Int × Value)} (ha : a < 128) (hh : c.A.handled = none) (lo : (d == sysModules) = false) (hm : ∀ h, In c m nw h → h.DictOf (intKind c.prog c.w) d kvs) (hv : valueAt kvs (a : Int) = none)
    (q : ∀ t, Q (.str (S [a]) t) m nw) : P c (call (.builtin "str.translate") [.str (S [a]) t, .ref d]) Q m nw := fun h tk I =>
  translate_one ha hh lo (hm h I) hv fun h' tk' t' k => ⟨h', tk', m, nw, rfl, inKeep I k, q t'⟩
set_option maxRecDepth 100000 in
theorem escape_c {prog : Program} {w : World} {A : Around} {R : Result → Shared → Prop} {s : Shared} {f d : Addr} {a : Nat} {t : Tok} {kvs : List (Int × Value)} {mg mb : Str → Option Value} {fa : Nat → Addr}
    (r : Rm A 2) (T : G mg mb fa s.heap) (X : FnAt s.heap f 9) (hg : mg "_special_chars_map" = some (.ref d)) (hm : s.heap.DictOf (intKind prog w) d kvs) (lo : (d == sysModules) = false) (ha : a < 128) (hv : valueAt kvs (a : Int) = none)
    (ret : ∀ h' tk' t', (∀ b o, s.heap.get? b = some o → h'.get? b = some o) → R (.ok (.ret (.str (S [a]) t'))) { s with heap := h', toks := tk' }) :
    codeAny (model prog w) A (.call (.ref f) ⟨[.str (S [a]) t], []⟩) R s := by
  refine pEnter (i := 9) (binds := [("pattern", .str (S [a]) t)]) X T.nolimit r (fun _ _ _ => rfl) (locs rfl) (fun cd A' r' => ?_)
  have ret' : ∀ t m nw, endQ ⟨prog, w, A', s, s.heap, s.heap.objs.size⟩ R (.ret (.str (S [a]) t)) m nw := fun t m nw h tk I => ret h tk t I.F.keep
  have hm' : ∀ m nw h, In ⟨prog, w, A', s, s.heap, s.heap.objs.size⟩ m nw h → h.DictOf (intKind prog w) d kvs := fun m nw h I => hm.keep I.F.keep
  clear ret
  generalize hcx : (⟨prog, w, A', s, s.heap, s.heap.objs.size⟩ : Cx) = c at ret' hm' ⊢
  have hc1 : c.A = A' := by rw [← hcx]
  have hc2 : c.b = s.heap := by rw [← hcx]
  have hc3 : s.heap.objs.size = c.L := by rw [← hcx]
  have hc4 : c.prog = prog := by rw [← hcx]
  have hc5 : c.w = w := by rw [← hcx]
  rw [hc3]
  rw [← hc2] at T
  rw [← hc1] at r'
  rw [← hc4, ← hc5] at hm'
  clear hcx hc1 hc2 hc3 hc4 hc5
  refine pCons ?_
  refine pIf ?_
  refine pIsVal ?_
  refine pCall ?_
  refine pBnFE (by assumption) ?_
  refine pWithB ?_
  refine pArgs ?_
  refine pNameE rfl ?_
  refine pArgs ?_
  refine pBnTE (by assumption) ?_
  refine pArgs0 ?_
  refine pIsiStr ?_
  refine pTrue ?_
  refine (if_pos rfl).mpr ?_
  refine pCons ?_
  refine pReturn ?_
  refine pMeth ?_
  refine pNameE rfl ?_
  with_reducible refine pGetS PySem.F.slot_str_translate PySem.F.type_str_translate ?_
  refine pWithB ?_
  refine pArgs ?_
  refine pGlobE T.g hg ?_
  refine pArgs0 ?_
  refine pTranslate ha r'.hd lo (hm' _ _) hv fun t => ?_
  exact ret' t _ _
end
section
open PySem PySem.W PyProof.Rows PySem.Calls PySem.Builtin
set_option maxRecDepth 100000
/-! ### type.__new__ over a class with one slot -/
theorem mro_object : mroOf (.type "object") = pure [.type "object"] := by rw [mroOf_type]; kernel_rfl
theorem ext_object : Builtin.extendedBase [.type "object"] = pure (.type "object") := by unfold Builtin.extendedBase; kernel_rfl
theorem nt_object : Builtin.notOverATurnedClass [.type "object"] = pure () := by kernel_rfl
theorem bb_object : Builtin.Slots.bestBase [.type "object"] = pure (.type "object") := by kernel_rfl
theorem sn_object : Builtin.Slots.slotNamesOf (.type "object") = pure [] := by kernel_rfl
theorem gd_object : Builtin.Slots.givesDict (.type "object") = pure false := by kernel_rfl
theorem gw_object : Builtin.Slots.givesWeak (.type "object") = pure false := by kernel_rfl
theorem vs_object : Builtin.Slots.varSize (.type "object") = pure false := by kernel_rfl
theorem mh_type : Builtin.mroHook? (.type "type") = pure none := by kernel_rfl
theorem mb_object : Bind.madeBy (.type "object") = pure (some "object.__new__") := by kernel_rfl
theorem lin_object : Builtin.linearize [.type "object"] mroOf = pure [.type "object"] := by kernel_rfl
theorem it_dict : typeLookup (.type "dict") "__iter__" = pure (some (.builtin "dict.__iter__")) := by rw [typeLookup_type, builtinLookup_eq_fast]; kernel_rfl
theorem sub_tt : isSubtype (.type "tuple") (.type "tuple") = pure true := by kernel_rfl
theorem sub_dd : isSubtype (.type "dict") (.type "dict") = pure true := by kernel_rfl
theorem sub_ty : isSubtype (.type "type") (.type "type") = pure true := by kernel_rfl
theorem ty_object : typeOf (.type "object") = pure (.type "type") := by kernel_rfl
theorem it_object : PySem.isType (.type "object") = pure true := by kernel_rfl
theorem no_sn_fn : typeLookup (.type "function") "__set_name__" = pure none := by rw [typeLookup_type, builtinLookup_eq_fast]; kernel_rfl
theorem no_sn_str : typeLookup (.type "str") "__set_name__" = pure none := by rw [typeLookup_type, builtinLookup_eq_fast]; kernel_rfl
theorem no_sn_int : typeLookup (.type "int") "__set_name__" = pure none := by rw [typeLookup_type, builtinLookup_eq_fast]; kernel_rfl
theorem no_sn_none : typeLookup (.type "NoneType") "__set_name__" = pure none := by rw [typeLookup_type, builtinLookup_eq_fast]; kernel_rfl
theorem no_sn_list : typeLookup (.type "list") "__set_name__" = pure none := by rw [typeLookup_type, builtinLookup_eq_fast]; kernel_rfl
theorem no_sn_tup : typeLookup (.type "tuple") "__set_name__" = pure none := by rw [typeLookup_type, builtinLookup_eq_fast]; kernel_rfl
theorem no_sn_md : typeLookup (.type "member_descriptor") "__set_name__" = pure none := by rw [typeLookup_type, builtinLookup_eq_fast]; kernel_rfl

section
variable {prog : Program} {w : World} {A : Around} {h : Heap} {g : Array GenState} {d : Drawn} {tk : Nat} {os : OsState} {E : Value → Shared → Prop}
theorem items_tup {a : Addr} {o : Obj} {xs : Array Value} {n : Nat} {Q : Option (Array Value) → Shared → Prop} (ho : h.get? a = some o) (hd : o.data = .seq xs n) (hq : Q (some xs) ⟨h, g, d, tk, os⟩) :
    wpAny (model prog w) A (seqItems? (.ref a)) Q E ⟨h, g, d, tk, os⟩ := by
  unfold seqItems?
  refine wpAny_bind (wpAny_load' ho ?_)
  rw [hd]
  exact wpAny_pure hq
theorem isInst {a : Addr} {o : Obj} {T U : String} {b : Bool} {Q : Bool → Shared → Prop} (ho : h.get? a = some o) (hd : o.cls = .type T) (hs : isSubtype (.type T) (.type U) = pure b) (hq : Q b ⟨h, g, d, tk, os⟩) :
    wpAny (model prog w) A (isInstance (.ref a) (.type U)) Q E ⟨h, g, d, tk, os⟩ := by
  unfold isInstance typeOf
  refine wpAny_bind (wpAny_bind (wpAny_loadPart' ho (wpAny_pure ?_)))
  rw [hd, hs]
  exact wpAny_pure hq
theorem dictEnts {a : Addr} {o : Obj} {es : Array DictEntry} {n : Nat} {p : Option Value} {Q : Array DictEntry → Shared → Prop} (ho : h.get? a = some o) (hd : o.data = .dict es n) (hq : Q es ⟨h, g, d, tk, os⟩) :
    wpAny (model prog w) A (dictEntries a p) Q E ⟨h, g, d, tk, os⟩ := by
  unfold dictEntries
  refine wpAny_bind (wpAny_loadPart' ho ?_)
  rw [hd]
  exact wpAny_pure hq
theorem special {a : Addr} {o : Obj} {T : String} {nm : Str} {r : Option Value} {Q : Option Value → Shared → Prop} (ho : h.get? a = some o) (hc : o.cls = .type T) (hl : typeLookup (.type T) nm = pure r) (hq : Q r ⟨h, g, d, tk, os⟩) :
    wpAny (model prog w) A (specialOf (.ref a) nm) Q E ⟨h, g, d, tk, os⟩ := by
  unfold specialOf typeOf
  refine wpAny_bind (wpAny_bind (wpAny_loadPart' ho (wpAny_pure ?_)))
  rw [hc, hl]
  exact wpAny_pure hq
theorem nsGetX {a : Addr} {o : Obj} {nm : Str} {r : Option Value} {Q : Option Value → Shared → Prop} (ho : h.get? a = some o) (hl : nsLook nm o = pure r) (hq : Q r ⟨h, g, d, tk, os⟩) :
    wpAny (model prog w) A (nsGet a nm) Q E ⟨h, g, d, tk, os⟩ := by
  unfold nsGet
  refine wpAny_bind (wpAny_loadPart' ho ?_)
  rw [hl]
  exact wpAny_pure hq
end

/-- the class's dict at n and the class at K; the rest of h₀ stays -/
structure KS (h₀ : Heap) (n K : Addr) (od oK : Obj) (h : Heap) : Prop where
  keep : ∀ b o, b ≠ n → b ≠ K → h₀.get? b = some o → h.get? b = some o
  d : h.get? n = some od
  k : h.get? K = some oK
  ne : n ≠ K
theorem KS.updD {h₀ h : Heap} {n K : Addr} {od oK : Obj} (x : KS h₀ n K od oK h) (f : Obj → Obj) (od' : Obj) (e : f od = od') (hf : od'.isFreed = false) : KS h₀ n K od' oK (h.update n f) := by
  have hs : Heap.SameBut n h (h.update n f) := Heap.SameBut.update ..
  subst e
  exact ⟨fun b o hn hk eb => (hs.2 b hn).trans (x.keep b o hn hk eb), Heap.get?_update_self f x.d hf, (hs.2 K x.ne.symm).trans x.k, x.ne⟩
theorem KS.updK {h₀ h : Heap} {n K : Addr} {od oK : Obj} (x : KS h₀ n K od oK h) (f : Obj → Obj) (oK' : Obj) (e : f oK = oK') (hf : oK'.isFreed = false) : KS h₀ n K od oK' (h.update K f) := by
  have hs : Heap.SameBut K h (h.update K f) := Heap.SameBut.update ..
  subst e
  exact ⟨fun b o hn hk eb => (hs.2 b hk).trans (x.keep b o hn hk eb), (hs.2 n x.ne).trans x.d, Heap.get?_update_self f x.k hf, x.ne⟩
theorem KS.keeps {h₀ h h' : Heap} {n K : Addr} {od oK : Obj} (x : KS h₀ n K od oK h) (k : ∀ b o, h.get? b = some o → h'.get? b = some o) : KS h₀ n K od oK h' :=
  ⟨fun b o hn hk e => k b o (x.keep b o hn hk e), k _ _ x.d, k _ _ x.k, x.ne⟩
/-- a new start -/
theorem KS.here {h₀ h : Heap} {n K : Addr} {od oK : Obj} (x : KS h₀ n K od oK h) : KS h n K od oK h := ⟨fun _ _ _ _ e => e, x.d, x.k, x.ne⟩
theorem KS.andThen {h₀ h h' : Heap} {n K : Addr} {od oK od' oK' : Obj} (x : KS h₀ n K od oK h) (y : KS h n K od' oK' h') : KS h₀ n K od' oK' h' := ⟨fun b o hn hk e => y.keep b o hn hk (x.keep b o hn hk e), y.d, y.k, y.ne⟩

section
variable {prog : Program} {w : World} {A : Around} {h h₀ : Heap} {n K : Addr} {od oK : Obj} {g : Array GenState} {d : Drawn} {tk : Nat} {os : OsState} {E : Value → Shared → Prop}
theorem ksGet {nm : Str} {r : Option Value} {Q : Option Value → Shared → Prop} (S : KS h₀ n K od oK h) (hl : nsLook nm od = pure r) (hq : Q r ⟨h, g, d, tk, os⟩) : wpAny (model prog w) A (nsGet n nm) Q E ⟨h, g, d, tk, os⟩ := nsGetX S.d hl hq
theorem ksSet {nm : Str} {v : Value} {es : Array DictEntry} {k : Nat} {od' : Obj} {Q : Unit → Shared → Prop} (S : KS h₀ n K od oK h) (hd : od.data = .dict es k) (ha : aRefKeyMayBeTheName nm es = false)
    (he : Obj.putName nm (if nm.cps.isEmpty then 0 else reduceHash (w.params.strHash nm.cps)) (.str nm tk) v od = od') (hf : od'.isFreed = false) (hq : ∀ h', KS h₀ n K od' oK h' → Q () ⟨h', g, d, tk + 1, os⟩) : wpAny (model prog w) A (nsSet n nm v) Q E ⟨h, g, d, tk, os⟩ := by
  unfold nsSet strHash mkText
  refine wpAny_bind (wpAny_bind (nd_ask (wpAny_pure (wpAny_pure (wpAny_bind (wpAny_bind (wpAny_fresh (wpAny_pure (wpAny_bind (wpAny_loadPart' S.d ?_)))))))))) 
  rw [hd]
  simp only [ha, Bool.false_eq_true, if_false]
  exact wpAny_updatePart' S.d (hq _ (S.updD _ od' he hf))
theorem ksDel {nm : Str} {od' : Obj} {Q : Bool → Shared → Prop} (S : KS h₀ n K od oK h) (hn : nsHas nm od = pure true) (he : Obj.dropName nm od = od') (hf : od'.isFreed = false) (hq : ∀ h', KS h₀ n K od' oK h' → Q true ⟨h', g, d, tk, os⟩) :
    wpAny (model prog w) A (nsDel n nm) Q E ⟨h, g, d, tk, os⟩ := by
  unfold nsDel
  refine wpAny_bind (wpAny_loadPart' S.d ?_)
  rw [hn]
  refine wpAny_bind (wpAny_pure ?_)
  exact wpAny_bind (wpAny_updatePart' S.d (wpAny_pure (hq _ (S.updD _ od' he hf))))
theorem ksSlot {i : Nat} {v : Option Value} {oK' : Obj} {Q : Unit → Shared → Prop} (S : KS h₀ n K od oK h) (hi : i < sizeLine) (he : ({ oK with slots := (oK.slots ++ Array.replicate (i + 1 - oK.slots.size) none).setIfInBounds i v } : Obj) = oK') (hf : oK'.isFreed = false)
    (hq : ∀ h', KS h₀ n K od oK' h' → Q () ⟨h', g, d, tk, os⟩) : wpAny (model prog w) A (setSlotAt K i v) Q E ⟨h, g, d, tk, os⟩ := by
  unfold setSlotAt
  refine wpAny_ite_false (decide_eq_false (Nat.not_le.mpr hi)) ?_
  exact wpAny_updatePart' S.k (hq _ (S.updK _ oK' he hf))
theorem ksCls {f : ClassData → ClassData} {cd : ClassData} {oK' : Obj} {Q : Unit → Shared → Prop} (S : KS h₀ n K od oK h) (hd : oK.data = .cls cd) (he : Obj.mapCls f oK = oK') (hf : oK'.isFreed = false) (hp : oK'.data.pastItsLine = none)
    (hq : ∀ h', KS h₀ n K od oK' h' → Q () ⟨h', g, d, tk, os⟩) : wpAny (model prog w) A (updateCls K f) Q E ⟨h, g, d, tk, os⟩ := by
  unfold updateCls
  refine wpAny_bind (wpAny_load' S.k ?_)
  rw [hd]
  refine wpAny_bind (wpAny_update' S.k ?_)
  have S' := S.updK _ oK' he hf
  unfold lookBehind
  refine wpAny_bind (wpAny_loadPart' S'.k ?_)
  rw [hp]
  exact wpAny_pure (hq _ S')
theorem ksData {cd : ClassData} {Q : ClassData → Shared → Prop} (S : KS h₀ n K od oK h) (hd : oK.data = .cls cd) (hq : Q cd ⟨h, g, d, tk, os⟩) : wpAny (model prog w) A (classData K) Q E ⟨h, g, d, tk, os⟩ := by
  unfold classData
  refine wpAny_bind (wpAny_load' S.k ?_)
  rw [hd]
  exact wpAny_pure hq
theorem ksSlotAt {i : Nat} {Q : Option Value → Shared → Prop} (S : KS h₀ n K od oK h) (hq : Q (oK.slots[i]?).join ⟨h, g, d, tk, os⟩) : wpAny (model prog w) A (slotAt K i) Q E ⟨h, g, d, tk, os⟩ := by
  unfold slotAt
  exact wpAny_bind (wpAny_loadPart' S.k (wpAny_pure hq))
end
end
section
open PySem PySem.W PyProof.Rows PySem.Calls PySem.Builtin PySem.W.X
set_option maxRecDepth 100000
/-- the class body's names, in their order -/
noncomputable def kes (hs : Nat → Int) (ts : Nat → Tok) (vm vl : Value) (q : Str) (tq : Tok) (ls sa : Addr) (fn : Nat → Addr) : List DictEntry :=
  [⟨hs 0, .str "__module__" (ts 0), vm⟩, ⟨hs 1, .str "__qualname__" (ts 1), .str q tq⟩, ⟨hs 2, .str "__firstlineno__" (ts 2), vl⟩, ⟨hs 3, .str "__slots__" (ts 3), .ref ls⟩, ⟨hs 4, .str "__init__" (ts 4), .ref (fn 0)⟩, ⟨hs 5, .str "__lt__" (ts 5), .ref (fn 1)⟩,
    ⟨hs 6, .str "__gt__" (ts 6), .ref (fn 2)⟩, ⟨hs 7, .str "__eq__" (ts 7), .ref (fn 3)⟩, ⟨hs 8, .str "__le__" (ts 8), .ref (fn 4)⟩, ⟨hs 9, .str "__ge__" (ts 9), .ref (fn 5)⟩, ⟨hs 10, .str "__hash__" (ts 10), .none⟩, ⟨hs 11, .str "__static_attributes__" (ts 11), .ref sa⟩]
section
variable {prog : Program} {w : World} {A : Around} {h : Heap} {d : Drawn} {tk : Nat} {os : OsState} {E : Value → Shared → Prop}
local macro_rules | `(tactic| x_close) => `(tactic| (refine ⟨_, _, rfl, rfl, by assumption⟩))
set_option maxHeartbeats 1000000 in
theorem collect1 {ls : Addr} {x : Str} {t : Tok} {n : Nat} (hl : h.get? ls = some ⟨.type "list", none, .seq #[.str x t] n, #[]⟩) :
    wpAny (model prog w) A (runValue (.builtin "proto.collect" ⟨[.ref ls], []⟩)) (fun v s' => ∃ a h', s' = ⟨h', #[], d, tk, os⟩ ∧ v = .ref a ∧ Mem h h' [] [(a, ⟨.type "list", none, .seq #[.str x t] 1, #[]⟩)]) (fun _ _ => False) ⟨h, #[], d, tk, os⟩ := by
  x_run

theorem mem_keep {h h' : Heap} {nws : List (Addr × Obj)} (D : Mem h h' [] nws) (b : Addr) (o : Obj) (e : h.get? b = some o) : h'.get? b = some o := D.keep b o e (by rw [show away [] b = true from rfl, Bool.or_true])
theorem look0 {l : List DictEntry} {p : DictEntry → Bool} {e : DictEntry} (h : l.find? p = some e) : l.toArray.find? p = some e := by simpa using h
set_option maxHeartbeats 1000000 in
theorem slots_read {hs : Nat → Int} {ts : Nat → Tok} {vm vl : Value} {q : Str} {tq t : Tok} {ls sa : Addr} {fn : Nat → Addr} {n : Nat} {Q : Slots.Plan → Shared → Prop} (hl : h.get? ls = some ⟨.type "list", none, .seq #[.str "obj" t] n, #[]⟩)
    (hq : ∀ h1, (∀ b o, h.get? b = some o → h1.get? b = some o) → Q ⟨["obj"], false, false, []⟩ ⟨h1, #[], d, tk, os⟩) :
    wpAny (model prog w) A (Slots.read (Str.ofString "K") [.type "object"] (kes hs ts vm vl q tq ls sa fn).toArray) Q E ⟨h, #[], d, tk, os⟩ := by
  unfold Slots.read
  refine wpAny_bind (wpAny_of_eq bb_object ?_)
  refine wpAny_bind (wpAny_of_eq sn_object ?_)
  refine wpAny_bind (wpAny_of_eq gd_object ?_)
  refine wpAny_bind (wpAny_of_eq gw_object ?_)
  refine wpAny_bind (wpAny_of_eq vs_object ?_)
  have e1 : (kes hs ts vm vl q tq ls sa fn).toArray.find? (fun e => e.key.isStr "__slots__") = some ⟨hs 3, .str "__slots__" (ts 3), .ref ls⟩ := by
    simp only [List.find?_toArray]; kernel_rfl
  rw [e1]
  refine wpAny_bind (wpAny_rule ?_)
  have hl' := hl
  refine wpAny_bind ?_
  unfold asStr?
  refine wpAny_bind (wpAny_load' hl ?_)
  refine wpAny_pure ?_
  refine wpAny_bind ?_
  unfold collect
  refine wpAny_bind (wpAny_mono (collect1 hl) (fun v s' hv => ?_) fun _ _ x => x.elim)
  obtain ⟨a, h1, rfl, rfl, D⟩ := hv
  refine wpAny_bind (wpAny_load' (D.at 0 _ _ rfl) ?_)
  refine wpAny_pure ?_
  refine wpAny_of_eq (a := (⟨["obj"], false, false, []⟩ : Slots.Plan)) ?_ (hq h1 (mem_keep D))
  kernel_rfl
end
end
section
open PySem PySem.W PyProof.Rows PySem.Calls PySem.Builtin PySem.W.X
set_option maxRecDepth 100000
noncomputable def kcls (q : Str) (N : Addr) (mro : List Value) (hd : Bool) (sn : List Str) (sl : Array (Option Value)) : Obj := ⟨.type "type", none, .cls { name := "K", bases := [.type "object"], mro := mro, ns := N, qualname := q, hasDict := hd, slotNames := sn }, sl⟩
noncomputable def kh (w : World) (nm : Str) : Int := if nm.cps.isEmpty then 0 else reduceHash (w.params.strHash nm.cps)
noncomputable def kmd (K : Addr) (tk : Tok) : Obj := ⟨.type "member_descriptor", none, .fields #[.str "obj" tk, .ref K, .builtin "proto.slot", .builtin "proto.slot#set", .int 0 0], #[]⟩
noncomputable def kdict (l : List DictEntry) (n : Nat) : Obj := ⟨.type "dict", none, .dict l.toArray n, #[]⟩
section
variable {prog : Program} {w : World} {A : Around} {h h₀ : Heap} {n K : Addr} {od oK : Obj} {g : Array GenState} {d : Drawn} {tk : Nat} {os : OsState} {E : Value → Shared → Prop}
theorem ksMro {cd : ClassData} {Q : List Value → Shared → Prop} (S : KS h₀ n K od oK h) (hd : oK.data = .cls cd) (hq : Q cd.mro ⟨h, g, d, tk, os⟩) : wpAny (model prog w) A (mroOf (.ref K)) Q E ⟨h, g, d, tk, os⟩ := by
  unfold mroOf
  exact wpAny_bind (ksData S hd (wpAny_pure hq))
theorem ksOwn {cd : ClassData} {nm : Str} {r : Option Value} {Q : Option Value → Shared → Prop} (S : KS h₀ n K od oK h) (hd : oK.data = .cls cd) (hn : cd.ns = n) (hl : nsLook nm od = pure r) (hq : Q r ⟨h, g, d, tk, os⟩) :
    wpAny (model prog w) A (classOwn (.ref K) nm) Q E ⟨h, g, d, tk, os⟩ := by
  unfold classOwn
  refine wpAny_bind (ksData S hd ?_)
  rw [hn]
  exact ksGet S hl hq
theorem ksLookO {cd : ClassData} {nm : Str} {r : Option Value} {Q : Option Value → Shared → Prop} (S : KS h₀ n K od oK h) (hd : oK.data = .cls cd) (hm : cd.mro = [.ref K, .type "object"]) (hn : cd.ns = n) (hl : nsLook nm od = pure none) (ho : builtinOwn "object" nm = r)
    (hq : Q r ⟨h, g, d, tk, os⟩) : wpAny (model prog w) A (typeLookup (.ref K) nm) Q E ⟨h, g, d, tk, os⟩ := by
  unfold typeLookup
  refine wpAny_bind (ksMro S hd ?_)
  rw [hm]
  refine wpAny_bind ?_
  rw [List.forIn_cons]
  refine wpAny_bind (wpAny_bind (ksOwn S hd hn hl (wpAny_pure ?_)))
  show wpAny _ _ (forIn [Value.type "object"] (none, ()) _) _ _ _
  rw [List.forIn_cons]
  refine wpAny_bind (wpAny_bind ?_)
  unfold classOwn
  refine wpAny_pure ?_
  rw [ho]
  cases r with
  | none => exact wpAny_pure (wpAny_pure (wpAny_pure hq))
  | some v => exact wpAny_pure (wpAny_pure (wpAny_pure hq))
theorem ksSetV {nm : Str} {v : Value} {es : Array DictEntry} {k : Nat} {od' : Obj} {Q : Unit → Shared → Prop} (S : KS h₀ n K od oK h) (hd : od.data = .dict es k) (hz : es.size ≤ sizeLine) (ha : aRefKeyMayBeTheName nm es = false)
    (he : Obj.putName nm (if nm.cps.isEmpty then 0 else reduceHash (w.params.strHash nm.cps)) (.str nm tk) v od = od') (hf : od'.isFreed = false) (hq : ∀ h', KS h₀ n K od' oK h' → Q () ⟨h', g, d, tk + 1, os⟩) : wpAny (model prog w) A (nsSetByValue n nm v) Q E ⟨h, g, d, tk, os⟩ := by
  unfold nsSetByValue
  refine wpAny_bind (wpAny_loadPart' S.d ?_)
  rw [hd]
  have hz' : (decide (es.size > sizeLine) && noSuchName nm es) = false := by rw [decide_eq_false (Nat.not_lt.mpr hz)]; rfl
  simp only [hz', Bool.false_eq_true, if_false]
  exact ksSet S hd ha he hf hq
end
end
section
open PySem PySem.W PyProof.Rows PySem.Calls PySem.Builtin PySem.W.X
set_option maxRecDepth 100000
noncomputable def kObj (K N : Addr) (sl : Array (Option Value)) : Obj := ⟨.type "type", none, .cls { name := ⟨#[75]⟩, bases := [.type "object"], mro := [.ref K, .type "object"], ns := N, qualname := ⟨#[99, 109, 112, 95, 116, 111, 95, 107, 101, 121, 46, 60, 108, 111, 99, 97, 108, 115, 62, 46, 75]⟩, hasDict := false, slotNames := [⟨#[111, 98, 106]⟩] }, sl⟩
section
variable {prog : Program} {w : World} {A : Around} {h : Heap} {d : Drawn} {tk : Nat} {os : OsState} {E : Value → Shared → Prop}
local macro_rules | `(tactic| x_close) => `(tactic| (first | (refine ⟨_, _, _, rfl, rfl, by assumption⟩) | (trace_state; fail)))
set_option maxHeartbeats 1000000 in
theorem super_call {K N : Addr} {sl : Array (Option Value)} (hK : h.get? K = some (kObj K N sl)) :
    wpAny (model prog w) A (call (.type "super") [.ref K, .ref K]) (fun v s' => ∃ a h' tk', s' = ⟨h', #[], d, tk', os⟩ ∧ v = .ref a ∧ Mem h h' [] [(a, ⟨.type "super", none, .fields #[.ref K, .ref K, .ref K], #[]⟩)]) (fun _ _ => False) ⟨h, #[], d, tk, os⟩ := by
  have hK' : h.get? K = some ⟨.type "type", none, .cls { name := ⟨#[75]⟩, bases := [.type "object"], mro := [.ref K, .type "object"], ns := N, qualname := ⟨#[99, 109, 112, 95, 116, 111, 95, 107, 101, 121, 46, 60, 108, 111, 99, 97, 108, 115, 62, 46, 75]⟩, hasDict := false, slotNames := [⟨#[111, 98, 106]⟩] }, sl⟩ := hK
  clear hK
  x_run
set_option maxHeartbeats 1000000 in
theorem get_call {K N : Addr} {sl : Array (Option Value)} (hK : h.get? K = some (kObj K N sl)) :
    wpAny (model prog w) A (call (.builtin "classmethod_descriptor.__get__") [.builtin "object.__init_subclass__", .none, .ref K]) (fun v s' => ∃ a h' tk', s' = ⟨h', #[], d, tk', os⟩ ∧ v = .ref a ∧ Mem h h' [] [(a, ⟨.type "builtin_function_or_method", none, .fields #[.builtin "object.__init_subclass__", .ref K], #[]⟩)]) (fun _ _ => False) ⟨h, #[], d, tk, os⟩ := by
  have hK' : h.get? K = some ⟨.type "type", none, .cls { name := ⟨#[75]⟩, bases := [.type "object"], mro := [.ref K, .type "object"], ns := N, qualname := ⟨#[99, 109, 112, 95, 116, 111, 95, 107, 101, 121, 46, 60, 108, 111, 99, 97, 108, 115, 62, 46, 75]⟩, hasDict := false, slotNames := [⟨#[111, 98, 106]⟩] }, sl⟩ := hK
  clear hK
  x_run
end
section
variable {prog : Program} {w : World} {A : Around} {h : Heap} {d : Drawn} {tk : Nat} {os : OsState} {E : Value → Shared → Prop}
local macro_rules | `(tactic| x_close) => `(tactic| (exact rfl))
set_option maxHeartbeats 1000000 in
theorem init_sub {K b N : Addr} {sl : Array (Option Value)} (hK : h.get? K = some (kObj K N sl))
    (hb : h.get? b = some ⟨.type "builtin_function_or_method", none, .fields #[.builtin "object.__init_subclass__", .ref K], #[]⟩) :
    wpAny (model prog w) A (call (.ref b) []) (fun _ s' => s' = ⟨h, #[], d, tk, os⟩) (fun _ _ => False) ⟨h, #[], d, tk, os⟩ := by
  have hK' : h.get? K = some ⟨.type "type", none, .cls { name := ⟨#[75]⟩, bases := [.type "object"], mro := [.ref K, .type "object"], ns := N, qualname := ⟨#[99, 109, 112, 95, 116, 111, 95, 107, 101, 121, 46, 60, 108, 111, 99, 97, 108, 115, 62, 46, 75]⟩, hasDict := false, slotNames := [⟨#[111, 98, 106]⟩] }, sl⟩ := hK
  clear hK
  x_run
end
section
variable {prog : Program} {w : World} {A : Around} {h : Heap} {d : Drawn} {tk : Nat} {os : OsState} {E : Value → Shared → Prop}
/-- no class of another library is there -/
noncomputable def NoThird (h : Heap) : Prop := ∃ m, h.Ns cStatics m ∧ m "thirdparty.any" = none
theorem NoThird.keeps {h h' : Heap} (x : NoThird h) (k : ∀ b o, h.get? b = some o → h'.get? b = some o) : NoThird h' := let ⟨m, a, b⟩ := x; ⟨m, a.keeps k, b⟩
theorem own_is : builtinOwn "object" "__init_subclass__" = some (.builtin "object.__init_subclass__") := by kernel_rfl
theorem own_get : typeLookup (.type "classmethod_descriptor") "__get__" = pure (some (.builtin "classmethod_descriptor.__get__")) := by rw [typeLookup_type, builtinLookup_eq_fast]; kernel_rfl
theorem own_ty : typeOf (.builtin "object.__init_subclass__") = pure (.type "classmethod_descriptor") := by kernel_rfl
theorem opq {K : Addr} {Q : Option Str → Shared → Prop} {g : Array GenState} (hst : NoThird h) (hq : Q none ⟨h, g, d, tk, os⟩) : wpAny (model prog w) A (opaqueClassAbove (.ref K)) Q E ⟨h, g, d, tk, os⟩ := by
  obtain ⟨m, hm, hn⟩ := hst
  unfold opaqueClassAbove anyOpaqueLoaded
  try wp_delta
  try wp_delta
  refine wpAny_bind (wpAny_bind (wpAny_nsGet hm (wpAny_pure ?_)))
  rw [hn]
  exact wpAny_pure hq
set_option maxHeartbeats 1000000 in
theorem super_ga {K N sup : Addr} {sl : Array (Option Value)} {t' : Tok} {Q : Fin → Shared → Prop} (hs : h.get? sup = some ⟨.type "super", none, .fields #[.ref K, .ref K, .ref K], #[]⟩) (hst : NoThird h)
    (hK : h.get? K = some (kObj K N sl))
    (hq : ∀ b h' tk', h.get? b = none → (∀ x o, h.get? x = some o → h'.get? x = some o) → h'.get? b = some ⟨.type "builtin_function_or_method", none, .fields #[.builtin "object.__init_subclass__", .ref K], #[]⟩ → Q (.done (.ret (.ref b))) ⟨h', #[], d, tk', os⟩) :
    wpAny (model prog w) A (Builtin.«super.__getattribute__» ⟨[.ref sup, .str "__init_subclass__" t'], []⟩) Q (fun _ _ => False) ⟨h, #[], d, tk, os⟩ := by
  have hdt : (⟨.type "super", none, .fields #[.ref K, .ref K, .ref K], #[]⟩ : Obj).data = .fields #[.ref K, .ref K, .ref K] := rfl
  have f0 : (#[.ref K, .ref K, .ref K] : Array Value)[0]? = some (.ref K) := rfl
  have f1 : (#[.ref K, .ref K, .ref K] : Array Value)[1]? = some (.ref K) := rfl
  have f2 : (#[.ref K, .ref K, .ref K] : Array Value)[2]? = some (.ref K) := rfl
  unfold Builtin.«super.__getattribute__»
  refine wpAny_bind (wpAny_pure ?_)
  try wp_delta
  refine wpAny_bind (wpAny_pure ?_)
  try wp_delta
  refine wpAny_bind (wpAny_field hs hdt f0 ?_)
  refine wpAny_bind (wpAny_field hs hdt f1 ?_)
  refine wpAny_bind (wpAny_field hs hdt f2 ?_)
  try wp_delta
  refine wpAny_ite_false (by kernel_rfl) ?_
  try wp_delta
  refine wpAny_bind (wpAny_bind (opq hst ?_))
  refine wpAny_pure ?_
  try wp_delta
  refine wpAny_ite_false (by kernel_rfl) ?_
  try wp_delta
  refine wpAny_bind ?_
  unfold mroOf classData
  refine wpAny_bind (wpAny_bind (wpAny_load' hK (wpAny_pure (wpAny_pure ?_))))
  have ed : List.drop 1 (List.dropWhile (fun x => x != Value.ref K) [Value.ref K, Value.type "object"]) = [Value.type "object"] := by simp
  try wp_delta
  refine wpAny_bind ?_
  show wpAny _ _ (forIn (List.drop 1 (List.dropWhile (fun x => x != Value.ref K) [Value.ref K, Value.type "object"])) _ _) _ _ _
  rw [ed, List.forIn_cons]
  refine wpAny_bind (wpAny_bind ?_)
  unfold classOwn
  refine wpAny_pure ?_
  rw [own_is]
  try wp_delta
  refine wpAny_bind (wpAny_of_eq own_ty ?_)
  refine wpAny_bind (wpAny_of_eq own_get ?_)
  try wp_delta
  refine wpAny_bind (wpAny_holding ?_)
  rw [if_pos (show (Value.ref K == Value.ref K) = true by simp)]
  refine wpAny_mono (get_call hK) (fun v s' hv => ?_) fun _ _ x => x.elim
  obtain ⟨b, h', tk', rfl, rfl, D⟩ := hv
  refine wpAny_bind (wpAny_pure ?_)
  refine wpAny_pure ?_
  refine wpAny_pure ?_
  try wp_delta
  refine wpAny_pure ?_
  exact hq b h' tk' (D.nw _ (.head _)).2 (mem_keep D) (D.at 0 _ _ rfl)
set_option maxHeartbeats 1000000 in
theorem getattr_super {K N sup : Addr} {sl : Array (Option Value)} {Q : Value → Shared → Prop} (hs : h.get? sup = some ⟨.type "super", none, .fields #[.ref K, .ref K, .ref K], #[]⟩) (hst : NoThird h)
    (hK : h.get? K = some (kObj K N sl))
    (hq : ∀ b h' tk', h.get? b = none → (∀ x o, h.get? x = some o → h'.get? x = some o) → h'.get? b = some ⟨.type "builtin_function_or_method", none, .fields #[.builtin "object.__init_subclass__", .ref K], #[]⟩ → Q (.ref b) ⟨h', #[], d, tk', os⟩) :
    wpAny (model prog w) A (getAttr (.ref sup) "__init_subclass__") Q E ⟨h, #[], d, tk, os⟩ := by
  have hT : ∀ t', (⟨h, #[], d, t', os⟩ : Shared).TypeIs (.ref sup) "super" := fun _ => ⟨_, hs, rfl⟩
  unfold getAttr getAttrBy
  refine wpAny_bind (wpAny_mkText (wpAny_holding (wpAny_bind (wpAny_typeOf (hT _) (wpAny_bind (wpAny_of_eq F.ks_slot_super_ga.lookup ?_))))))
  show wpAny _ _ (getAttrByItsOwn (.ref sup) (.str "__init_subclass__" tk) (.type "super") (.builtin "super.__getattribute__") true false) _ _ _
  unfold getAttrByItsOwn hookBefore callGetattribute boundAndCalled
  refine wpAny_bind (wpAny_of_eq (show (if onTheHeap (.type "super") then typeLookup (.type "super") "__getattr__" else pure none) = pure none from rfl) ?_)
  refine wpAny_bind (wpAny_attempt (wpAny_holding ?_))
  show wpAny _ _ (bindSpecial (.builtin "super.__getattribute__") (.ref sup) >>= _) _ _ _
  refine wpAny_bind (wpAny_of_eq (F.ks_slot_super_ga.bind _) ?_)
  refine wpAny_mono (Q := fun v s' => ∃ b h' tk', v = .ref b ∧ s' = ⟨h', #[], d, tk', os⟩ ∧ h.get? b = none ∧ (∀ x o, h.get? x = some o → h'.get? x = some o) ∧ h'.get? b = some ⟨.type "builtin_function_or_method", none, .fields #[.builtin "object.__init_subclass__", .ref K], #[]⟩) (E := fun _ _ => False)
    (wpAny_call_entry F.ks_slot_super_ga (hT _) F.ks_entry_super_ga (super_ga hs hst hK fun b h' tk' h1 h2 h3 => ⟨_, rfl, b, h', tk', rfl, rfl, h1, h2, h3⟩) (F.ks_gaArgs_super _ _)) (fun v s' hv => ?_) fun _ _ z => z.elim
  obtain ⟨b, h', tk', rfl, rfl, h1, h2, h3⟩ := hv
  exact wpAny_pure (hq b h' tk' h1 h2 h3)
end
end
section
open PySem PySem.W PyProof.Rows PySem.Calls PySem.Builtin PySem.W.X
set_option maxRecDepth 100000
noncomputable def qK : Str := ⟨#[99, 109, 112, 95, 116, 111, 95, 107, 101, 121, 46, 60, 108, 111, 99, 97, 108, 115, 62, 46, 75]⟩
theorem kcls_is {K N : Addr} {sl : Array (Option Value)} : kcls qK N [.ref K, .type "object"] false ["obj"] sl = kObj K N sl := by
  have e1 : (Str.ofString "K") = ⟨#[75]⟩ := by decide +kernel
  have e2 : (Str.ofString "obj") = ⟨#[111, 98, 106]⟩ := by decide +kernel
  unfold kcls kObj qK
  rw [e1, e2]
section
variable {prog : Program} {w : World} {A : Around} {h : Heap} {d : Drawn} {tk : Nat} {os : OsState} {E : Value → Shared → Prop}
/-- no entry has __set_name__ -/
noncomputable def NoSN (h : Heap) (v : Value) : Prop := match v with
  | .ref a => ∃ o T, h.get? a = some o ∧ o.cls = .type T ∧ typeLookup (.type T) "__set_name__" = pure none
  | v => ∃ T, typeOf v = pure (.type T) ∧ typeLookup (.type T) "__set_name__" = pure none
theorem noSN {v : Value} {g : Array GenState} {Q : Option Value → Shared → Prop} (x : NoSN h v) (hq : Q none ⟨h, g, d, tk, os⟩) : wpAny (model prog w) A (specialOf v "__set_name__") Q E ⟨h, g, d, tk, os⟩ := by
  unfold specialOf
  cases v with
  | ref a =>
    obtain ⟨o, T, ho, hc, hl⟩ := x
    exact special ho hc hl hq
  | _ =>
    obtain ⟨T, ht, hl⟩ := x
    rw [ht]
    refine wpAny_bind (wpAny_pure ?_)
    rw [hl]
    exact wpAny_pure hq
theorem forSame {α : Type} {f : α → PUnit → Sem (ForInStep PUnit)} {s : Shared} {Q : PUnit → Shared → Prop} (xs : Array α) (turn : ∀ x ∈ xs.toList, ∀ Q' : ForInStep PUnit → Shared → Prop, Q' (.yield ⟨⟩) s → wpAny (model prog w) A (f x ⟨⟩) Q' E s) (hq : Q ⟨⟩ s) :
    wpAny (model prog w) A (forIn xs PUnit.unit f) Q E s := by
  refine wpAny_forIn_array' f (fun rest _ s' => s' = s ∧ ∀ x ∈ rest, x ∈ xs.toList) Q (fun x rest b s' hI => ?_) (fun b s' hI => ?_) xs _ ⟨rfl, fun _ h => h⟩
  · obtain ⟨rfl, hm⟩ := hI
    exact turn x (hm x (.head _)) _ ⟨rfl, fun y hy => hm y (.tail _ hy)⟩
  · obtain ⟨rfl, _⟩ := hI
    exact hq
theorem objN {T : String} {data : Data} {g : Array GenState} {Q : Value → Shared → Prop} {o : Obj} (hd : sizeOk data) (e : ({ cls := .type T, data } : Obj) = o) (hf : o.isFreed = false)
    (hq : ∀ N h2, h.get? N = none → h2.get? N = some o → (∀ b x, h.get? b = some x → h2.get? b = some x) → h2.objs.size = N + 1 → Q (.ref N) ⟨h2, g, d, tk, os⟩) : wpAny (model prog w) A (newObj (.type T) data) Q E ⟨h, g, d, tk, os⟩ := by
  subst e
  exact wpAny_newObj_type (hq _ _ (Heap.get?_none_of_le (Nat.le_refl _)) (Heap.get?_push_size _ hf) (fun b x e => Heap.get?_push_of_some _ e) (Heap.size_push ..)) hd
theorem clsN {h1 h2 : Heap} {N : Addr} {od oc : Obj} {g : Array GenState} {Q : Addr → Shared → Prop} (hf : oc.isFreed = false) (n1 : h2.get? N = some od) (k2 : ∀ b o, h1.get? b = some o → h2.get? b = some o) 
    (hq : ∀ K h3, h1.get? K = none → KS h1 N K od oc h3 → Q K ⟨h3, g, d, tk, os⟩) : wpAny (model prog w) A (alloc oc) Q E ⟨h2, g, d, tk, os⟩ := by
  refine wpAny_alloc' (hq _ _ ?_ ⟨fun b o _ _ e => Heap.get?_push_of_some _ (k2 b o e), Heap.get?_push_of_some _ n1, Heap.get?_push_size _ hf, Nat.ne_of_lt (Heap.lt_size n1)⟩)
  cases e : h1.get? h2.objs.size with
  | none => rfl
  | some o => exact absurd (Heap.lt_size (k2 _ _ e)) (Nat.lt_irrefl _)
theorem mdN {h9 h1 : Heap} {N K : Addr} {od oK o : Obj} {T : String} {vs : List Value} {g : Array GenState} {Q : Value → Shared → Prop} (S6 : KS h1 N K od oK h9) (hd : sizeOk (.fields vs.toArray)) (e : ({ cls := .type T, data := .fields vs.toArray } : Obj) = o) (hf : o.isFreed = false)
    (hq : ∀ M h10, M ≠ N → M ≠ K → h9.get? M = none → h10.get? M = some o → KS h1 N K od oK h10 → KS h10 N K od oK h10 → Q (.ref M) ⟨h10, g, d, tk, os⟩) : wpAny (model prog w) A (newFields T vs) Q E ⟨h9, g, d, tk, os⟩ :=
  objN hd e hf fun M h10 f3 m1 k9 _ => hq M h10 (fun e => by rw [e, S6.d] at f3; cases f3) (fun e => by rw [e, S6.k] at f3; cases f3) f3 m1 ⟨fun b o a1 a2 e => k9 b o (S6.keep b o a1 a2 e), k9 _ _ S6.d, k9 _ _ S6.k, S6.ne⟩ ⟨fun b o _ _ e => e, k9 _ _ S6.d, k9 _ _ S6.k, S6.ne⟩
theorem anyDel {f : Value → Sem Bool} (K : Addr) (h : f (.type "object") = pure false) : List.anyM f (List.filter (fun x => x != Value.ref K) [.ref K, .type "object"]) = (pure false : Sem Bool) := by
  have ef : List.filter (fun x => x != Value.ref K) [.ref K, .type "object"] = [.type "object"] := by simp
  rw [ef]
  unfold List.anyM
  rw [h]
  rfl
set_option maxHeartbeats 1000000 in
theorem tnew {hs : Nat → Int} {ts : Nat → Tok} {mo : Str} {tm : Tok} {fl : Int} {ftk : Tok} {tq t t1 : Tok} {bt nsA ls sa : Addr} {fn : Nat → Addr} {n n' : Nat} {osa : Obj} {Q : Fin → Shared → Prop}
    (hb : h.get? bt = some ⟨.type "tuple", none, .seq #[.type "object"] 0, #[]⟩) (hn : h.get? nsA = some ⟨.type "dict", none, .dict (kes hs ts (.str mo tm) (.int fl ftk) qK tq ls sa fn).toArray n, #[]⟩)
    (hl : h.get? ls = some ⟨.type "list", none, .seq #[.str "obj" t] n', #[]⟩) (hsa : h.get? sa = some osa) (hsc : osa.cls = .type "tuple") (hfn : ∀ i < 6, ∃ o, h.get? (fn i) = some o ∧ o.cls = .type "function")
    (hne : nsA ≠ sysModules) (hst : NoThird h)
    (ret : ∀ h' tk' N K M tk1 tk2 tk3, (∀ b o, h.get? b = some o → h'.get? b = some o) → h.get? K = none → h.get? N = none → h.get? M = none → N ≠ K → M ≠ N → M ≠ K → h'.get? K = some (kObj K N #[some (.ref bt), none, some (.str "K" t1), some (.str qK tq), some (.builtin "object.__new__"), some (.bool false)]) →
      h'.get? N = some (kdict ((kes hs ts (.str mo tm) (.int fl ftk) qK tq ls sa fn).eraseIdx 1 ++ [⟨kh w "obj", .str "obj" tk2, .ref M⟩, ⟨kh w "__doc__", .str "__doc__" tk3, .none⟩]) 3) → h'.get? M = some (kmd K tk1) → Q (.done (.ret (.ref K))) ⟨h', #[], d, tk', os⟩) :
    wpAny (model prog w) A (Builtin.«type.__new__» ⟨[.type "type", .str (Str.ofString "K") t1, .ref bt, .ref nsA], []⟩) Q E ⟨h, #[], d, tk, os⟩ := by
  unfold Builtin.«type.__new__»
  refine wpAny_bind ?_
  iterate 3 wp_step
  refine isInst (by assumption) rfl sub_tt ?_
  iterate 2 wp_step
  refine isInst (by assumption) rfl sub_dd ?_
  iterate 2 wp_step
  refine items_tup (by assumption) rfl ?_
  iterate 8 wp_step
  refine wpAny_of_eq it_object ?_
  iterate 12 wp_step
  refine wpAny_of_eq ty_object ?_
  wp_step
  refine wpAny_of_eq sub_ty ?_
  iterate 7 wp_step
  refine wpAny_of_eq nt_object ?_
  wp_step
  refine wpAny_of_eq ext_object ?_
  iterate 2 wp_step
  refine dictEnts (by assumption) rfl ?_
  wp_step
  refine special (by assumption) rfl it_dict ?_
  iterate 5 wp_step
  refine slots_read hl fun h1 k1 => ?_
  refine wpAny_bind (objN (by show 12 ≤ sizeLine + 1; decide) rfl rfl fun N h2 f1 n1 k2 hsz => ?_)
  show wpAny _ _ _ _ _ _
  try wp_delta
  refine wpAny_ite_false (by kernel_rfl) ?_
  try wp_delta
  refine wpAny_bind (wpAny_of_eq (a := ()) (by kernel_rfl) ?_)
  try wp_delta
  refine wpAny_ite_false (by kernel_rfl) ?_
  try wp_delta
  refine wpAny_bind (nsGetX n1 (r := some (.str qK tq)) (by kernel_rfl) ?_)
  try wp_delta
  refine wpAny_bind (nsGetX n1 (r := some (.str qK tq)) (by kernel_rfl) ?_)
  try wp_delta
  refine wpAny_bind (wpAny_pure ?_)
  try wp_delta
  refine wpAny_bind (wpAny_pure ?_)
  try wp_delta
  refine wpAny_bind (nsGetX n1 (r := none) (by kernel_rfl) ?_)
  try wp_delta
  refine wpAny_bind (clsN rfl n1 k2 fun K h3 f2 S0 => ?_)
  clear n1 hsz k2
  try wp_delta
  refine wpAny_ite_true (by kernel_rfl) ?_
  refine wpAny_bind (ksSlot S0 (oK' := kcls qK N [] true [] #[some (.ref bt)]) (by decide) (by kernel_rfl) rfl fun h4 S1 => ?_)
  clear S0
  try wp_delta
  refine wpAny_bind (ksSlot S1 (oK' := kcls qK N [] true [] #[some (.ref bt), none, some (.str "K" t1)]) (by decide) (by kernel_rfl) rfl fun h5 S2 => ?_)
  clear S1
  try wp_delta
  refine wpAny_bind (ksSlot S2 (oK' := kcls qK N [] true [] #[some (.ref bt), none, some (.str "K" t1), some (.str qK tq)]) (by decide) (by kernel_rfl) rfl fun h6 S3 => ?_)
  clear S2
  try wp_delta
  refine wpAny_bind (ksDel S3 (od' := kdict ((kes hs ts (.str mo tm) (.int fl ftk) qK tq ls sa fn).eraseIdx 1) 1) (by kernel_rfl) (by kernel_rfl) rfl fun h7 S4 => ?_)
  clear S3
  try wp_delta
  refine wpAny_bind (ksGet S4 (r := none) (by kernel_rfl) ?_)
  try wp_delta
  refine wpAny_bind ?_
  rw [List.forIn_cons]
  refine wpAny_bind (wpAny_bind (ksGet S4 (r := none) (by kernel_rfl) ?_))
  refine wpAny_pure ?_
  try wp_delta
  rw [List.forIn_cons]
  refine wpAny_bind (wpAny_bind (ksGet S4 (r := none) (by kernel_rfl) ?_))
  refine wpAny_pure ?_
  try wp_delta
  rw [List.forIn_nil]
  refine wpAny_pure ?_
  try wp_delta
  refine wpAny_bind (ksGet S4 (r := none) (by kernel_rfl) ?_)
  try wp_delta
  refine wpAny_bind (ksGet S4 (r := none) (by kernel_rfl) ?_)
  try wp_delta
  refine wpAny_bind (wpAny_of_eq mh_type ?_)
  try wp_delta
  refine wpAny_bind (wpAny_of_eq lin_object ?_)
  try wp_delta
  refine wpAny_bind (wpAny_pure ?_)
  refine wpAny_bind (wpAny_of_eq (anyDel K (by kernel_rfl)) ?_)
  try wp_delta
  refine wpAny_bind (ksCls S4 rfl (oK' := kcls qK N [.ref K, .type "object"] true [] #[some (.ref bt), none, some (.str "K" t1), some (.str qK tq)]) (by kernel_rfl) rfl rfl fun h8 S5 => ?_)
  clear S4
  try wp_delta
  refine wpAny_bind (wpAny_of_eq mb_object ?_)
  try wp_delta
  refine wpAny_bind (ksSlot S5 (oK' := kcls qK N [.ref K, .type "object"] true [] #[some (.ref bt), none, some (.str "K" t1), some (.str qK tq), some (.builtin "object.__new__")]) (by decide) (by kernel_rfl) rfl fun h9 S6 => ?_)
  clear S5
  refine wpAny_bind ?_
  unfold Bind.refreshMaker
  refine wpAny_bind (ksSlotAt S6 ?_)
  try wp_delta
  refine wpAny_ite_false rfl ?_
  try wp_delta
  refine wpAny_bind (ksLookO S6 rfl rfl rfl (by kernel_rfl) (r := some (.builtin "object.__new__")) (by kernel_rfl) ?_)
  try wp_delta
  refine wpAny_ite_false (by kernel_rfl) ?_
  refine wpAny_pure ?_
  try wp_delta
  refine wpAny_bind ?_
  unfold Slots.install
  try wp_delta
  refine wpAny_bind ?_
  show wpAny _ _ (forIn [Str.ofString "obj"] (1 : Nat) _) _ _ _
  rw [List.forIn_cons]
  refine wpAny_bind (wpAny_bind (ksGet S6 (r := none) (by kernel_rfl) ?_))
  try wp_delta
  refine wpAny_ite_true rfl ?_
  refine wpAny_bind (wpAny_mkStr' ?_)
  refine wpAny_bind (mdN S6 (by size_fits) (o := kmd K tk) rfl rfl fun M h10 nMN nMK f3 m1 S7 S8 => ?_)
  refine wpAny_bind (ksSetV S8 rfl (by show 11 ≤ sizeLine; decide) (by kernel_rfl) (od' := kdict ((kes hs ts (.str mo tm) (.int fl ftk) qK tq ls sa fn).eraseIdx 1 ++ [⟨kh w "obj", .str "obj" (tk + 1), .ref M⟩]) 2) (by kernel_rfl) rfl fun h11 S9 => ?_)
  clear S8
  refine wpAny_pure ?_
  show wpAny _ _ (forIn ([] : List Str) 0 _) _ _ _
  rw [List.forIn_nil]
  refine wpAny_pure ?_
  try wp_delta
  refine wpAny_bind ?_
  show wpAny _ _ (forIn [Value.type "object"] false _) _ _ _
  rw [List.forIn_cons]
  refine wpAny_bind (wpAny_bind (wpAny_of_eq gd_object ?_))
  try wp_delta
  refine wpAny_ite_false rfl ?_
  refine wpAny_pure ?_
  show wpAny _ _ (forIn ([] : List Value) false _) _ _ _
  rw [List.forIn_nil]
  refine wpAny_pure ?_
  try wp_delta
  refine wpAny_ite_false (by kernel_rfl) ?_
  try wp_delta
  refine ksCls S9 rfl (oK' := kcls qK N [.ref K, .type "object"] false ["obj"] #[some (.ref bt), none, some (.str "K" t1), some (.str qK tq), some (.builtin "object.__new__")]) (by kernel_rfl) rfl (by kernel_rfl) fun h12 S10 => ?_
  clear S9
  refine wpAny_bind (wpAny_of_eq gw_object ?_)
  refine wpAny_bind (ksSlot S10 (oK' := kcls qK N [.ref K, .type "object"] false ["obj"] #[some (.ref bt), none, some (.str "K" t1), some (.str qK tq), some (.builtin "object.__new__"), some (.bool false)]) (by decide) (by kernel_rfl) rfl fun h13 S11 => ?_)
  clear S10
  try wp_delta
  refine wpAny_ite_false rfl ?_
  try wp_delta
  refine wpAny_ite_false rfl ?_
  try wp_delta
  refine wpAny_bind (ksGet S11 (r := none) (by kernel_rfl) ?_)
  try wp_delta
  refine wpAny_ite_true rfl ?_
  refine wpAny_bind (ksSet S11 rfl (by kernel_rfl) (od' := kdict ((kes hs ts (.str mo tm) (.int fl ftk) qK tq ls sa fn).eraseIdx 1 ++ [⟨kh w "obj", .str "obj" (tk + 1), .ref M⟩, ⟨kh w "__doc__", .str "__doc__" (tk + 1 + 1), .none⟩]) 3) (by kernel_rfl) rfl fun h14 S12 => ?_)
  clear S11
  try wp_delta
  refine wpAny_bind (ksGet S12 (r := some (.ref (fn 3))) (by kernel_rfl) ?_)
  try wp_delta
  refine wpAny_ite_true rfl ?_
  refine wpAny_bind (ksGet S12 (r := some .none) (by kernel_rfl) ?_)
  try wp_delta
  refine wpAny_ite_false rfl ?_
  try wp_delta
  refine wpAny_bind ?_
  show wpAny _ _ (forIn [Value.type "object"] PUnit.unit _) _ _ _
  rw [List.forIn_cons]
  refine wpAny_bind ?_
  try wp_delta
  refine wpAny_bind (wpAny_of_eq (a := ()) (by kernel_rfl) ?_)
  refine wpAny_pure ?_
  show wpAny _ _ (forIn ([] : List Value) PUnit.unit _) _ _ _
  rw [List.forIn_nil]
  refine wpAny_pure ?_
  try wp_delta
  refine wpAny_bind (wpAny_tryCatch (wpAny_holding ?_))
  refine wpAny_bind (dictEnts S12.d rfl ?_)
  refine wpAny_bind (wpAny_of_eq (a := false) (by kernel_rfl) ?_)
  try wp_delta
  refine wpAny_ite_false rfl ?_
  try wp_delta
  have hneN : ∀ b o, h1.get? b = some o → b ≠ N := fun b o e q => by rw [q, f1] at e; cases e
  have hneK : ∀ b o, h1.get? b = some o → b ≠ K := fun b o e q => by rw [q, f2] at e; cases e
  have kall : ∀ b o, h.get? b = some o → h14.get? b = some o := fun b o e => S12.keep b o (hneN b o (k1 b o e)) (hneK b o (k1 b o e)) (S7.keep b o (hneN b o (k1 b o e)) (hneK b o (k1 b o e)) (k1 b o e))
  have m14 : h14.get? M = some (kmd K tk) := S12.keep M _ nMN nMK m1
  have fM : h.get? M = none := by
    cases e : h.get? M with
    | none => rfl
    | some o => rw [S6.keep M o nMN nMK (k1 M o e)] at f3; cases f3
  have fN : h.get? N = none := by
    cases e : h.get? N with
    | none => rfl
    | some o => rw [k1 N o e] at f1; cases f1
  have fK : h.get? K = none := by
    cases e : h.get? K with
    | none => rfl
    | some o => rw [k1 K o e] at f2; cases f2
  have good : ∀ e ∈ ((kes hs ts (.str mo tm) (.int fl ftk) qK tq ls sa fn).eraseIdx 1 ++ [⟨kh w "obj", .str "obj" (tk + 1), .ref M⟩, ⟨kh w "__doc__", .str "__doc__" (tk + 1 + 1), .none⟩]), NoSN h14 e.val ∧ laidUnderItsOwnName e.key e.val = false := by
    have hf : ∀ i < 6, NoSN h14 (.ref (fn i)) := fun i hi => by
      obtain ⟨o, ho, hc⟩ := hfn i hi
      exact ⟨o, "function", kall _ _ ho, hc, no_sn_fn⟩
    refine List.forall_mem_cons.mpr ⟨⟨⟨"str", rfl, no_sn_str⟩, rfl⟩, ?_⟩
    refine List.forall_mem_cons.mpr ⟨⟨⟨"int", rfl, no_sn_int⟩, rfl⟩, ?_⟩
    refine List.forall_mem_cons.mpr ⟨⟨⟨_, "list", kall _ _ hl, rfl, no_sn_list⟩, rfl⟩, ?_⟩
    refine List.forall_mem_cons.mpr ⟨⟨hf 0 (by decide), rfl⟩, ?_⟩
    refine List.forall_mem_cons.mpr ⟨⟨hf 1 (by decide), rfl⟩, ?_⟩
    refine List.forall_mem_cons.mpr ⟨⟨hf 2 (by decide), rfl⟩, ?_⟩
    refine List.forall_mem_cons.mpr ⟨⟨hf 3 (by decide), rfl⟩, ?_⟩
    refine List.forall_mem_cons.mpr ⟨⟨hf 4 (by decide), rfl⟩, ?_⟩
    refine List.forall_mem_cons.mpr ⟨⟨hf 5 (by decide), rfl⟩, ?_⟩
    refine List.forall_mem_cons.mpr ⟨⟨⟨"NoneType", rfl, no_sn_none⟩, rfl⟩, ?_⟩
    refine List.forall_mem_cons.mpr ⟨⟨⟨_, "tuple", kall _ _ hsa, hsc, no_sn_tup⟩, rfl⟩, ?_⟩
    refine List.forall_mem_cons.mpr ⟨⟨⟨_, "member_descriptor", m14, rfl, no_sn_md⟩, rfl⟩, ?_⟩
    refine List.forall_mem_cons.mpr ⟨⟨⟨"NoneType", rfl, no_sn_none⟩, rfl⟩, fun _ h => nomatch h⟩
  refine wpAny_bind (dictEnts S12.d rfl ?_)
  refine wpAny_bind (forSame _ (fun e he Q' hq' => ?_) ?_)
  · have hg := good e (by simpa using he)
    refine wpAny_ite_false (by rw [hg.2]; rfl) ?_
    refine wpAny_bind (noSN hg.1 ?_)
    exact wpAny_pure hq'
  have hK14 : h14.get? K = some (kObj K N #[some (.ref bt), none, some (.str "K" t1), some (.str qK tq), some (.builtin "object.__new__"), some (.bool false)]) := by rw [S12.k, kcls_is]
  refine wpAny_bind (wpAny_mono (super_call hK14) (fun v s' hv => ?_) fun _ _ x => x.elim)
  obtain ⟨sup, h15, tk15, rfl, rfl, D⟩ := hv
  have k15 := mem_keep D
  refine wpAny_bind (wpAny_holding (getattr_super (D.at 0 _ _ rfl) ((hst.keeps kall).keeps k15) (k15 _ _ hK14) fun b h16 tk16 _ k16 hb16 => ?_))
  refine wpAny_bind (wpAny_mono (init_sub (k16 _ _ (k15 _ _ hK14)) hb16) (fun v s' hv => ?_) fun _ _ x => x.elim)
  subst hv
  refine wpAny_pure ?_
  refine wpAny_pure ?_
  exact ret h16 _ N K M tk _ _ (fun b o e => k16 _ _ (k15 _ _ (kall b o e))) fK fN fM S12.ne nMN nMK (k16 _ _ (k15 _ _ hK14)) (k16 _ _ (k15 _ _ S12.d)) (k16 _ _ (k15 _ _ m14))
end
end
section
open PySem PySem.W PyProof.Rows PySem.Calls PySem.Builtin PySem.W.X
set_option maxRecDepth 100000
theorem tt_made : Bind.madeBy (.type "type") = pure (some "type.__new__") := by kernel_rfl
theorem tt_mro : mroOf (.type "type") = pure [.type "type", .type "object"] := by rw [mroOf_type]; kernel_rfl
theorem tt_check (a b c : Value) : checkTypeCall "type" ⟨[a, b, c], []⟩ = pure () := by kernel_rfl
theorem tt_new (a b c : Value) : checkBuiltinCall "type.__new__" ⟨[.type "type", a, b, c], []⟩ = pure () := by kernel_rfl
theorem tt_entry_new : entryFor table "type.__new__" = some Builtin.«type.__new__» := entryFor_of_tree (by kernel_rfl)
theorem tt_entry_init : entryFor table "type.__init__" = some Builtin.«type.__init__» := entryFor_of_tree (by kernel_rfl)
theorem tt_plain_new : plainId "type.__new__" = true := by decide +kernel
theorem tt_slot_init : Slot "type" "__init__" "type.__init__" := .of (owner := "type") (n := "__init__") (by rw [typeLookup_type, builtinLookup_eq_fast]; kernel_rfl) (by decide +kernel) (by decide +kernel) (by decide +kernel)
  (by first | exact .inl (by decide +kernel) | exact .inr (by decide +kernel)) (by rw [isSubtype_type]; kernel_rfl)
theorem tt_initArgs (o a b c : Value) : argsOk "type.__init__" ⟨[o, a, b, c], []⟩ := by unfold argsOk; kernel_rfl
section
variable {prog : Program} {w : World} {A : Around} {h : Heap} {d : Drawn} {tk : Nat} {os : OsState} {E : Value → Shared → Prop}
set_option maxHeartbeats 1000000 in
theorem type_call {hs : Nat → Int} {ts : Nat → Tok} {mo : Str} {tm : Tok} {fl : Int} {ftk : Tok} {tq t t1 : Tok} {bt nsA ls sa : Addr} {fn : Nat → Addr} {n n' : Nat} {osa : Obj} {Q : Value → Shared → Prop}
    (hb : h.get? bt = some ⟨.type "tuple", none, .seq #[.type "object"] 0, #[]⟩) (hn : h.get? nsA = some ⟨.type "dict", none, .dict (kes hs ts (.str mo tm) (.int fl ftk) qK tq ls sa fn).toArray n, #[]⟩)
    (hl : h.get? ls = some ⟨.type "list", none, .seq #[.str "obj" t] n', #[]⟩) (hsa : h.get? sa = some osa) (hsc : osa.cls = .type "tuple") (hfn : ∀ i < 6, ∃ o, h.get? (fn i) = some o ∧ o.cls = .type "function")
    (hne : nsA ≠ sysModules) (hst : NoThird h)
    (ret : ∀ h' tk' N K M tk1 tk2 tk3, (∀ b o, h.get? b = some o → h'.get? b = some o) → h.get? K = none → h.get? N = none → h.get? M = none → N ≠ K → M ≠ N → M ≠ K → h'.get? K = some (kObj K N #[some (.ref bt), none, some (.str "K" t1), some (.str qK tq), some (.builtin "object.__new__"), some (.bool false)]) →
      h'.get? N = some (kdict ((kes hs ts (.str mo tm) (.int fl ftk) qK tq ls sa fn).eraseIdx 1 ++ [⟨kh w "obj", .str "obj" tk2, .ref M⟩, ⟨kh w "__doc__", .str "__doc__" tk3, .none⟩]) 3) → h'.get? M = some (kmd K tk1) → Q (.ref K) ⟨h', #[], d, tk', os⟩) :
    wpAny (model prog w) A (call (.type "type") [.str (Str.ofString "K") t1, .ref bt, .ref nsA]) Q E ⟨h, #[], d, tk, os⟩ := by
  refine wpAny_call (codeAny_of_tree ?_)
  show wpAny _ _ (callAny (.type "type") _) _ _ _
  refine wpAny_pure ⟨Code.quiet_builtin _ (by decide +kernel), codeAny_builtin F.entry_type_call ?_⟩
  rw [Around.under_plain (weight_type_call_type "type" _ []) rfl]
  unfold Builtin.«type.__call__»
  try wp_delta
  refine wpAny_ite_true (by kernel_rfl) ?_
  try wp_delta
  refine wpAny_ite_false (by kernel_rfl) ?_
  try wp_delta
  refine wpAny_ite_false (by kernel_rfl) ?_
  try wp_delta
  refine wpAny_ite_false (by kernel_rfl) ?_
  try wp_delta
  refine wpAny_bind (wpAny_of_eq (tt_check _ _ _) ?_)
  try wp_delta
  refine wpAny_bind (wpAny_of_eq tt_mro ?_)
  try wp_delta
  refine wpAny_ite_false (by kernel_rfl) ?_
  try wp_delta
  refine wpAny_bind (wpAny_of_eq tt_made ?_)
  try wp_delta
  refine wpAny_bind (wpAny_pure ?_)
  try wp_delta
  refine wpAny_bind (wpAny_holding (wpAny_call (codeAny_of_tree ?_)))
  show wpAny _ A.in1.in1 (do checkBuiltinCall "type.__new__" ⟨[.type "type", .str (Str.ofString "K") t1, .ref bt, .ref nsA], []⟩; again (.builtin "type.__new__" ⟨[.type "type", .str (Str.ofString "K") t1, .ref bt, .ref nsA], []⟩)) _ _ _
  refine wpAny_bind (wpAny_of_eq (tt_new _ _ _) (wpAny_pure ⟨plainId_quiet tt_plain_new _, codeAny_builtin tt_entry_new ?_⟩))
  rw [Around.under_plainId tt_plain_new _]
  refine tnew hb hn hl hsa hsc hfn hne hst fun h' tk' N K M tk1 tk2 tk3 k fK fN fM n1 n2 n3 oK oN oM => ?_
  show wpAny _ _ _ _ _ _
  refine wpAny_bind (isInst oK rfl sub_ty ?_)
  refine wpAny_ite_false rfl ?_
  refine wpAny_bind (wpAny_holding ?_)
  unfold callSpecial?
  have hT : (⟨h', #[], d, tk', os⟩ : Shared).TypeIs (.ref K) "type" := ⟨_, oK, rfl⟩
  refine wpAny_bind (wpAny_specialOf hT tt_slot_init.lookup ?_)
  refine wpAny_holding ?_
  refine wpAny_bind (wpAny_of_eq (tt_slot_init.bind _) ?_)
  refine wpAny_bind ?_
  refine wpAny_mono (Q := fun v s' => v = .none ∧ s' = ⟨h', #[], d, tk', os⟩) (E := fun _ _ => False) (wpAny_call_entry tt_slot_init hT tt_entry_init ?_ (tt_initArgs _ _ _ _)) (fun v s' hv => ?_) fun _ _ x => x.elim
  · unfold Builtin.«type.__init__»
    refine wpAny_of_eq (a := .done (.ret .none)) (by kernel_rfl) ⟨_, rfl, rfl, rfl⟩
  · obtain ⟨rfl, rfl⟩ := hv
    refine wpAny_pure ?_
    try wp_delta
    refine wpAny_ite_false (by kernel_rfl) ?_
    try wp_delta
    exact wpAny_pure (ret h' tk' N K M tk1 tk2 tk3 k fK fN fM n1 n2 n3 oK oN oM)
end
end
section
open PySem PySem.W PyProof.Rows PySem.Calls PySem.Builtin PySem.W.X
set_option maxRecDepth 100000
/-! ### the body of the class -/
structure CB (h₀ : Heap) (nA cc Pc : Addr) (es : List DictEntry) (n : Nat) (ps : Array Value) (h : Heap) : Prop where
  keep : ∀ b o, b ≠ nA → b ≠ Pc → h₀.get? b = some o → h.get? b = some o
  d : h.get? nA = some (kdict es n)
  c : h.IsCode cc Pc ps
  t : h.TableAt cc Pc ps
  n1 : nA ≠ Pc
  n2 : nA ≠ cc
theorem CB.keeps {h₀ h h' : Heap} {nA cc Pc : Addr} {es : List DictEntry} {n : Nat} {ps : Array Value} (x : CB h₀ nA cc Pc es n ps h) (k : ∀ b o, h.get? b = some o → h'.get? b = some o) : CB h₀ nA cc Pc es n ps h' :=
  ⟨fun b o h1 h2 e => k b o (x.keep b o h1 h2 e), k _ _ x.d, x.c.keeps k, x.t.keeps k, x.n1, x.n2⟩
theorem CB.tr {h₀ h : Heap} {nA cc Pc : Addr} {es : List DictEntry} {n : Nat} {ps : Array Value} (x : CB h₀ nA cc Pc es n ps h) : TriplesOk ps.toList := by
  obtain ⟨o, vs, file, tf, flags, tg, inF, text, tt, op, ho, hd, h11, h2, h7, h9, h10, hop, hpd, htr, hne⟩ := x.c
  exact htr
theorem among_keep {pos : Pos} {x : Value} (t : List Value) : ∀ (l : List Value), TriplesOk l → codeAmong pos l = some x → codeAmong pos (l ++ t) = some x := by
  intro l
  fun_induction TriplesOk l with
  | case1 => intro _ h; simp [codeAmong] at h
  | case2 a t' b u y rest ih =>
    intro h hs
    simp only [List.cons_append, codeAmong] at hs ⊢
    split at hs
    · rename_i hc; rw [if_pos hc]; exact hs
    · rename_i hc; rw [if_neg hc]; exact ih h hs
  | case3 l h1 h2 => intro h; exact h.elim
theorem among_none {pos : Pos} {a b : Int} {c : Value} (ha : (a == pos.line) = false) : ∀ (l : List Value), TriplesOk l → codeAmong pos l = none → codeAmong pos (l ++ [rawInt a, rawInt b, c]) = none := by
  intro l
  fun_induction TriplesOk l with
  | case1 => intro _ _; simp [codeAmong, rawInt, ha]
  | case2 a t' b u y rest ih =>
    intro h hs
    simp only [List.cons_append, codeAmong] at hs ⊢
    split at hs
    · cases hs
    · rename_i hc; rw [if_neg hc]; exact ih h hs
  | case3 l h1 h2 => intro h; exact h.elim
/-- a code object stays although a dict and a table change -/
theorem recKeeps {h h' : Heap} {cd : Value} {q : Str} {nA cc Pc : Addr} {es : List DictEntry} {n : Nat} {ps : Array Value} (x : h.CodeRec cd q) (hk : ∀ b o, b ≠ nA → b ≠ Pc → h.get? b = some o → h'.get? b = some o) (hn : h.get? nA = some (kdict es n)) (ht : h.TableAt cc Pc ps) (htr : TriplesOk ps.toList) : h'.CodeRec cd q := by
  obtain ⟨c, o, vs, t, e, g, d, r⟩ := x
  refine ⟨c, o, vs, t, e, hk _ _ ?_ ?_ g, d, r⟩
  · rintro rfl
    rw [hn] at g
    cases g
    cases d
  · rintro rfl
    rw [ht.2] at g
    cases g
    cases d
    have : ps.toList[1]? = some (.str q t) := by simpa using r
    generalize ps.toList = l at htr this
    fun_induction TriplesOk l with
    | case1 => cases this
    | case2 a t' b u y rest ih => cases this
    | case3 l h1 h2 => exact htr.elim

section
variable {prog : Program} {w : World} {A : Around} {h h₀ : Heap} {nA cc Pc : Addr} {es es' : List DictEntry} {n n' : Nat} {ps : Array Value} {g : Array GenState} {d : Drawn} {tk : Nat} {os : OsState} {E : Value → Shared → Prop} {env : Env}
theorem cbSet {nm : Str} {v : Value} {Q : Unit → Shared → Prop} (S : CB h₀ nA cc Pc es n ps h) (hl : env.locals = nA) (ha : aRefKeyMayBeTheName nm es.toArray = false)
    (he : Obj.putName nm (kh w nm) (.str nm tk) v (kdict es n) = kdict es' n') (hq : ∀ h', CB h₀ nA cc Pc es' n' ps h' → (∀ b o, b ≠ nA → h.get? b = some o → h'.get? b = some o) → Q () ⟨h', g, d, tk + 1, os⟩) :
    wpAny (model prog w) A (localSet env nm v) Q E ⟨h, g, d, tk, os⟩ := by
  unfold localSet
  rw [hl]
  refine wpAny_bind (wpAny_load' S.d ?_)
  refine wpAny_ite_true rfl ?_
  unfold nsSet strHash mkText
  refine wpAny_bind (wpAny_bind (nd_ask (wpAny_pure (wpAny_pure (wpAny_bind (wpAny_bind (wpAny_fresh (wpAny_pure (wpAny_bind (wpAny_loadPart' S.d ?_))))))))))
  unfold kdict
  simp only [ha, Bool.false_eq_true, if_false]
  change wpAny _ _ (updatePart nA _ (Obj.putName nm (kh w nm) (.str nm tk) v)) _ _ _
  refine wpAny_updatePart' S.d ?_
  have gx := Heap.get?_update_self (Obj.putName nm (kh w nm) (.str nm tk) v) S.d (by rw [he]; rfl)
  rw [he] at gx
  have hs : Heap.SameBut nA h (h.update nA (Obj.putName nm (kh w nm) (.str nm tk) v)) := Heap.SameBut.update ..
  exact hq _ ⟨fun b o h1 h2 e => (hs.2 b h1).trans (S.keep b o h1 h2 e), gx, S.c.sameBut hs S.n2.symm S.n1.symm, S.t.sameBut hs S.n2.symm S.n1.symm, S.n1, S.n2⟩ fun b o h1 e => (hs.2 b h1).trans e
theorem cbCode {pos : Pos} {fl : Nat} {name qual : Str} {p : Arguments} {scope : Scope} {body : FuncBody} {Q : Value → Shared → Prop} (S : CB h₀ nA cc Pc es n ps h) (hc : env.code = .ref cc)
    (hcase : codeAmong pos ps.toList = none ∨ ∃ c', codeAmong pos ps.toList = some (.ref c') ∧ h.CodeRec (.ref c') qual)
    (hq : ∀ c' ps' h' tk', CB h₀ nA cc Pc es n ps' h' → codeAmong pos ps'.toList = some (.ref c') → h'.CodeRec (.ref c') qual → (∀ p c, codeAmong p ps.toList = some c → codeAmong p ps'.toList = some c) →
      (∀ p : Pos, p.line ≠ pos.line → codeAmong p ps.toList = none → codeAmong p ps'.toList = none) → (∀ b o, b ≠ Pc → h.get? b = some o → h'.get? b = some o) → (codeAmong pos ps.toList ≠ none → ps' = ps) → Q (.ref c') ⟨h', g, d, tk', os⟩) :
    wpAny (model prog w) A (functionCode env pos fl name qual p scope body) Q E ⟨h, g, d, tk, os⟩ := by
  rcases hcase with hn | ⟨c', hf, hr⟩
  · refine wpAny_functionCodeX hc S.c S.t hn fun c' h' tk' hx hge hlt hok hrec htab _ => ?_
    have k : ∀ b o, b ≠ Pc → h.get? b = some o → h'.get? b = some o := fun b o h1 e => hx b o h1 e
    have el : (ps ++ #[rawInt pos.line, rawInt pos.col, Value.ref c']).toList = ps.toList ++ [rawInt pos.line, rawInt pos.col, .ref c'] := by simp
    refine hq c' _ h' tk' ⟨fun b o h1 h2 e => k b o h2 (S.keep b o h1 h2 e), k _ _ S.n1 S.d, hok, htab, S.n1, S.n2⟩ ?_ hrec (fun p c e => ?_) (fun p hp e => ?_) k (fun q => absurd hn q)
    · rw [el]; exact codeAmong_snoc _ S.tr hn
    · rw [el]; exact among_keep _ _ S.tr e
    · rw [el]; exact among_none (by simpa using fun q => hp (by exact_mod_cast q.symm)) _ S.tr e
  · exact wpAny_functionCode_hit hc S.c hf (hq c' ps h tk S hf hr (fun _ _ e => e) (fun _ _ e => e) (fun _ _ _ e => e) fun _ => rfl)
end
end
section
open PySem PySem.W PyProof.Rows PySem.Calls PySem.Builtin PySem.W.X
set_option maxRecDepth 100000
/-- what the making of defs reads -/
structure Mk (h : Heap) (mg : Str → Option Value) (bm : Addr) (ob : Obj) : Prop where
  g : h.Ns mainGlobals mg
  hm : mg "__builtins__" = some (.ref bm)
  bn : bm ≠ builtinsNs
  o : h.get? bm = some ob
  oc : ob.cls = .type "module"
  od : ob.dict = some builtinsNs
  ol : ob.data = .plain
theorem Mk.keeps {h h' : Heap} {mg : Str → Option Value} {bm : Addr} {ob : Obj} (x : Mk h mg bm ob) (k : ∀ b o, h.get? b = some o → h'.get? b = some o) : Mk h' mg bm ob := ⟨x.g.keeps k, x.hm, x.bn, k _ _ x.o, x.oc, x.od, x.ol⟩
theorem Mk.but {h h' : Heap} {mg : Str → Option Value} {bm P : Addr} {ob : Obj} (x : Mk h mg bm ob) (k : ∀ b o, b ≠ P → h.get? b = some o → h'.get? b = some o) (h1 : mainGlobals ≠ P) (h2 : bm ≠ P) : Mk h' mg bm ob :=
  ⟨by obtain ⟨o, es, ep, e, r⟩ := x.g; exact ⟨o, es, ep, k _ _ h1 e, r⟩, x.hm, x.bn, k _ _ h2 x.o, x.oc, x.od, x.ol⟩
noncomputable def fnObj (nm qual : Str) (ar : Arguments) (body : List Stmt) (scope : Scope) (cl : List (Str × Addr)) (ct pm : Value) (c : Addr) : Obj :=
  ⟨.type "function", none, .func { name := nm, qualname := qual, params := ar, body := .stmts body, scope, globals := mainGlobals, closure := cl, closureTuple := ct, defaults := .none, kwdefaults := .none, pyModule := pm, code := .ref c, builtins := builtinsNs }, #[]⟩
section
variable {prog : Program} {w : World} {A : Around} {h h₀ : Heap} {nA cc Pc bm : Addr} {ob : Obj} {mg : Str → Option Value} {es es' : List DictEntry} {n n' : Nat} {ps : Array Value} {g : Array GenState} {d : Drawn} {tk : Nat} {os : OsState} {E : Value → Shared → Prop} {env : Env}
theorem makeFn {nm qual : Str} {ar : Arguments} {body : List Stmt} {scope : Scope} {pos : Pos} {fl : Nat} {cl : List (Str × Addr)} {Q : Value → Shared → Prop} (S : CB h₀ nA cc Pc es n ps h) (X : Mk h mg bm ob) (hb1 : mainGlobals ≠ Pc) (hb2 : bm ≠ Pc)
    (hc : env.code = .ref cc) (hg : env.globals = mainGlobals) (hcl : closureFor scope env = pure cl) (hdoc : docOf body = none)
    (hcase : codeAmong pos ps.toList = none ∨ ∃ c', codeAmong pos ps.toList = some (.ref c') ∧ h.CodeRec (.ref c') qual)
    (hq : ∀ f c' ct ps' h' tk', CB h₀ nA cc Pc es n ps' h' → h.get? f = none → h'.get? f = some (fnObj nm qual ar body scope cl ct ((mg "__name__").getD .none) c') → codeAmong pos ps'.toList = some (.ref c') → h'.CodeRec (.ref c') qual →
      (∀ p c, codeAmong p ps.toList = some c → codeAmong p ps'.toList = some c) → (∀ p : Pos, p.line ≠ pos.line → codeAmong p ps.toList = none → codeAmong p ps'.toList = none) → (∀ b o, b ≠ Pc → h.get? b = some o → h'.get? b = some o) →
      (codeAmong pos ps.toList ≠ none → ps' = ps) → Q (.ref f) ⟨h', g, d, tk', os⟩) :
    wpAny (model prog w) A (makeFunction nm qual ar (.stmts body) scope env [] [] [] pos fl) Q E ⟨h, g, d, tk, os⟩ := by
  have rest : ∀ ct h1 tk1, (∀ b o, h.get? b = some o → h1.get? b = some o) → wpAny (model prog w) A (do
      let fd : FuncData := { name := nm, qualname := qual, params := ar, body := .stmts body, scope, globals := env.globals, closure := cl, closureTuple := ct, code := ← functionCode env pos fl nm qual ar scope (.stmts body), builtins := ← builtinsFor env.globals env.builtins, defaults := .none, kwdefaults := .none, annotations := none, pyModule := (← nsGet env.globals "__name__").getD .none, doc := ← (match docOf body with | some s => mkText s | none => pure .none) }
      newObj (.type "function") (.func fd)) Q E ⟨h1, g, d, tk1, os⟩ := fun ct h1 tk1 k1 => by
    have hcase1 : codeAmong pos ps.toList = none ∨ ∃ c', codeAmong pos ps.toList = some (.ref c') ∧ h1.CodeRec (.ref c') qual := hcase.imp id fun ⟨c', a, b⟩ => ⟨c', a, b.keeps k1⟩
    refine wpAny_bind (cbCode (S.keeps k1) hc hcase1 fun c' ps' h2 tk2 S2 ha hr hs hn k2 hu => ?_)
    have X2 := (X.keeps k1).but k2 hb1 hb2
    rw [hg]
    refine wpAny_bind (wpAny_builtinsFor X2.g X2.hm X2.bn X2.o X2.oc X2.od X2.ol ?_)
    refine wpAny_bind (wpAny_nsGet X2.g ?_)
    rw [hdoc]
    refine wpAny_bind (wpAny_pure ?_)
    refine wpAny_newObj_type ?_ (by first | trivial | exact rfl | (show True; trivial))
    have k3 : ∀ b o, h2.get? b = some o → (h2.push (fnObj nm qual ar body scope cl ct ((mg "__name__").getD .none) c')).get? b = some o := fun b o e => Heap.get?_push_of_some _ e
    refine hq h2.objs.size c' ct ps' _ tk2 (S2.keeps k3) ?_ (Heap.get?_push_size _ rfl) ha (hr.keeps k3) hs hn (fun b o hb e => k3 _ _ (k2 b o hb (k1 b o e))) hu
    cases e : h.get? h2.objs.size with
    | none => rfl
    | some o =>
      by_cases hp : h2.objs.size = Pc
      · obtain ⟨_, hPt⟩ := S2.t
        rw [← hp] at hPt
        exact absurd (Heap.lt_size hPt) (Nat.lt_irrefl _)
      · exact absurd (Heap.lt_size (k2 _ _ hp (k1 _ _ e))) (Nat.lt_irrefl _)
  simp only [makeFunction, List.zip_nil_right, List.filterMap_nil, List.isEmpty_nil, if_true, pure_bind, hcl]
  cases hcc : cl with
  | nil =>
    subst hcc
    exact rest _ _ _ fun _ _ e => e
  | cons c0 rest0 =>
    rw [← hcc]
    refine wpAny_ite_false (by rw [hcc]; rfl) ?_
    refine wpAny_bind ?_
    unfold newTextTuple
    exact wpAny_newObjAsIs_type (rest _ _ _ fun b o e => Heap.get?_push_of_some _ e)
theorem defK {nm : Str} {ar : Arguments} {body : List Stmt} {scope : Scope} {pos : Pos} {st : Stmt} {cl : List (Str × Addr)} {Q : Flow → Shared → Prop} (S : CB h₀ nA cc Pc es n ps h) (X : Mk h mg bm ob) (hb1 : mainGlobals ≠ Pc) (hb2 : bm ≠ Pc)
    (hexec : exec st env = (do
      standAt pos
      let f ← holding [] (makeFunction nm (qualnameIn env nm nm) ar (.stmts body) scope env [] [] [] pos pos.line)
      standAt pos
      bindName env nm f
      pure .next))
    (hc : env.code = .ref cc) (hg : env.globals = mainGlobals) (hl : env.locals = nA) (hcl : closureFor scope env = pure cl) (hdoc : docOf body = none) (hst : ∀ v, storeName env nm v = localSet env nm v)
    (hcase : codeAmong pos ps.toList = none ∨ ∃ c', codeAmong pos ps.toList = some (.ref c') ∧ h.CodeRec (.ref c') (qualnameIn env nm nm))
    (ha : aRefKeyMayBeTheName nm es.toArray = false) (he : ∀ t v, Obj.putName nm (kh w nm) (.str nm t) v (kdict es n) = kdict (es ++ [⟨kh w nm, .str nm t, v⟩]) (n + 1))
    (hq : ∀ f c' ct ps' h' tk' t, CB h₀ nA cc Pc (es ++ [⟨kh w nm, .str nm t, .ref f⟩]) (n + 1) ps' h' → h.get? f = none → h'.get? f = some (fnObj nm (qualnameIn env nm nm) ar body scope cl ct ((mg "__name__").getD .none) c') → codeAmong pos ps'.toList = some (.ref c') →
      h'.CodeRec (.ref c') (qualnameIn env nm nm) → (∀ p c, codeAmong p ps.toList = some c → codeAmong p ps'.toList = some c) → (∀ p : Pos, p.line ≠ pos.line → codeAmong p ps.toList = none → codeAmong p ps'.toList = none) →
      (∀ b o, b ≠ Pc → b ≠ nA → h.get? b = some o → h'.get? b = some o) → (codeAmong pos ps.toList ≠ none → ps' = ps) → f ≠ nA → f ≠ Pc → Q .next ⟨h', g, d, tk', os⟩) :
    wpAny (model prog w) A (exec st env) Q E ⟨h, g, d, tk, os⟩ := by
  rw [hexec]
  refine wpAny_bind (wpAny_standAt (wpAny_bind (wpAny_holding (makeFn S X hb1 hb2 hc hg hcl hdoc hcase fun f c' ct ps' h1 tk1 S1 hf0 hf hca hr hs hn k1 hu => ?_))))
  refine wpAny_bind (wpAny_standAt (wpAny_bind ?_))
  unfold bindName
  refine wpAny_bind (wpAny_holding (wpAny_point ?_))
  rw [hst]
  refine wpAny_bind (cbSet S1 hl ha (he _ _) fun h2 S2 k2 => ?_)
  refine wpAny_point (wpAny_pure ?_)
  have hfn : f ≠ nA := fun e => by rw [e, S.d] at hf0; cases hf0
  exact hq f c' ct ps' h2 _ _ S2 hf0 (k2 _ _ hfn hf) hca (recKeeps hr (fun b o h1 h2 e => k2 b o h1 e) S1.d S1.t S1.tr) hs hn (fun b o hb hn e => k2 b o hn (k1 b o hb e)) hu hfn (fun e => by rw [e, S.t.2] at hf0; cases hf0)
end
end
section
open PySem PySem.W PyProof.Rows PySem.Calls PySem.Builtin PySem.W.X
set_option maxRecDepth 100000
noncomputable def cstmt : Stmt := (bodOf (stAt 13)).headD (.Pass default)
noncomputable def cbody : List Stmt := match cstmt with
  | .ClassDef _ _ _ b .. => b
  | _ => []
noncomputable def cscope : Scope := match cstmt with
  | .ClassDef _ _ _ _ _ _ sc .. => sc
  | _ => default
noncomputable def kst (i : Nat) : Stmt := (cbody[i + 2]?).getD (.Pass default)
noncomputable def kpos (i : Nat) : Pos := (kst i).pos
noncomputable def cenv (nA fr cc C : Addr) : Env := { scope := cscope, locals := nA, globals := mainGlobals, qual := qK ++ ".", code := .ref cc, frame := some fr, builtins := builtinsNs, cells := [("mycmp", C)] }
noncomputable def kqual (i : Nat) : Str := (qK ++ ".") ++ nameOf (kst i)
theorem kpos_apart : ∀ i < 6, ∀ j < 6, i ≠ j → (kpos j).line ≠ (kpos i).line := by decide +kernel
/-- what the class body's table says of the six defs: made, or (from the i-th on) not yet -/
noncomputable def CodeSt (ps : Array Value) (h : Heap) (i : Nat) : Prop := ∀ j < 6, (∃ c, codeAmong (kpos j) ps.toList = some (.ref c) ∧ h.CodeRec (.ref c) (kqual j)) ∨ (i ≤ j ∧ codeAmong (kpos j) ps.toList = none)
noncomputable def CodeAll (ps : Array Value) (h : Heap) : Prop := ∀ j < 6, ∃ c, codeAmong (kpos j) ps.toList = some (.ref c) ∧ h.CodeRec (.ref c) (kqual j)
theorem CodeSt.next {ps ps' : Array Value} {h h' : Heap} {i c' : Nat} (x : CodeSt ps h i) (hi : i < 6) (k : ∀ c j, h.CodeRec (.ref c) (kqual j) → h'.CodeRec (.ref c) (kqual j)) (ha : codeAmong (kpos i) ps'.toList = some (.ref c')) (hr : h'.CodeRec (.ref c') (kqual i))
    (hs : ∀ p c, codeAmong p ps.toList = some c → codeAmong p ps'.toList = some c) (hn : ∀ p : Pos, p.line ≠ (kpos i).line → codeAmong p ps.toList = none → codeAmong p ps'.toList = none) : CodeSt ps' h' (i + 1) := fun j hj => by
  by_cases e : j = i
  · subst e; exact .inl ⟨c', ha, hr⟩
  · rcases x j hj with ⟨c, h1, h2⟩ | ⟨h1, h2⟩
    · exact .inl ⟨c, hs _ _ h1, k _ _ h2⟩
    · exact .inr ⟨by lia, hn _ (kpos_apart i hi j hj (Ne.symm e)) h2⟩
theorem CodeSt.case {ps : Array Value} {h : Heap} {i : Nat} (x : CodeSt ps h i) (hi : i < 6) : codeAmong (kpos i) ps.toList = none ∨ ∃ c', codeAmong (kpos i) ps.toList = some (.ref c') ∧ h.CodeRec (.ref c') (kqual i) := by
  rcases x i hi with h | ⟨_, h⟩
  · exact .inr h
  · exact .inl h
theorem CodeSt.all {ps : Array Value} {h : Heap} (x : CodeSt ps h 6) : CodeAll ps h := fun j hj => by
  rcases x j hj with h | ⟨h, _⟩
  · exact h
  · lia
theorem CodeAll.st {ps : Array Value} {h : Heap} (x : CodeAll ps h) : CodeSt ps h 0 := fun j hj => .inl (x j hj)
theorem CodeSt.start {h : Heap} : CodeSt #[] h 0 := fun j _ => .inr ⟨Nat.zero_le _, rfl⟩
theorem cstore {nA fr cc C : Addr} {nm : Str} (h : (cenv nA fr cc C).kindOf nm = some .local) (v : Value) : storeName (cenv nA fr cc C) nm v = localSet (cenv nA fr cc C) nm v := by
  unfold storeName
  rw [h]
  rfl
theorem kexec0 (env : Env) : exec (kst 0) env = (do
      standAt (kpos 0)
      let f ← holding [] (makeFunction (nameOf (kst 0)) (qualnameIn env (nameOf (kst 0)) (nameOf (kst 0))) (prmOf (kst 0)) (.stmts (bodOf (kst 0))) (scpOf (kst 0)) env [] [] [] (kpos 0) (kpos 0).line)
      standAt (kpos 0)
      bindName env (nameOf (kst 0)) f
      pure .next) := rfl
theorem kcl0 {nA fr cc C : Addr} : closureFor (scpOf (kst 0)) (cenv nA fr cc C) = pure [] := by kernel_rfl
theorem kdoc0 : docOf (bodOf (kst 0)) = none := by kernel_rfl
theorem kloc0 {nA fr cc C : Addr} : (cenv nA fr cc C).kindOf (nameOf (kst 0)) = some .local := by kernel_rfl
theorem kq0 {nA fr cc C : Addr} : qualnameIn (cenv nA fr cc C) (nameOf (kst 0)) (nameOf (kst 0)) = kqual 0 := by kernel_rfl
theorem kname0 : nameOf (kst 0) = "__init__" := by kernel_rfl
theorem kexec1 (env : Env) : exec (kst 1) env = (do
      standAt (kpos 1)
      let f ← holding [] (makeFunction (nameOf (kst 1)) (qualnameIn env (nameOf (kst 1)) (nameOf (kst 1))) (prmOf (kst 1)) (.stmts (bodOf (kst 1))) (scpOf (kst 1)) env [] [] [] (kpos 1) (kpos 1).line)
      standAt (kpos 1)
      bindName env (nameOf (kst 1)) f
      pure .next) := rfl
theorem kcl1 {nA fr cc C : Addr} : closureFor (scpOf (kst 1)) (cenv nA fr cc C) = pure [(Str.ofString "mycmp", C)] := by kernel_rfl
theorem kdoc1 : docOf (bodOf (kst 1)) = none := by kernel_rfl
theorem kloc1 {nA fr cc C : Addr} : (cenv nA fr cc C).kindOf (nameOf (kst 1)) = some .local := by kernel_rfl
theorem kq1 {nA fr cc C : Addr} : qualnameIn (cenv nA fr cc C) (nameOf (kst 1)) (nameOf (kst 1)) = kqual 1 := by kernel_rfl
theorem kname1 : nameOf (kst 1) = "__lt__" := by kernel_rfl
theorem kexec2 (env : Env) : exec (kst 2) env = (do
      standAt (kpos 2)
      let f ← holding [] (makeFunction (nameOf (kst 2)) (qualnameIn env (nameOf (kst 2)) (nameOf (kst 2))) (prmOf (kst 2)) (.stmts (bodOf (kst 2))) (scpOf (kst 2)) env [] [] [] (kpos 2) (kpos 2).line)
      standAt (kpos 2)
      bindName env (nameOf (kst 2)) f
      pure .next) := rfl
theorem kcl2 {nA fr cc C : Addr} : closureFor (scpOf (kst 2)) (cenv nA fr cc C) = pure [(Str.ofString "mycmp", C)] := by kernel_rfl
theorem kdoc2 : docOf (bodOf (kst 2)) = none := by kernel_rfl
theorem kloc2 {nA fr cc C : Addr} : (cenv nA fr cc C).kindOf (nameOf (kst 2)) = some .local := by kernel_rfl
theorem kq2 {nA fr cc C : Addr} : qualnameIn (cenv nA fr cc C) (nameOf (kst 2)) (nameOf (kst 2)) = kqual 2 := by kernel_rfl
theorem kname2 : nameOf (kst 2) = "__gt__" := by kernel_rfl
theorem kexec3 (env : Env) : exec (kst 3) env = (do
      standAt (kpos 3)
      let f ← holding [] (makeFunction (nameOf (kst 3)) (qualnameIn env (nameOf (kst 3)) (nameOf (kst 3))) (prmOf (kst 3)) (.stmts (bodOf (kst 3))) (scpOf (kst 3)) env [] [] [] (kpos 3) (kpos 3).line)
      standAt (kpos 3)
      bindName env (nameOf (kst 3)) f
      pure .next) := rfl
theorem kcl3 {nA fr cc C : Addr} : closureFor (scpOf (kst 3)) (cenv nA fr cc C) = pure [(Str.ofString "mycmp", C)] := by kernel_rfl
theorem kdoc3 : docOf (bodOf (kst 3)) = none := by kernel_rfl
theorem kloc3 {nA fr cc C : Addr} : (cenv nA fr cc C).kindOf (nameOf (kst 3)) = some .local := by kernel_rfl
theorem kq3 {nA fr cc C : Addr} : qualnameIn (cenv nA fr cc C) (nameOf (kst 3)) (nameOf (kst 3)) = kqual 3 := by kernel_rfl
theorem kname3 : nameOf (kst 3) = "__eq__" := by kernel_rfl
theorem kexec4 (env : Env) : exec (kst 4) env = (do
      standAt (kpos 4)
      let f ← holding [] (makeFunction (nameOf (kst 4)) (qualnameIn env (nameOf (kst 4)) (nameOf (kst 4))) (prmOf (kst 4)) (.stmts (bodOf (kst 4))) (scpOf (kst 4)) env [] [] [] (kpos 4) (kpos 4).line)
      standAt (kpos 4)
      bindName env (nameOf (kst 4)) f
      pure .next) := rfl
theorem kcl4 {nA fr cc C : Addr} : closureFor (scpOf (kst 4)) (cenv nA fr cc C) = pure [(Str.ofString "mycmp", C)] := by kernel_rfl
theorem kdoc4 : docOf (bodOf (kst 4)) = none := by kernel_rfl
theorem kloc4 {nA fr cc C : Addr} : (cenv nA fr cc C).kindOf (nameOf (kst 4)) = some .local := by kernel_rfl
theorem kq4 {nA fr cc C : Addr} : qualnameIn (cenv nA fr cc C) (nameOf (kst 4)) (nameOf (kst 4)) = kqual 4 := by kernel_rfl
theorem kname4 : nameOf (kst 4) = "__le__" := by kernel_rfl
theorem kexec5 (env : Env) : exec (kst 5) env = (do
      standAt (kpos 5)
      let f ← holding [] (makeFunction (nameOf (kst 5)) (qualnameIn env (nameOf (kst 5)) (nameOf (kst 5))) (prmOf (kst 5)) (.stmts (bodOf (kst 5))) (scpOf (kst 5)) env [] [] [] (kpos 5) (kpos 5).line)
      standAt (kpos 5)
      bindName env (nameOf (kst 5)) f
      pure .next) := rfl
theorem kcl5 {nA fr cc C : Addr} : closureFor (scpOf (kst 5)) (cenv nA fr cc C) = pure [(Str.ofString "mycmp", C)] := by kernel_rfl
theorem kdoc5 : docOf (bodOf (kst 5)) = none := by kernel_rfl
theorem kloc5 {nA fr cc C : Addr} : (cenv nA fr cc C).kindOf (nameOf (kst 5)) = some .local := by kernel_rfl
theorem kq5 {nA fr cc C : Addr} : qualnameIn (cenv nA fr cc C) (nameOf (kst 5)) (nameOf (kst 5)) = kqual 5 := by kernel_rfl
theorem kname5 : nameOf (kst 5) = "__ge__" := by kernel_rfl
noncomputable def cst (i : Nat) : Stmt := (cbody[i]?).getD (.Pass default)
theorem cbody_is : cbody = [cst 0, cst 1, kst 0, kst 1, kst 2, kst 3, kst 4, kst 5, cst 8] := by kernel_rfl
section
variable {prog : Program} {w : World} {A : Around} {h h₀ : Heap} {nA cc Pc bm : Addr} {ob : Obj} {mg : Str → Option Value} {n : Nat} {ps : Array Value} {g : Array GenState} {d : Drawn} {tk : Nat} {os : OsState} {E : Value → Shared → Prop}
theorem Mk.cb {h h' : Heap} (x : Mk h mg bm ob) (k : ∀ b o, b ≠ Pc → b ≠ nA → h.get? b = some o → h'.get? b = some o) (h1 : mainGlobals ≠ Pc) (h2 : bm ≠ Pc) (h3 : mainGlobals ≠ nA) (h4 : bm ≠ nA) : Mk h' mg bm ob :=
  ⟨by obtain ⟨o, es, ep, e, r⟩ := x.g; exact ⟨o, es, ep, k _ _ h1 h3 e, r⟩, x.hm, x.bn, k _ _ h2 h4 x.o, x.oc, x.od, x.ol⟩
set_option maxHeartbeats 2000000 in
theorem body_ok {fr C : Addr} {a0 a1 a2 : Int} {k0 k1 k2 : Tok} {v0 v1 v2 : Value} {Q : Flow → Shared → Prop} (S : CB h₀ nA cc Pc [⟨a0, .str "__module__" k0, v0⟩, ⟨a1, .str "__qualname__" k1, v1⟩, ⟨a2, .str "__firstlineno__" k2, v2⟩] n ps h)
    (X : Mk h mg bm ob) (hb1 : mainGlobals ≠ Pc) (hb2 : bm ≠ Pc) (hb3 : mainGlobals ≠ nA) (hb4 : bm ≠ nA) (CS : CodeSt ps h 0)
    (hq : ∀ h' tk' ps' mo tm ls t nl (fn : Nat → Addr) (c : Nat → Addr) (ct : Nat → Value) (ts : Nat → Tok), CB h₀ nA cc Pc [⟨a0, .str "__module__" k0, .str mo tm⟩, ⟨a1, .str "__qualname__" k1, v1⟩, ⟨a2, .str "__firstlineno__" k2, v2⟩, ⟨kh w "__slots__", .str "__slots__" (ts 3), .ref ls⟩,
        ⟨kh w "__init__", .str "__init__" (ts 4), .ref (fn 0)⟩, ⟨kh w "__lt__", .str "__lt__" (ts 5), .ref (fn 1)⟩, ⟨kh w "__gt__", .str "__gt__" (ts 6), .ref (fn 2)⟩, ⟨kh w "__eq__", .str "__eq__" (ts 7), .ref (fn 3)⟩, ⟨kh w "__le__", .str "__le__" (ts 8), .ref (fn 4)⟩, ⟨kh w "__ge__", .str "__ge__" (ts 9), .ref (fn 5)⟩, ⟨kh w "__hash__", .str "__hash__" (ts 10), .none⟩] (n + 8) ps' h' →
      h'.get? ls = some ⟨.type "list", none, .seq #[.str "obj" t] nl, #[]⟩ → ls ≠ nA → ls ≠ Pc →
      (∀ i < 6, h.get? (fn i) = none ∧ fn i ≠ nA ∧ fn i ≠ Pc ∧ h'.get? (fn i) = some (fnObj (nameOf (kst i)) (kqual i) (prmOf (kst i)) (bodOf (kst i)) (scpOf (kst i)) (if i = 0 then [] else [(Str.ofString "mycmp", C)]) (ct i) ((mg "__name__").getD .none) (c i)) ∧ h'.CodeRec (.ref (c i)) (kqual i)) →
      CodeAll ps' h' → (CodeAll ps h → ps' = ps) → (∀ b o, b ≠ Pc → b ≠ nA → h.get? b = some o → h'.get? b = some o) → Q .next ⟨h', g, d, tk', os⟩) :
    wpAny (model prog w) A (execs cbody (cenv nA fr cc C)) Q E ⟨h, g, d, tk, os⟩ := by
  rw [cbody_is]
  refine wpAny_execs_cons (wpAny_Assign_Name (wpAny_Constant_str ?_))
  rw [cstore (by kernel_rfl)]
  refine cbSet S rfl (by kernel_rfl) (es' := [⟨a0, .str "__module__" k0, .str "cpy313.functools" tk⟩, ⟨a1, .str "__qualname__" k1, v1⟩, ⟨a2, .str "__firstlineno__" k2, v2⟩]) (n' := n) (by kernel_rfl) fun h1 S1 q1 => ?_
  have CS1 : CodeSt ps h1 0 := fun j hj => (CS j hj).imp (fun ⟨c, a, b⟩ => ⟨c, a, recKeeps b (fun b o h1 _ e => q1 b o h1 e) S.d S.t S.tr⟩) id
  have X1 := X.cb (h' := h1) (fun b o _ h2 e => q1 b o h2 e) hb1 hb2 hb3 hb4
  refine wpAny_execs_cons (wpAny_Assign_Name (wpAny_List (args_cons (wpAny_Constant_str (args_nil ⟨by show 1 ≤ sizeLine; decide, ?_⟩)))))
  change wpAny _ _ (storeName (cenv nA fr cc C) (Str.ofString "__slots__") (Value.ref h1.objs.size)) _ _ ⟨h1.push ⟨.type "list", none, .seq #[.str "obj" (tk + 1 + 1)] 0, #[]⟩, g, d, tk + 1 + 1 + 1, os⟩
  have lN : h1.get? h1.objs.size = none := by
    cases e : h1.get? h1.objs.size with
    | none => rfl
    | some o => exact absurd (Heap.lt_size e) (Nat.lt_irrefl _)
  have lk : ∀ b o, h1.get? b = some o → (h1.push ⟨.type "list", none, .seq #[.str "obj" (tk + 1 + 1)] 0, #[]⟩).get? b = some o := fun b o e => Heap.get?_push_of_some _ e
  have lo : (h1.push ⟨.type "list", none, .seq #[.str "obj" (tk + 1 + 1)] 0, #[]⟩).get? h1.objs.size = some ⟨.type "list", none, .seq #[.str "obj" (tk + 1 + 1)] 0, #[]⟩ := Heap.get?_push_size _ rfl
  generalize h1.objs.size = ls at *
  generalize h1.push _ = h2 at *
  have lA : ls ≠ nA := fun e => by rw [e, S1.d] at lN; cases lN
  have lP : ls ≠ Pc := fun e => by rw [e, S1.t.2] at lN; cases lN
  rw [cstore (by kernel_rfl)]
  refine cbSet (S1.keeps lk) rfl (by kernel_rfl) (es' := [⟨a0, .str "__module__" k0, .str "cpy313.functools" tk⟩, ⟨a1, .str "__qualname__" k1, v1⟩, ⟨a2, .str "__firstlineno__" k2, v2⟩, ⟨kh w "__slots__", .str "__slots__" (tk + 1 + 1 + 1), .ref ls⟩]) (n' := n + 1) (by kernel_rfl) fun h3 S3 q3 => ?_
  have k3 : ∀ b o, b ≠ Pc → b ≠ nA → h.get? b = some o → h3.get? b = some o := fun b o _ h2 e => q3 b o h2 (lk b o (q1 b o h2 e))
  have CS3 : CodeSt ps h3 0 := fun j hj => (CS j hj).imp (fun ⟨c, a, b⟩ => ⟨c, a, recKeeps b (fun b o h1 h2 e => k3 b o h2 h1 e) S.d S.t S.tr⟩) id
  have X3 := X.cb k3 hb1 hb2 hb3 hb4
  have L3 := q3 _ _ lA lo
  have U3 : CodeAll ps h → ps = ps := fun _ => rfl
  refine wpAny_execs_cons (defK S3 X3 hb1 hb2 (kexec0 _) rfl rfl rfl kcl0 kdoc0 (fun v => cstore kloc0 v) (by rw [kq0]; exact CS3.case (by decide)) (by kernel_rfl) (fun t v => by kernel_rfl)
    fun f0 c0 ct0 ps4 h4 tk4 t4 S4 z0 o0 ha0 hr0 hs0 hn0 q4 hu0 nA0 nP0 => ?_)
  rw [kq0] at o0 hr0
  rw [kname0] at S4
  simp only [List.cons_append, List.nil_append] at S4
  have CS4 := CS3.next (i := 0) (by decide) (fun c j x => recKeeps x (fun b o a1 a2 e => q4 b o a2 a1 e) S3.d S3.t S3.tr) ha0 hr0 hs0 hn0
  have X4 := X3.cb q4 hb1 hb2 hb3 hb4
  have k4 : ∀ b o, b ≠ Pc → b ≠ nA → h.get? b = some o → h4.get? b = some o := fun b o h1 h2 e => q4 b o h1 h2 (k3 b o h1 h2 e)
  have L4 := q4 _ _ lP lA L3
  have zz0 : h.get? f0 = none := by
    cases e : h.get? f0 with
    | none => rfl
    | some o => rw [k3 _ _ nP0 nA0 e] at z0; cases z0
  have U4 : CodeAll ps h → ps4 = ps := fun a => by
    have e := U3 a
    have e2 := hu0 (by rw [e]; obtain ⟨c, h1, _⟩ := a 0 (by decide); rw [h1]; exact fun q => nomatch q)
    rw [e2, e]
  refine wpAny_execs_cons (defK S4 X4 hb1 hb2 (kexec1 _) rfl rfl rfl kcl1 kdoc1 (fun v => cstore kloc1 v) (by rw [kq1]; exact CS4.case (by decide)) (by kernel_rfl) (fun t v => by kernel_rfl)
    fun f1 c1 ct1 ps5 h5 tk5 t5 S5 z1 o1 ha1 hr1 hs1 hn1 q5 hu1 nA1 nP1 => ?_)
  rw [kq1] at o1 hr1
  rw [kname1] at S5
  simp only [List.cons_append, List.nil_append] at S5
  have CS5 := CS4.next (i := 1) (by decide) (fun c j x => recKeeps x (fun b o a1 a2 e => q5 b o a2 a1 e) S4.d S4.t S4.tr) ha1 hr1 hs1 hn1
  have X5 := X4.cb q5 hb1 hb2 hb3 hb4
  have k5 : ∀ b o, b ≠ Pc → b ≠ nA → h.get? b = some o → h5.get? b = some o := fun b o h1 h2 e => q5 b o h1 h2 (k4 b o h1 h2 e)
  have L5 := q5 _ _ lP lA L4
  have zz1 : h.get? f1 = none := by
    cases e : h.get? f1 with
    | none => rfl
    | some o => rw [k4 _ _ nP1 nA1 e] at z1; cases z1
  have U5 : CodeAll ps h → ps5 = ps := fun a => by
    have e := U4 a
    have e2 := hu1 (by rw [e]; obtain ⟨c, h1, _⟩ := a 1 (by decide); rw [h1]; exact fun q => nomatch q)
    rw [e2, e]
  replace o0 := q5 _ _ nP0 nA0 o0
  replace hr0 := recKeeps hr0 (fun b o a1 a2 e => q5 b o a2 a1 e) S4.d S4.t S4.tr
  refine wpAny_execs_cons (defK S5 X5 hb1 hb2 (kexec2 _) rfl rfl rfl kcl2 kdoc2 (fun v => cstore kloc2 v) (by rw [kq2]; exact CS5.case (by decide)) (by kernel_rfl) (fun t v => by kernel_rfl)
    fun f2 c2 ct2 ps6 h6 tk6 t6 S6 z2 o2 ha2 hr2 hs2 hn2 q6 hu2 nA2 nP2 => ?_)
  rw [kq2] at o2 hr2
  rw [kname2] at S6
  simp only [List.cons_append, List.nil_append] at S6
  have CS6 := CS5.next (i := 2) (by decide) (fun c j x => recKeeps x (fun b o a1 a2 e => q6 b o a2 a1 e) S5.d S5.t S5.tr) ha2 hr2 hs2 hn2
  have X6 := X5.cb q6 hb1 hb2 hb3 hb4
  have k6 : ∀ b o, b ≠ Pc → b ≠ nA → h.get? b = some o → h6.get? b = some o := fun b o h1 h2 e => q6 b o h1 h2 (k5 b o h1 h2 e)
  have L6 := q6 _ _ lP lA L5
  have zz2 : h.get? f2 = none := by
    cases e : h.get? f2 with
    | none => rfl
    | some o => rw [k5 _ _ nP2 nA2 e] at z2; cases z2
  have U6 : CodeAll ps h → ps6 = ps := fun a => by
    have e := U5 a
    have e2 := hu2 (by rw [e]; obtain ⟨c, h1, _⟩ := a 2 (by decide); rw [h1]; exact fun q => nomatch q)
    rw [e2, e]
  replace o0 := q6 _ _ nP0 nA0 o0
  replace hr0 := recKeeps hr0 (fun b o a1 a2 e => q6 b o a2 a1 e) S5.d S5.t S5.tr
  replace o1 := q6 _ _ nP1 nA1 o1
  replace hr1 := recKeeps hr1 (fun b o a1 a2 e => q6 b o a2 a1 e) S5.d S5.t S5.tr
  refine wpAny_execs_cons (defK S6 X6 hb1 hb2 (kexec3 _) rfl rfl rfl kcl3 kdoc3 (fun v => cstore kloc3 v) (by rw [kq3]; exact CS6.case (by decide)) (by kernel_rfl) (fun t v => by kernel_rfl)
    fun f3 c3 ct3 ps7 h7 tk7 t7 S7 z3 o3 ha3 hr3 hs3 hn3 q7 hu3 nA3 nP3 => ?_)
  rw [kq3] at o3 hr3
  rw [kname3] at S7
  simp only [List.cons_append, List.nil_append] at S7
  have CS7 := CS6.next (i := 3) (by decide) (fun c j x => recKeeps x (fun b o a1 a2 e => q7 b o a2 a1 e) S6.d S6.t S6.tr) ha3 hr3 hs3 hn3
  have X7 := X6.cb q7 hb1 hb2 hb3 hb4
  have k7 : ∀ b o, b ≠ Pc → b ≠ nA → h.get? b = some o → h7.get? b = some o := fun b o h1 h2 e => q7 b o h1 h2 (k6 b o h1 h2 e)
  have L7 := q7 _ _ lP lA L6
  have zz3 : h.get? f3 = none := by
    cases e : h.get? f3 with
    | none => rfl
    | some o => rw [k6 _ _ nP3 nA3 e] at z3; cases z3
  have U7 : CodeAll ps h → ps7 = ps := fun a => by
    have e := U6 a
    have e2 := hu3 (by rw [e]; obtain ⟨c, h1, _⟩ := a 3 (by decide); rw [h1]; exact fun q => nomatch q)
    rw [e2, e]
  replace o0 := q7 _ _ nP0 nA0 o0
  replace hr0 := recKeeps hr0 (fun b o a1 a2 e => q7 b o a2 a1 e) S6.d S6.t S6.tr
  replace o1 := q7 _ _ nP1 nA1 o1
  replace hr1 := recKeeps hr1 (fun b o a1 a2 e => q7 b o a2 a1 e) S6.d S6.t S6.tr
  replace o2 := q7 _ _ nP2 nA2 o2
  replace hr2 := recKeeps hr2 (fun b o a1 a2 e => q7 b o a2 a1 e) S6.d S6.t S6.tr
  refine wpAny_execs_cons (defK S7 X7 hb1 hb2 (kexec4 _) rfl rfl rfl kcl4 kdoc4 (fun v => cstore kloc4 v) (by rw [kq4]; exact CS7.case (by decide)) (by kernel_rfl) (fun t v => by kernel_rfl)
    fun f4 c4 ct4 ps8 h8 tk8 t8 S8 z4 o4 ha4 hr4 hs4 hn4 q8 hu4 nA4 nP4 => ?_)
  rw [kq4] at o4 hr4
  rw [kname4] at S8
  simp only [List.cons_append, List.nil_append] at S8
  have CS8 := CS7.next (i := 4) (by decide) (fun c j x => recKeeps x (fun b o a1 a2 e => q8 b o a2 a1 e) S7.d S7.t S7.tr) ha4 hr4 hs4 hn4
  have X8 := X7.cb q8 hb1 hb2 hb3 hb4
  have k8 : ∀ b o, b ≠ Pc → b ≠ nA → h.get? b = some o → h8.get? b = some o := fun b o h1 h2 e => q8 b o h1 h2 (k7 b o h1 h2 e)
  have L8 := q8 _ _ lP lA L7
  have zz4 : h.get? f4 = none := by
    cases e : h.get? f4 with
    | none => rfl
    | some o => rw [k7 _ _ nP4 nA4 e] at z4; cases z4
  have U8 : CodeAll ps h → ps8 = ps := fun a => by
    have e := U7 a
    have e2 := hu4 (by rw [e]; obtain ⟨c, h1, _⟩ := a 4 (by decide); rw [h1]; exact fun q => nomatch q)
    rw [e2, e]
  replace o0 := q8 _ _ nP0 nA0 o0
  replace hr0 := recKeeps hr0 (fun b o a1 a2 e => q8 b o a2 a1 e) S7.d S7.t S7.tr
  replace o1 := q8 _ _ nP1 nA1 o1
  replace hr1 := recKeeps hr1 (fun b o a1 a2 e => q8 b o a2 a1 e) S7.d S7.t S7.tr
  replace o2 := q8 _ _ nP2 nA2 o2
  replace hr2 := recKeeps hr2 (fun b o a1 a2 e => q8 b o a2 a1 e) S7.d S7.t S7.tr
  replace o3 := q8 _ _ nP3 nA3 o3
  replace hr3 := recKeeps hr3 (fun b o a1 a2 e => q8 b o a2 a1 e) S7.d S7.t S7.tr
  refine wpAny_execs_cons (defK S8 X8 hb1 hb2 (kexec5 _) rfl rfl rfl kcl5 kdoc5 (fun v => cstore kloc5 v) (by rw [kq5]; exact CS8.case (by decide)) (by kernel_rfl) (fun t v => by kernel_rfl)
    fun f5 c5 ct5 ps9 h9 tk9 t9 S9 z5 o5 ha5 hr5 hs5 hn5 q9 hu5 nA5 nP5 => ?_)
  rw [kq5] at o5 hr5
  rw [kname5] at S9
  simp only [List.cons_append, List.nil_append] at S9
  have CS9 := CS8.next (i := 5) (by decide) (fun c j x => recKeeps x (fun b o a1 a2 e => q9 b o a2 a1 e) S8.d S8.t S8.tr) ha5 hr5 hs5 hn5
  have X9 := X8.cb q9 hb1 hb2 hb3 hb4
  have k9 : ∀ b o, b ≠ Pc → b ≠ nA → h.get? b = some o → h9.get? b = some o := fun b o h1 h2 e => q9 b o h1 h2 (k8 b o h1 h2 e)
  have L9 := q9 _ _ lP lA L8
  have zz5 : h.get? f5 = none := by
    cases e : h.get? f5 with
    | none => rfl
    | some o => rw [k8 _ _ nP5 nA5 e] at z5; cases z5
  have U9 : CodeAll ps h → ps9 = ps := fun a => by
    have e := U8 a
    have e2 := hu5 (by rw [e]; obtain ⟨c, h1, _⟩ := a 5 (by decide); rw [h1]; exact fun q => nomatch q)
    rw [e2, e]
  replace o0 := q9 _ _ nP0 nA0 o0
  replace hr0 := recKeeps hr0 (fun b o a1 a2 e => q9 b o a2 a1 e) S8.d S8.t S8.tr
  replace o1 := q9 _ _ nP1 nA1 o1
  replace hr1 := recKeeps hr1 (fun b o a1 a2 e => q9 b o a2 a1 e) S8.d S8.t S8.tr
  replace o2 := q9 _ _ nP2 nA2 o2
  replace hr2 := recKeeps hr2 (fun b o a1 a2 e => q9 b o a2 a1 e) S8.d S8.t S8.tr
  replace o3 := q9 _ _ nP3 nA3 o3
  replace hr3 := recKeeps hr3 (fun b o a1 a2 e => q9 b o a2 a1 e) S8.d S8.t S8.tr
  replace o4 := q9 _ _ nP4 nA4 o4
  replace hr4 := recKeeps hr4 (fun b o a1 a2 e => q9 b o a2 a1 e) S8.d S8.t S8.tr
  refine wpAny_execs_cons (wpAny_Assign_Name (wpAny_Constant_none ?_))
  rw [cstore (by kernel_rfl)]
  refine cbSet S9 rfl (by kernel_rfl) (es' := [⟨a0, .str "__module__" k0, .str "cpy313.functools" tk⟩, ⟨a1, .str "__qualname__" k1, v1⟩, ⟨a2, .str "__firstlineno__" k2, v2⟩, ⟨kh w "__slots__", .str "__slots__" (tk + 1 + 1 + 1), .ref ls⟩,
        ⟨kh w "__init__", .str "__init__" t4, .ref f0⟩, ⟨kh w "__lt__", .str "__lt__" t5, .ref f1⟩, ⟨kh w "__gt__", .str "__gt__" t6, .ref f2⟩, ⟨kh w "__eq__", .str "__eq__" t7, .ref f3⟩, ⟨kh w "__le__", .str "__le__" t8, .ref f4⟩, ⟨kh w "__ge__", .str "__ge__" t9, .ref f5⟩, ⟨kh w "__hash__", .str "__hash__" tk9, .none⟩]) (n' := n + 8) (by kernel_rfl) fun h10 S10 q10 => ?_
  replace o0 := q10 _ _ nA0 o0
  replace hr0 := recKeeps hr0 (fun b o a1 _ e => q10 b o a1 e) S9.d S9.t S9.tr
  replace o1 := q10 _ _ nA1 o1
  replace hr1 := recKeeps hr1 (fun b o a1 _ e => q10 b o a1 e) S9.d S9.t S9.tr
  replace o2 := q10 _ _ nA2 o2
  replace hr2 := recKeeps hr2 (fun b o a1 _ e => q10 b o a1 e) S9.d S9.t S9.tr
  replace o3 := q10 _ _ nA3 o3
  replace hr3 := recKeeps hr3 (fun b o a1 _ e => q10 b o a1 e) S9.d S9.t S9.tr
  replace o4 := q10 _ _ nA4 o4
  replace hr4 := recKeeps hr4 (fun b o a1 _ e => q10 b o a1 e) S9.d S9.t S9.tr
  replace o5 := q10 _ _ nA5 o5
  replace hr5 := recKeeps hr5 (fun b o a1 _ e => q10 b o a1 e) S9.d S9.t S9.tr
  refine wpAny_execs_nil ?_
  refine hq h10 _ ps9 "cpy313.functools" tk ls _ 0 (fun i => ([f0, f1, f2, f3, f4, f5][i]?).getD 0) (fun i => ([c0, c1, c2, c3, c4, c5][i]?).getD 0) (fun i => ([ct0, ct1, ct2, ct3, ct4, ct5][i]?).getD .none) (fun i => ([0, 0, 0, tk + 1 + 1 + 1, t4, t5, t6, t7, t8, t9, tk9][i]?).getD 0) S10 (q10 _ _ lA L9) lA lP (fun i hi => ?_) (fun j hj => ?_) U9
    (fun b o h1 h2 e => q10 b o h2 (k9 b o h1 h2 e))
  · rcases i with _ | _ | _ | _ | _ | _ | i
    · exact ⟨zz0, nA0, nP0, o0, hr0⟩
    · exact ⟨zz1, nA1, nP1, o1, hr1⟩
    · exact ⟨zz2, nA2, nP2, o2, hr2⟩
    · exact ⟨zz3, nA3, nP3, o3, hr3⟩
    · exact ⟨zz4, nA4, nP4, o4, hr4⟩
    · exact ⟨zz5, nA5, nP5, o5, hr5⟩
    · exact absurd hi (by simp)
  · obtain ⟨c, a, b⟩ := CS9.all j hj
    exact ⟨c, a, recKeeps b (fun b o a1 _ e => q10 b o a1 e) S9.d S9.t S9.tr⟩
end
end
section
open PySem PySem.W PyProof.Rows PySem.Calls PySem.Builtin PySem.W.X
set_option maxRecDepth 100000
section
variable {prog : Program} {w : World} {A : Around} {h : Heap} {d : Drawn} {tk : Nat} {os : OsState} {E : Value → Shared → Prop}
local macro_rules | `(tactic| x_close) => `(tactic| (first | (refine ⟨_, _, _, rfl, rfl, by assumption⟩) | (trace_state; fail)))
set_option maxHeartbeats 1000000 in
theorem prep_get' {t : Tok} : wpAny (model prog w) A (call (.builtin "type.__getattribute__") [.type "type", .str ⟨#[95, 95, 112, 114, 101, 112, 97, 114, 101, 95, 95]⟩ t]) (fun v s' => ∃ a h' tk', s' = ⟨h', #[], d, tk', os⟩ ∧ v = .ref a ∧ Mem h h' [] [(a, ⟨.type "builtin_function_or_method", none, .fields #[.builtin "type.__prepare__", .type "type"], #[]⟩)]) (fun _ _ => False) ⟨h, #[], d, tk, os⟩ := by
  x_run
set_option maxHeartbeats 1000000 in
theorem prep_call {b bt : Addr} {t : Tok} (hb : h.get? b = some ⟨.type "builtin_function_or_method", none, .fields #[.builtin "type.__prepare__", .type "type"], #[]⟩) :
    wpAny (model prog w) A (call (.ref b) [.str (Str.ofString "K") t, .ref bt]) (fun v s' => ∃ a h' tk', s' = ⟨h', #[], d, tk', os⟩ ∧ v = .ref a ∧ Mem h h' [] [(a, ⟨.type "dict", none, .dict #[] 0, #[]⟩)]) (fun _ _ => False) ⟨h, #[], d, tk, os⟩ := by
  x_run
end
theorem tt_ga : Slot "type" "__getattribute__" "type.__getattribute__" := .of (owner := "type") (n := "__getattribute__") (by rw [typeLookup_type, builtinLookup_eq_fast]; kernel_rfl) (by decide +kernel) (by decide +kernel) (by decide +kernel)
  (by first | exact .inl (by decide +kernel) | exact .inr (by decide +kernel)) (by rw [isSubtype_type]; kernel_rfl)
theorem tt_ty : typeOf (.type "type") = pure (.type "type") := by kernel_rfl
section
variable {prog : Program} {w : World} {A : Around} {h : Heap} {d : Drawn} {tk : Nat} {os : OsState} {E : Value → Shared → Prop}
theorem prep_attr {Q : Option Value → Shared → Prop} (hq : ∀ a h' tk', (∀ b o, h.get? b = some o → h'.get? b = some o) → h'.get? a = some ⟨.type "builtin_function_or_method", none, .fields #[.builtin "type.__prepare__", .type "type"], #[]⟩ → Q (some (.ref a)) ⟨h', #[], d, tk', os⟩) :
    wpAny (model prog w) A (getAttr? (.type "type") "__prepare__") Q E ⟨h, #[], d, tk, os⟩ := by
  unfold getAttr? getAttrBy?
  refine wpAny_bind (wpAny_mkText (wpAny_bind (wpAny_attempt ?_)))
  unfold getAttrBy
  refine wpAny_holding (wpAny_bind (wpAny_of_eq tt_ty (wpAny_bind (wpAny_of_eq tt_ga.lookup ?_))))
  show wpAny _ _ (getAttrByItsOwn (.type "type") (.str "__prepare__" tk) (.type "type") (.builtin "type.__getattribute__") false false) _ _ _
  unfold getAttrByItsOwn hookBefore callGetattribute boundAndCalled
  refine wpAny_bind (wpAny_of_eq (show (if onTheHeap (.type "type") then typeLookup (.type "type") "__getattr__" else pure none) = pure none from rfl) ?_)
  refine wpAny_bind (wpAny_attempt (wpAny_holding ?_))
  show wpAny _ _ (bindSpecial (.builtin "type.__getattribute__") (.type "type") >>= _) _ _ _
  refine wpAny_bind (wpAny_of_eq (tt_ga.bind _) ?_)
  have e : (Str.ofString "__prepare__") = ⟨#[95, 95, 112, 114, 101, 112, 97, 114, 101, 95, 95]⟩ := by decide +kernel
  show wpAny _ _ (call (.builtin "type.__getattribute__") [.type "type", .str (Str.ofString "__prepare__") tk]) _ _ _
  rw [e]
  refine wpAny_mono prep_get' (fun v s' hv => ?_) fun _ _ x => x.elim
  obtain ⟨a, h', tk', rfl, rfl, D⟩ := hv
  exact wpAny_pure (wpAny_pure (hq a h' tk' (mem_keep D) (D.at 0 _ _ rfl)))
end
end
section
open PySem PySem.W PyProof.Rows PySem.Calls PySem.Builtin PySem.W.X
set_option maxRecDepth 100000
noncomputable def cpos : Pos := cstmt.pos
/-- the table of cmp_to_key's code: the class's code is not there yet, or there with all its defs -/
structure KInv (h : Heap) (cK T bm : Addr) (pt : Array Value) : Prop where
  c : h.IsCode cK T pt
  t : h.TableAt cK T pt
  st : codeAmong cpos pt.toList = none ∨ ∃ cc Pc ps, codeAmong cpos pt.toList = some (.ref cc) ∧ h.IsCode cc Pc ps ∧ h.TableAt cc Pc ps ∧ CodeAll ps h ∧ cc ≠ T ∧ Pc ≠ T ∧ mainGlobals ≠ Pc ∧ bm ≠ Pc
theorem KInv.keeps {h h' : Heap} {cK T bm : Addr} {pt : Array Value} (x : KInv h cK T bm pt) (k : ∀ b o, h.get? b = some o → h'.get? b = some o) : KInv h' cK T bm pt := by
  refine ⟨x.c.keeps k, x.t.keeps k, x.st.imp id fun y => ?_⟩
  obtain ⟨cc, Pc, ps, h1, h2, h3, h4, r⟩ := y
  exact ⟨cc, Pc, ps, h1, h2.keeps k, h3.keeps k, fun j hj => let ⟨c, a, b⟩ := h4 j hj; ⟨c, a, b.keeps k⟩, r⟩
section
variable {prog : Program} {w : World} {A : Around} {h h₀ : Heap} {cK T bm : Addr} {ob : Obj} {mg : Str → Option Value} {pt : Array Value} {g : Array GenState} {d : Drawn} {tk : Nat} {os : OsState} {E : Value → Shared → Prop} {env : Env}
theorem classCode_ok {fl : Nat} {name qual : Str} {scope : Scope} {Q : Value → Shared → Prop} (I : KInv h cK T bm pt) (X : Mk h mg bm ob) (hc : env.code = .ref cK)
    (hq : ∀ cc Pc ps pt' h' tk', (∀ b o, b ≠ T → h.get? b = some o → h'.get? b = some o) → h'.IsCode cK T pt' → h'.TableAt cK T pt' → codeAmong cpos pt'.toList = some (.ref cc) → h'.IsCode cc Pc ps → h'.TableAt cc Pc ps → CodeSt ps h' 0 → cc ≠ T → Pc ≠ T →
      mainGlobals ≠ Pc → bm ≠ Pc → (∀ o, h.get? Pc = some o → CodeAll ps h') → (codeAmong cpos pt.toList ≠ none → pt' = pt) → Q (.ref cc) ⟨h', g, d, tk', os⟩) :
    wpAny (model prog w) A (classCode env cpos fl name qual scope) Q E ⟨h, g, d, tk, os⟩ := by
  have I0 := I
  obtain ⟨hok, htab, hst⟩ := I
  rcases hst with hnf | ⟨cc, Pc, ps, h1, h2, h3, h4, h5, h6, h7, h8⟩
  · obtain ⟨o, vs, file, tf, flags, tg, inF, text, tt, op, ho, hd, h11, h2, h7, h9, h10, hop, hpd, htr, hne⟩ := id hok
    unfold classCode codeAt
    rw [hc, if_neg (show ¬ ((Value.ref cK == Value.none) = true) from Bool.false_ne_true)]
    refine wpAny_bind (wpAny_fieldsOf ho hd ?_)
    rw [h11]
    refine wpAny_bind (wpAny_fieldsOf hop hpd ?_)
    rw [hnf, h2, h7, h9, h10]
    refine wpAny_bind (wpAny_newCodeX fun c' P' h' tk' hk hc' hP' hcode' htab' hrec' => ?_)
    have hop' := hk _ _ hop
    refine wpAny_bind (wpAny_updateFieldsOfTheText hop' hpd ?_)
    have hnew : (Obj.mapFields (fun vs => if (codeAmong cpos vs.toList).isSome = true then vs else vs ++ #[rawInt cpos.line, rawInt cpos.col, .ref c']) op).data = .fields (pt ++ #[rawInt cpos.line, rawInt cpos.col, .ref c']) := by
      rw [Obj.data_mapFields hpd, hnf]; rfl
    have hget := Heap.get?_update_self (h := h') (fun o => Obj.mapFields (fun vs => if (codeAmong cpos vs.toList).isSome = true then vs else vs ++ #[rawInt cpos.line, rawInt cpos.col, .ref c']) o) hop' (Obj.isFreed_of_fields hnew)
    refine wpAny_bind (wpAny_fieldsOf hget hnew ?_)
    have hl : (pt ++ #[rawInt cpos.line, rawInt cpos.col, Value.ref c']).toList = pt.toList ++ [rawInt cpos.line, rawInt cpos.col, .ref c'] := by simp
    rw [hl, codeAmong_snoc _ htr hnf]
    have hs : Heap.SameBut T h' (h'.update T (fun o => Obj.mapFields (fun vs => if (codeAmong cpos vs.toList).isSome = true then vs else vs ++ #[rawInt cpos.line, rawInt cpos.col, .ref c']) o)) := Heap.SameBut.update ..
    have hcT : c' ≠ T := Nat.ne_of_gt (Nat.lt_of_lt_of_le (Heap.lt_size hop) hc')
    have hPT : P' ≠ T := Nat.ne_of_gt (Nat.lt_of_lt_of_le (Heap.lt_size hop) hP')
    refine wpAny_pure (hq c' P' #[] _ _ _ (fun b o' hb e => (hs.2 b hb).trans (hk b o' e)) ?_ ?_ (by rw [hl]; exact codeAmong_snoc _ htr hnf) (hcode'.sameBut hs hcT hPT) (htab'.sameBut hs hcT hPT) CodeSt.start hcT hPT
      (Nat.ne_of_lt (Nat.lt_of_lt_of_le X.g.lt hP')) (Nat.ne_of_lt (Nat.lt_of_lt_of_le (Heap.lt_size X.o) hP')) (fun o e => absurd (Heap.lt_size e) (Nat.not_lt.mpr hP')) (fun q => absurd hnf q))
    · exact ⟨o, vs, file, tf, flags, tg, inF, text, tt, _, (hs.2 _ hne).trans (hk _ _ ho), hd, h11, h2, h7, h9, h10, hget, hnew, by rw [hl]; exact TriplesOk_snoc _ _ _ _ htr, hne⟩
    · obtain ⟨⟨oc, vc, hoc, hcc, hdc, h11c⟩, htP⟩ := htab
      have e1 : op = { cls := .none, data := .fields pt } := Option.some.inj (hop.symm.trans htP)
      refine ⟨⟨oc, vc, (hs.2 _ hne).trans (hk _ _ hoc), hcc, hdc, h11c⟩, ?_⟩
      rw [hget, e1]
      simp only [Obj.mapFields, hnf]
      rfl
  · unfold classCode
    exact wpAny_codeAt_hit hc hok h1 (hq cc Pc ps pt h tk (fun _ _ _ e => e) hok htab h1 h2 h3 h4.st h5 h6 h7 h8 (fun _ _ => h4) fun _ => rfl)
end
end
section
open PySem PySem.W PyProof.Rows PySem.Calls PySem.Builtin PySem.W.X
set_option maxRecDepth 100000
set_option genInjectivity false in
/-- the parts of a class K -/
structure KD where
  (N M bt ls sa : Addr) (t1 tq tk1 tk2 tk3 : Tok) (hs : Nat → Int) (ts : Nat → Tok) (mo : Str) (tm : Tok) (fl : Int) (ftk : Tok) (fn c : Nat → Addr) (ct : Nat → Value)
/-- what stands behind the call of cmp_to_key: the class K over the cell C, new to h₀ -/
noncomputable def KF (h₀ h : Heap) (w : World) (mg : Str → Option Value) (K C : Addr) : Prop :=
  ∃ y : KD,
    (h.get? K = some (kObj K y.N #[some (.ref y.bt), none, some (.str "K" y.t1), some (.str qK y.tq), some (.builtin "object.__new__"), some (.bool false)]) ∧ h₀.get? K = none) ∧
    (h.get? y.N = some (kdict ((kes y.hs y.ts (.str y.mo y.tm) (.int y.fl y.ftk) qK y.tq y.ls y.sa y.fn).eraseIdx 1 ++ [⟨kh w "obj", .str "obj" y.tk2, .ref y.M⟩, ⟨kh w "__doc__", .str "__doc__" y.tk3, .none⟩]) 3) ∧ h₀.get? y.N = none) ∧
    (h.get? y.M = some (kmd K y.tk1) ∧ h₀.get? y.M = none) ∧
    ∀ i < 6, h.get? (y.fn i) = some (fnObj (nameOf (kst i)) (kqual i) (prmOf (kst i)) (bodOf (kst i)) (scpOf (kst i)) (if i = 0 then [] else [(Str.ofString "mycmp", C)]) (y.ct i) ((mg "__name__").getD .none) (y.c i)) ∧ h₀.get? (y.fn i) = none ∧ h.CodeRec (.ref (y.c i)) (kqual i)
theorem KF.base {h₀ h₁ h : Heap} {w : World} {mg : Str → Option Value} {K C : Addr} (x : KF h₁ h w mg K C) (k : ∀ b o, h₀.get? b = some o → h₁.get? b = some o) : KF h₀ h w mg K C := by
  have k' : ∀ b, h₁.get? b = none → h₀.get? b = none := fun b e => by
    cases q : h₀.get? b with
    | none => rfl
    | some o => rw [k b o q] at e; cases e
  obtain ⟨y, h1, h2, h3, h4⟩ := x
  exact ⟨y, ⟨h1.1, k' _ h1.2⟩, ⟨h2.1, k' _ h2.2⟩, ⟨h3.1, k' _ h3.2⟩, fun i hi => ⟨(h4 i hi).1, k' _ (h4 i hi).2.1, (h4 i hi).2.2⟩⟩
/-- one dict of h₀ may change -/
theorem KF.but {h₀ h h' : Heap} {w : World} {mg : Str → Option Value} {K C L : Addr} {oL oL' : Obj} (x : KF h₀ h w mg K C) (hL : h₀.get? L = some oL) (hL' : h.get? L = some oL') (hd : ∀ vs, oL'.data ≠ .fields vs) (k : ∀ b o, b ≠ L → h.get? b = some o → h'.get? b = some o) : KF h₀ h' w mg K C := by
  have ne : ∀ b, h₀.get? b = none → b ≠ L := fun b e q => by rw [q, hL] at e; cases e
  obtain ⟨y, h1, h2, h3, h4⟩ := x
  exact ⟨y, ⟨k _ _ (ne _ h1.2) h1.1, h1.2⟩, ⟨k _ _ (ne _ h2.2) h2.1, h2.2⟩, ⟨k _ _ (ne _ h3.2) h3.1, h3.2⟩,
    fun i hi => ⟨k _ _ (ne _ (h4 i hi).2.1) (h4 i hi).1, (h4 i hi).2.1, (h4 i hi).2.2.keepsBut k hL' hd⟩⟩
noncomputable def cstatics : List Str := match cstmt with
  | .ClassDef _ _ _ _ _ _ _ _ _ st _ => st
  | _ => []
theorem ns_ne_table {h : Heap} {a c T : Addr} {m : Str → Option Value} {ps : Array Value} (x : h.Ns a m) (t : h.TableAt c T ps) : a ≠ T := by
  rintro rfl
  obtain ⟨o, es, ep, e, hd, _⟩ := x
  rw [t.2] at e
  cases e
  cases hd
theorem gi_dict : typeLookup (.type "dict") "__getitem__" = pure (some (.builtin "dict.__getitem__")) := by rw [typeLookup_type, builtinLookup_eq_fast]; kernel_rfl
section
variable {prog : Program} {w : World} {A : Around} {h h₀ : Heap} {cK T bm C : Addr} {ob : Obj} {mg : Str → Option Value} {pt : Array Value} {d : Drawn} {tk : Nat} {os : OsState} {E : Value → Shared → Prop} {env : Env}
theorem load_name {nA fr cc C : Addr} {vn : Value} {Q : Value → Shared → Prop} {g : Array GenState} (hn : h.get? nA = some (kdict [] 0)) (hg : h.Ns mainGlobals mg) (hN : mg "__name__" = some vn) (hq : Q vn ⟨h, g, d, tk, os⟩) : wpAny (model prog w) A (loadName (cenv nA fr cc C) "__name__") Q E ⟨h, g, d, tk, os⟩ := by
  have e : loadName (cenv nA fr cc C) "__name__" = (do
      if let some v ← localGet (cenv nA fr cc C) "__name__" then return v
      loadGlobal (cenv nA fr cc C) "__name__") := by kernel_rfl
  rw [e]
  refine wpAny_bind ?_
  unfold localGet
  refine wpAny_bind (wpAny_load' hn ?_)
  refine wpAny_ite_true rfl ?_
  refine nsGetX hn (r := none) (by kernel_rfl) ?_
  try wp_delta
  unfold loadGlobal
  refine wpAny_bind (wpAny_nsGet hg ?_)
  rw [hN]
  exact wpAny_pure hq
theorem cstoreX {nA fr cc C : Addr} (v : Value) : storeName (cenv nA fr cc C) "__qualname__" v = localSet (cenv nA fr cc C) "__qualname__" v := by kernel_rfl
theorem cstoreY {nA fr cc C : Addr} (v : Value) : storeName (cenv nA fr cc C) "__firstlineno__" v = localSet (cenv nA fr cc C) "__firstlineno__" v := by kernel_rfl
theorem cstoreZ {nA fr cc C : Addr} (v : Value) : storeName (cenv nA fr cc C) "__static_attributes__" v = localSet (cenv nA fr cc C) "__static_attributes__" v := by kernel_rfl
set_option maxHeartbeats 2000000 in
theorem build_ok {fl : Nat} {vn : Value} {Q : Value → Shared → Prop} (I : KInv h cK T bm pt) (X : Mk h mg bm ob) (hN : mg "__name__" = some vn) (lim : h.NoLimit) (hst : NoThird h) (sm : ∃ o, h.get? sysModules = some o) (room : A.depth < recursionLimit)
    (hc : env.code = .ref cK) (hg : env.globals = mainGlobals) (hcl : closureFor cscope env = pure [(Str.ofString "mycmp", C)])
    (ret : ∀ h' tk' K pt', (∀ b o, b ≠ T → h.get? b = some o → h'.get? b = some o) → KInv h' cK T bm pt' → h.get? K = none → KF h h' w mg K C → Q (.ref K) ⟨h', #[], d, tk', os⟩) :
    wpAny (model prog w) A (buildClass "K" qK [.type "object"] [] cbody cscope cstatics fl env cpos none) Q E ⟨h, #[], d, tk, os⟩ := by
  unfold buildClass
  refine wpAny_bind ?_
  unfold newTuple
  refine wpAny_newObj_type ?_ (by size_fits)
  have b1 : (h.push ⟨.type "tuple", none, .seq #[.type "object"] 0, #[]⟩).get? h.objs.size = some ⟨.type "tuple", none, .seq #[.type "object"] 0, #[]⟩ := Heap.get?_push_size _ rfl
  have k1 : ∀ b o, h.get? b = some o → (h.push ⟨.type "tuple", none, .seq #[.type "object"] 0, #[]⟩).get? b = some o := fun b o e => Heap.get?_push_of_some _ e
  have bN : h.get? h.objs.size = none := by
    cases e : h.get? h.objs.size with
    | none => rfl
    | some o => exact absurd (Heap.lt_size e) (Nat.lt_irrefl _)
  change wpAny _ _ _ _ _ ⟨h.push ⟨.type "tuple", none, .seq #[.type "object"] 0, #[]⟩, #[], d, tk, os⟩
  generalize h.objs.size = bt at *
  generalize h.push _ = h1 at *
  try wp_delta
  refine wpAny_bind ?_
  rw [List.forIn_cons]
  refine wpAny_bind (wpAny_bind (wpAny_of_eq it_object ?_))
  try wp_delta
  refine wpAny_ite_true rfl ?_
  try wp_delta
  refine wpAny_ite_false (by kernel_rfl) ?_
  refine wpAny_pure ?_
  show wpAny _ _ (forIn ([] : List Value) ([Value.type "object"], false) _) _ _ _
  rw [List.forIn_nil]
  refine wpAny_pure ?_
  try wp_delta
  try wp_delta
  refine wpAny_bind (wpAny_of_eq ty_object ?_)
  try wp_delta
  refine wpAny_bind (wpAny_of_eq (a := true) (by kernel_rfl) ?_)
  try wp_delta
  refine wpAny_ite_true rfl ?_
  refine wpAny_bind ?_
  rw [List.forIn_cons]
  refine wpAny_bind (wpAny_bind (wpAny_of_eq ty_object ?_))
  refine wpAny_bind (wpAny_of_eq sub_ty ?_)
  try wp_delta
  refine wpAny_ite_true rfl ?_
  refine wpAny_pure ?_
  try wp_delta
  rw [List.forIn_nil]
  refine wpAny_pure ?_
  try wp_delta
  refine wpAny_bind (wpAny_mkText ?_)
  try wp_delta
  try (refine wpAny_ite_false rfl ?_)
  try wp_delta
  refine wpAny_bind (wpAny_pure ?_)
  try wp_delta
  refine wpAny_holding ?_
  refine wpAny_bind (prep_attr fun pr h2 tk2 k2 hpr => ?_)
  try wp_delta
  refine wpAny_bind (wpAny_mono (prep_call hpr) (fun v s' hv => ?_) fun _ _ x => x.elim)
  obtain ⟨nA, h3, tk3, rfl, rfl, D⟩ := hv
  have k3 := mem_keep D
  have nN : h2.get? nA = none := (D.nw _ (.head _)).2
  have nO := D.at 0 _ _ rfl
  clear D
  have kk3 : ∀ b o, h.get? b = some o → h3.get? b = some o := fun b o e => k3 _ _ (k2 _ _ (k1 _ _ e))
  have old : ∀ b o, h.get? b = some o → b ≠ nA := fun b o e q => by rw [q] at e; rw [k2 _ _ (k1 _ _ e)] at nN; cases nN
  have smn : (nA == sysModules) = false := by
    obtain ⟨o, e⟩ := sm
    exact beq_eq_false_iff_ne.mpr (old _ _ e).symm
  try wp_delta
  try wp_delta
  try wp_delta
  refine wpAny_bind (wpAny_of_eq (a := ()) (by unfold notTheModulesDict; rw [smn]; rfl) ?_)
  refine wpAny_bind (special nO rfl gi_dict ?_)
  refine wpAny_ite_false rfl ?_
  try wp_delta
  refine wpAny_holding ?_
  try wp_delta
  refine wpAny_ite_false (by kernel_rfl) ?_
  try wp_delta
  refine wpAny_bind (wpAny_pure ?_)
  try wp_delta
  refine wpAny_ite_false (by kernel_rfl) ?_
  try wp_delta
  refine wpAny_bind (wpAny_pure ?_)
  try wp_delta
  have X3 := X.keeps kk3
  refine wpAny_bind (classCode_ok (I.keeps kk3) X3 hc fun cc Pc ps pt' h4 tk4 k4 c4 t4 a4 cc4 ct4 cs4 n1 n2 n3 n4 all4 same4 => ?_)
  have gT : mainGlobals ≠ T := ns_ne_table X.g I.t
  have bT : bm ≠ T := fun e => by have := X.o; rw [e, I.t.2] at this; cases this; have := X.oc; cases this
  have X4 := X3.but k4 gT bT
  have aT : nA ≠ T := fun e => old T _ I.t.2 e.symm
  have nO4 := k4 _ _ aT nO
  rw [hg]
  refine wpAny_bind (wpAny_builtinsFor X4.g X4.hm X4.bn X4.o X4.oc X4.od X4.ol ?_)
  refine wpAny_bind ?_
  unfold newBodyFrame
  refine wpAny_bind (wpAny_nsGet X4.g ?_)
  refine wpAny_alloc' ?_
  refine wpAny_bind (wpAny_of_eq hcl ?_)
  have k5 : ∀ b o, h4.get? b = some o → (h4.push { cls := .type "frame", slots := #[some (.ref cc), some (.ref mainGlobals), some (.ref nA), none, some ((mg "__name__").getD .none), none, some (.ref builtinsNs)] }).get? b = some o := fun b o e => Heap.get?_push_of_some _ e
  generalize h4.objs.size = fr at *
  generalize h4.push _ = h5 at *
  show wpAny _ _ (holding _ _) _ _ _
  have kk5 : ∀ b o, b ≠ T → h.get? b = some o → h5.get? b = some o := fun b o hb e => k5 _ _ (k4 _ _ hb (kk3 _ _ e))
  have lim5 : h5.NoLimit := by
    obtain ⟨mc, hns, hno⟩ := lim
    have hT : cStatics ≠ T := ns_ne_table hns I.t
    obtain ⟨o, es, ep, e, r⟩ := hns
    exact ⟨mc, ⟨o, es, ep, kk5 _ _ hT e, r⟩, hno⟩
  have hst5 : NoThird h5 := by
    obtain ⟨mc, hns, hno⟩ := hst
    have hT : cStatics ≠ T := ns_ne_table hns I.t
    obtain ⟨o, es, ep, e, r⟩ := hns
    exact ⟨mc, ⟨o, es, ep, kk5 _ _ hT e, r⟩, hno⟩
  refine wpAny_holding (wpAny_bind (wpAny_enterFrame lim5 room ?_))
  refine wpAny_bind (wpAny_onRaise ?_)
  have nO5 : h5.get? nA = some (kdict [] 0) := k5 _ _ nO4
  have X5 := X4.keeps k5
  have nAP : nA ≠ Pc := fun e => by rw [e, ct4.2] at nO4; cases nO4
  have nAc : nA ≠ cc := fun e => by
    obtain ⟨o, vs, file, tf, flags, tg, inF, text, tt, op, ho, hd, _⟩ := cc4
    rw [e, ho] at nO4; cases nO4; cases hd
  have S5 : CB h5 nA cc Pc [] 0 ps h5 := ⟨fun _ _ _ _ e => e, nO5, cc4.keeps k5, ct4.keeps k5, nAP, nAc⟩
  refine wpAny_bind (load_name (fr := fr) (cc := cc) (C := C) nO5 X5.g hN ?_)
  refine wpAny_bind ?_
  show wpAny _ _ (storeName (cenv nA fr cc C) "__module__" vn) _ _ _
  rw [cstore (by kernel_rfl)]
  refine cbSet S5 rfl (by kernel_rfl) (es' := [⟨kh w "__module__", .str "__module__" tk4, vn⟩]) (n' := 1) (by kernel_rfl) fun h6 S6 q6 => ?_
  refine wpAny_bind (wpAny_mkText ?_)
  refine wpAny_bind ?_
  show wpAny _ _ (storeName (cenv nA fr cc C) "__qualname__" _) _ _ _
  rw [cstoreX]
  refine cbSet S6 rfl (by kernel_rfl) (es' := [⟨kh w "__module__", .str "__module__" tk4, vn⟩, ⟨kh w "__qualname__", .str "__qualname__" (tk4 + 1 + 1), .str qK (tk4 + 1)⟩]) (n' := 2) (by kernel_rfl) fun h7 S7 q7 => ?_
  refine wpAny_bind (wpAny_mkInt ?_)
  refine wpAny_bind ?_
  show wpAny _ _ (storeName (cenv nA fr cc C) "__firstlineno__" _) _ _ _
  rw [cstoreY]
  refine cbSet S7 rfl (by kernel_rfl) (es' := [⟨kh w "__module__", .str "__module__" tk4, vn⟩, ⟨kh w "__qualname__", .str "__qualname__" (tk4 + 1 + 1), .str qK (tk4 + 1)⟩, ⟨kh w "__firstlineno__", .str "__firstlineno__" (tk4 + 1 + 1 + 1 + 1), .int fl (tk4 + 1 + 1 + 1)⟩]) (n' := 3) (by kernel_rfl) fun h8 S8 q8 => ?_
  refine wpAny_pure ?_
  have q58 : ∀ b o, b ≠ nA → h5.get? b = some o → h8.get? b = some o := fun b o hb e => q8 _ _ hb (q7 _ _ hb (q6 _ _ hb e))
  have nb1 : mainGlobals ≠ nA := by
    obtain ⟨o, es, ep, e, r⟩ := X.g
    exact old _ _ e
  have nb2 : bm ≠ nA := old _ _ X.o
  have X8 : Mk h8 mg bm ob := X5.but (P := nA) q58 nb1 nb2
  have CS8 : CodeSt ps h8 0 := fun j hj => (cs4 j hj).imp (fun ⟨c, a, b⟩ => ⟨c, a, recKeeps (b.keeps k5) (fun b o h1 _ e => q58 b o h1 e) nO5 S5.t S5.tr⟩) id
  try wp_delta
  refine wpAny_bind (wpAny_run (codeAny_body (by kernel_rfl) (by kernel_rfl) ?_))
  show wpAny _ _ (execs cbody (cenv nA fr cc C)) _ _ _
  refine body_ok S8 X8 n3 n4 nb1 nb2 CS8 fun h9 tk9 ps9 mo tm ls t nl fn c ct ts S9 L9 lA lP F9 all9 same9 q9 => ?_
  show wpAny _ _ _ _ _ _
  refine wpAny_bind (wpAny_onRaise ?_)
  refine wpAny_bind (wpAny_mkStrs fun sv => ?_)
  refine wpAny_bind ?_
  unfold newTextTuple
  refine wpAny_newObjAsIs_type ?_
  have saN : h9.get? h9.objs.size = none := by
    cases e : h9.get? h9.objs.size with
    | none => rfl
    | some o => exact absurd (Heap.lt_size e) (Nat.lt_irrefl _)
  have sak : ∀ b o, h9.get? b = some o → (h9.push ⟨.type "tuple", none, .seq sv.toArray 0, #[]⟩).get? b = some o := fun b o e => Heap.get?_push_of_some _ e
  have sao : (h9.push ⟨.type "tuple", none, .seq sv.toArray 0, #[]⟩).get? h9.objs.size = some ⟨.type "tuple", none, .seq sv.toArray 0, #[]⟩ := Heap.get?_push_size _ rfl
  change wpAny _ _ _ _ _ ⟨h9.push ⟨.type "tuple", none, .seq sv.toArray 0, #[]⟩, #[], d, tk9 + cstatics.length, os⟩
  generalize tk9 + cstatics.length = tkx
  change wpAny _ _ (do storeName (cenv nA fr cc C) "__static_attributes__" (.ref h9.objs.size); _) _ _ _
  generalize h9.objs.size = sa at *
  generalize h9.push _ = h9' at *
  have saA : sa ≠ nA := fun e => by rw [e, S9.d] at saN; cases saN
  refine wpAny_bind ?_
  rw [cstoreZ]
  refine cbSet (S9.keeps sak) rfl (by kernel_rfl) (es' := kes (fun i => ([kh w "__module__", kh w "__qualname__", kh w "__firstlineno__", kh w "__slots__", kh w "__init__", kh w "__lt__", kh w "__gt__", kh w "__eq__", kh w "__le__", kh w "__ge__", kh w "__hash__", kh w "__static_attributes__"][i]?).getD 0)
    (fun i => ([tk4, tk4 + 1 + 1, tk4 + 1 + 1 + 1 + 1, ts 3, ts 4, ts 5, ts 6, ts 7, ts 8, ts 9, ts 10, tkx][i]?).getD 0) (.str mo tm) (.int fl (tk4 + 1 + 1 + 1)) qK (tk4 + 1) ls sa fn) (n' := 12) (by kernel_rfl) fun h10 S10 q10 => ?_
  refine wpAny_pure ?_
  try wp_delta
  refine wpAny_bind ?_
  have k510 : ∀ b o, b ≠ Pc → b ≠ nA → h5.get? b = some o → h10.get? b = some o := fun b o h1 h2 e => q10 _ _ h2 (sak _ _ (q9 _ _ h1 h2 (q58 _ _ h2 e)))
  have k310 : ∀ b o, b ≠ T → b ≠ Pc → b ≠ nA → h3.get? b = some o → h10.get? b = some o := fun b o h0 h1 h2 e => k510 _ _ h1 h2 (k5 _ _ (k4 _ _ h0 e))
  have bt3 : h3.get? bt = some ⟨.type "tuple", none, .seq #[.type "object"] 0, #[]⟩ := k3 _ _ (k2 _ _ b1)
  have neT : ∀ b o, h4.get? b = some o → o.cls ≠ .none → b ≠ T ∧ b ≠ Pc := fun b o e hc => ⟨fun q => by rw [q, t4.2] at e; cases e; exact hc rfl, fun q => by rw [q, ct4.2] at e; cases e; exact hc rfl⟩
  have bt10 : h10.get? bt = some ⟨.type "tuple", none, .seq #[.type "object"] 0, #[]⟩ := by
    have a1 : bt ≠ T := fun q => by rw [q, I.t.2] at bN; cases bN
    have := neT bt _ (k4 _ _ a1 bt3) (fun q => nomatch q)
    have a2 : bt ≠ nA := fun q => by rw [q] at b1; rw [k2 _ _ b1] at nN; cases nN
    exact k310 _ _ this.1 this.2 a2 bt3
  have ls10 := q10 _ _ lA (sak _ _ L9)
  have sa10 := q10 _ _ saA sao
  have fn10 : ∀ i < 6, h10.get? (fn i) = some (fnObj (nameOf (kst i)) (kqual i) (prmOf (kst i)) (bodOf (kst i)) (scpOf (kst i)) (if i = 0 then [] else [(Str.ofString "mycmp", C)]) (ct i) ((mg "__name__").getD .none) (c i)) ∧ h10.CodeRec (.ref (c i)) (kqual i) := fun i hi => by
    obtain ⟨_, f2, _, f4, f5⟩ := F9 i hi
    exact ⟨q10 _ _ f2 (sak _ _ f4), recKeeps (f5.keeps sak) (fun b o h1 _ e => q10 b o h1 e) (S9.keeps sak).d (S9.keeps sak).t S9.tr⟩
  have keep10 : ∀ b o, b ≠ T → h.get? b = some o → h10.get? b = some o := fun b o hb e => by
    have hA := old b o e
    by_cases hP : b = Pc
    · subst hP
      have e3 := kk3 _ _ e
      have a4' := all4 o e3
      have a8 : CodeAll ps h8 := fun j hj => by
        obtain ⟨c, x1, x2⟩ := a4' j hj
        exact ⟨c, x1, recKeeps (x2.keeps k5) (fun b o h1 _ e => q58 b o h1 e) nO5 S5.t S5.tr⟩
      have e4 := k4 _ _ hb e3
      rw [ct4.2] at e4
      cases e4
      rw [← same9 a8]
      exact S10.t.2
    · exact k310 _ _ hb hP hA (kk3 _ _ e)
  have inv10 : KInv h10 cK T bm pt' := by
    have hTA : T ≠ nA := aT.symm
    have hTP : T ≠ Pc := n2.symm
    have cKA : cK ≠ nA := by
      obtain ⟨o, vs, file, tf, flags, tg, inF, text, tt, op, ho, hd, _⟩ := I.c
      exact old _ _ ho
    have cKP : cK ≠ Pc := by
      obtain ⟨⟨oc, vc, hoc, hcc, hdc, h11c⟩, _⟩ := t4
      exact (neT _ _ hoc (by rw [hcc]; exact fun q => nomatch q)).2
    refine ⟨?_, ?_, .inr ⟨cc, Pc, ps9, a4, S10.c, S10.t, ?_, n1, n2, n3, n4⟩⟩
    · obtain ⟨o, vs, file, tf, flags, tg, inF, text, tt, op, ho, hd, h11, h2, h7, h9, h10, hop, r⟩ := c4
      exact ⟨o, vs, file, tf, flags, tg, inF, text, tt, op, k510 _ _ cKP cKA (k5 _ _ ho), hd, h11, h2, h7, h9, h10, k510 _ _ hTP hTA (k5 _ _ hop), r⟩
    · obtain ⟨⟨oc, vc, hoc, hcc, hdc, h11c⟩, hp⟩ := t4
      exact ⟨⟨oc, vc, k510 _ _ cKP cKA (k5 _ _ hoc), hcc, hdc, h11c⟩, k510 _ _ hTP hTA (k5 _ _ hp)⟩
    · intro j hj
      obtain ⟨c, x1, x2⟩ := all9 j hj
      exact ⟨c, x1, recKeeps (x2.keeps sak) (fun b o h1 _ e => q10 b o h1 e) (S9.keeps sak).d (S9.keeps sak).t S9.tr⟩
  have hst10 : NoThird h10 := by
    obtain ⟨mc, hns, hno⟩ := hst
    have hT : cStatics ≠ T := ns_ne_table hns I.t
    obtain ⟨o, es, ep, e, r⟩ := hns
    exact ⟨mc, ⟨o, es, ep, keep10 _ _ hT e, r⟩, hno⟩
  have smn' : nA ≠ sysModules := beq_eq_false_iff_ne.mp smn
  refine type_call bt10 S10.d ls10 sa10 rfl (fun i hi => ⟨_, (fn10 i hi).1, rfl⟩) smn' hst10 fun h11 tk11 N K M tk1 tk2 tk3 k11 fK fN fM m1 m2 m3 oK oN oM => ?_
  try wp_delta
  refine wpAny_pure ?_
  have new : ∀ b, h10.get? b = none → h.get? b = none := fun b e => by
    cases q : h.get? b with
    | none => rfl
    | some o =>
      by_cases hb : b = T
      · rw [hb, inv10.t.2] at e; cases e
      · rw [keep10 b o hb q] at e; cases e
  have newF : ∀ i < 6, h.get? (fn i) = none := fun i hi => by
    obtain ⟨z0, z1, z2, _⟩ := F9 i hi
    cases q : h.get? (fn i) with
    | none => rfl
    | some o =>
      by_cases hb : fn i = T
      · rw [hb, q58 _ _ aT.symm (k5 _ _ t4.2)] at z0; cases z0
      · rw [q58 _ _ z1 (k5 _ _ (k4 _ _ hb (kk3 _ _ q)))] at z0; cases z0
  exact ret h11 tk11 K pt' (fun b o hb e => k11 _ _ (keep10 b o hb e)) (inv10.keeps k11) (new _ fK) ⟨⟨N, M, bt, ls, sa, _, _, tk1, tk2, tk3, _, _, mo, tm, _, _, fn, c, ct⟩, ⟨oK, new _ fK⟩, ⟨oN, new _ fN⟩, ⟨oM, new _ fM⟩, fun i hi => ⟨k11 _ _ (fn10 i hi).1, newF i hi, (fn10 i hi).2.keeps k11⟩⟩
end
end
section
open PySem PySem.W PyProof.Rows PySem.Calls PySem.Builtin PySem.W.X
set_option maxRecDepth 100000
theorem evalArgs1 {M : Model} {A : Around} {E : Value → Shared → Prop} {s : Shared} {env : Env} {f : Value} {e : Expr} {pos : Pos} {Q : Args → Shared → Prop} (h : wpAny M A (eval e env) (fun v s' => Q ⟨[v], []⟩ s') E s)
    (he : starEach [e] env = (false, eval e env) :: starEach [] env) :
    wpAny M A (evalArgs f false (backTo pos (starEach [e] env)) (backToKw pos (keywordEach [] env))) Q E s := by
  unfold evalArgs
  refine wpAny_bind (args_cons (wpAny_mono h (fun v s' hv => args_nil ?_) fun _ _ x => x) he)
  refine wpAny_bind (wpAny_pure ?_)
  refine wpAny_holding ?_
  try wp_delta
  refine wpAny_ite_true (by kernel_rfl) ?_
  refine wpAny_bind (wpAny_pure ?_)
  try wp_delta
  refine wpAny_bind (wpAny_pure ?_)
  exact wpAny_pure hv
theorem KInv.but {h h' : Heap} {cK T bm L : Addr} {pt : Array Value} {oL : Obj} (x : KInv h cK T bm pt) (hL : h.get? L = some oL) (hd : ∀ vs, oL.data ≠ .fields vs) (k : ∀ b o, b ≠ L → h.get? b = some o → h'.get? b = some o) : KInv h' cK T bm pt := by
  have ne : ∀ b o vs, h.get? b = some o → o.data = .fields vs → b ≠ L := fun b o vs e d q => by rw [q, hL] at e; cases e; exact hd _ d
  have kc : ∀ {c P : Addr} {ps : Array Value}, h.IsCode c P ps → h'.IsCode c P ps := by
    rintro c P ps ⟨o, vs, file, tf, flags, tg, inF, text, tt, op, ho, hd, h11, h2, h7, h9, h10, hop, hpd, r⟩
    exact ⟨o, vs, file, tf, flags, tg, inF, text, tt, op, k _ _ (ne _ _ _ ho hd) ho, hd, h11, h2, h7, h9, h10, k _ _ (ne _ _ _ hop hpd) hop, hpd, r⟩
  have kt : ∀ {c P : Addr} {ps : Array Value}, h.TableAt c P ps → h'.TableAt c P ps := by
    rintro c P ps ⟨⟨oc, vc, hoc, hcc, hdc, h11c⟩, hp⟩
    exact ⟨⟨oc, vc, k _ _ (ne _ _ _ hoc hdc) hoc, hcc, hdc, h11c⟩, k _ _ (ne _ _ _ hp rfl) hp⟩
  exact ⟨kc x.c, kt x.t, x.st.imp id fun ⟨cc, Pc, ps, h1, h2, h3, h4, r⟩ => ⟨cc, Pc, ps, h1, kc h2, kt h3, fun j hj => let ⟨c, a, b⟩ := h4 j hj; ⟨c, a, b.keepsBut k hL hd⟩, r⟩⟩
theorem fr_mk {h₀ h : Heap} {L : Addr} {m : Str → Option Value} (F : Fr h₀ L h m) : ∀ b o, h₀.get? b = some o → h.get? b = some o := F.keep
set_option maxHeartbeats 1000000 in
theorem key_c {prog : Program} {w : World} {A : Around} {R : Result → Shared → Prop} {h : Heap} {d : Drawn} {tk : Nat} {os : OsState} {fK fc cK T bm : Addr} {o ob : Obj} {pm doc vn : Value} {mg mb : Str → Option Value} {pt : Array Value}
    (r : Rm A 2) (ho : h.get? fK = some o) (hdata : o.data = .func (docDef (nameOf (stAt 13)) (prmOf (stAt 13)) (bodOf (stAt 13)) (scpOf (stAt 13)) pm (.ref cK) doc)) (hcd : h.CodeRec (.ref cK) (nameOf (stAt 13))) (lim : h.NoLimit) (X : Mk h mg bm ob) (hN : mg "__name__" = some vn)
    (hst : NoThird h) (sm : ∃ o, h.get? sysModules = some o) (I : KInv h cK T bm pt) (B : h.Ns builtinsNs mb) (bb : ∀ x : Str, x ≠ "__name__" → mb x = bootBuiltins x) (fo : mg "object" = none)
    (ret : ∀ h' tk' K C pt' oC, (∀ b o, b ≠ T → h.get? b = some o → h'.get? b = some o) → KInv h' cK T bm pt' → h.get? K = none → KF h h' w mg K C → h.get? C = none → h'.get? C = some oC → oC.data = .cell (some (.ref fc)) → R (.ok (.ret (.ref K))) ⟨h', #[], d, tk', os⟩) :
    codeAny (model prog w) A (.call (.ref fK) ⟨[.ref fc], []⟩) R ⟨h, #[], d, tk, os⟩ := by
  refine call_cellsN_ret (s := ⟨h, #[], d, tk, os⟩) (binds := [("mycmp", .ref fc)]) r.room ho hdata lim hcd rfl (kindsX rfl _) (by decide) (fun h₁ tk₁ cells F N Y => ?_) rfl rfl rfl
  have Y' : CellsAre _ [("mycmp", h.objs.size + 1)] cells := Y
  obtain ⟨oC, rfl, dC⟩ := Y'.one
  have dC' : oC.data = .cell (some (.ref fc)) := by rw [dC]; rfl
  clear dC Y Y'
  show wpAny _ _ _ _ _ ⟨h₁, #[], d, tk₁, os⟩
  refine wpAny_execs_cons ?_
  rw [arm_exec_ClassDef]
  refine wpAny_bind (wpAny_pure ?_)
  refine wpAny_bind (wpAny_standAt ?_)
  have B1 := B.keeps F.keep
  have hbc : mb "__build_class__" = some (.builtin "__build_class__") := by rw [bb _ (by decide +kernel)]; decide +kernel
  refine wpAny_bind ?_
  unfold buildClassGuard
  refine wpAny_bind (wpAny_nsGet B1 ?_)
  rw [hbc]
  refine wpAny_pure ?_
  have G1 := X.g.keeps F.keep
  refine wpAny_bind (wpAny_holding (wpAny_bind (evalArgs1 (Name_function_global rfl (by rfl) (loadGlobal_builtin (mg := mg) (mb := mb) G1 fo B1 ((bb _ (by decide +kernel)).trans (show bootBuiltins "object" = some (.type "object") by decide +kernel)) ?_) (by decide +kernel)) rfl)))
  refine wpAny_bind (wpAny_standAt (wpAny_holding ?_))
  have eq : qualnameIn (envOfC (nameOf (stAt 13)) (scpOf (stAt 13)) h.objs.size fK (Value.ref cK)) (Str.ofString "K") (Str.ofString "K") = qK := by kernel_rfl
  show wpAny _ _ (buildClass (Str.ofString "K") (qualnameIn (envOfC (nameOf (stAt 13)) (scpOf (stAt 13)) h.objs.size fK (Value.ref cK)) (Str.ofString "K") (Str.ofString "K")) [.type "object"] [] cbody cscope cstatics _ _ cpos none) _ _ ⟨h₁, #[], d, _, os⟩
  rw [eq]
  refine build_ok (C := h.objs.size + 1) (I.keeps F.keep) (X.keeps F.keep) hN (lim.keeps F.keep) (hst.keeps F.keep) (let ⟨o, e⟩ := sm; ⟨o, F.keep _ _ e⟩) (r.deeper (n := 1)).room rfl rfl (by kernel_rfl) fun h2 tk2 K pt' k2 inv2 fK2 kf2 => ?_
  refine wpAny_bind (wpAny_pure ?_)
  refine wpAny_bind (wpAny_standAt (wpAny_bind ?_))
  unfold bindName
  refine wpAny_bind (wpAny_holding (wpAny_point ?_))
  have LT : h.objs.size ≠ T := by
    have := Heap.lt_size I.t.2
    exact Nat.ne_of_gt this
  have ns2 : h2.Ns h.objs.size (bindL (envOfC (nameOf (stAt 13)) (scpOf (stAt 13)) h.objs.size fK (Value.ref cK)).kindOf [("mycmp", .ref fc)] fun _ => none) := by
    obtain ⟨o, es, ep, e, q⟩ := F.ns
    exact ⟨o, es, ep, k2 _ _ LT e, q⟩
  obtain ⟨oL, hL1, dL⟩ : ∃ oL, h₁.get? h.objs.size = some oL ∧ ∀ vs, oL.data ≠ .fields vs := by
    obtain ⟨o, es, ep, e, hd, _⟩ := F.ns
    exact ⟨o, e, fun vs q => by rw [hd] at q; cases q⟩
  have hL2 := k2 _ _ LT hL1
  refine wpAny_bind (wpAny_storeName_local (env := envOfC (nameOf (stAt 13)) (scpOf (stAt 13)) h.objs.size fK (Value.ref cK)) rfl ns2 (fun h3 hn3 hs3 => ?_) (by rfl))
  refine wpAny_point (wpAny_pure ?_)
  have k3 : ∀ b o, b ≠ h.objs.size → h2.get? b = some o → h3.get? b = some o := fun b o hb e => (hs3.2 b hb).trans e
  refine wpAny_execs_cons (wpAny_Return_some (wpAny_Name (wpAny_loadName_local (env := envOfC (nameOf (stAt 13)) (scpOf (stAt 13)) h.objs.size fK (Value.ref cK)) rfl rfl hn3 (if_pos rfl) ?_) (by decide +kernel)))
  have old : ∀ b o, h.get? b = some o → b ≠ h.objs.size := fun b o e => Nat.ne_of_lt (Heap.lt_size e)
  have cN := N _ (.head _)
  have cT : h.objs.size + 1 ≠ T := by
    have := Heap.lt_size I.t.2
    exact Nat.ne_of_gt (Nat.lt_succ_of_lt this)
  refine ret h3 _ K (h.objs.size + 1) pt' oC (fun b o hb e => k3 _ _ (old _ _ e) (k2 _ _ hb (F.keep _ _ e))) (inv2.but hL2 dL k3) ?_ ((kf2.but hL1 hL2 dL k3).base F.keep) cN.2.2 (k3 _ _ cN.2.1 (k2 _ _ cT cN.1)) dC'
  cases e : h.get? K with
  | none => rfl
  | some o => rw [F.keep _ _ e] at fK2; cases fK2
end
section
open PySem PySem.W PyProof.Rows PySem.Calls PySem.Builtin PySem.W.X
set_option maxRecDepth 100000
section
variable {F : Frag} {K N M f ls sa : Addr} {sl : Array (Option Value)} {of : Obj} {hs : Nat → Int} {ts : Nat → Tok} {vm vl : Value} {q : Str} {tq tk1 tk2 tk3 : Tok} {fn : Nat → Addr} {a1 a2 : Int}
noncomputable abbrev kents (hs : Nat → Int) (ts : Nat → Tok) (vm vl : Value) (q : Str) (tq : Tok) (ls sa : Addr) (fn : Nat → Addr) (a1 a2 : Int) (tk2 tk3 : Tok) (M : Addr) : List DictEntry := (kes hs ts vm vl q tq ls sa fn).eraseIdx 1 ++ [⟨a1, .str "obj" tk2, .ref M⟩, ⟨a2, .str "__doc__" tk3, .none⟩]
theorem findN {nm : Str} {v : Value} (hK : F.lookup K = some (kObj K N sl)) (hn : nsIn F N nm = some (some v)) : findIn F (.ref K) nm = some (some v) := by
  simp only [findIn, hK]
  show alongIn F nm [.ref K, .type "object"] = _
  have e : ownIn F nm (.ref K) = nsIn F N nm := by simp only [ownIn, hK]; rfl
  unfold alongIn
  rw [e]
  show (match nsIn F N nm with | some (some v) => some (some v) | some none => alongIn F nm [.type "object"] | none => none) = _
  rw [hn]
theorem findO {nm : Str} {r : Option Value} (hK : F.lookup K = some (kObj K N sl)) (hn : nsIn F N nm = some none) (ho : fastBuiltinOwn "object" nm = r) : findIn F (.ref K) nm = some r := by
  simp only [findIn, hK]
  show alongIn F nm [.ref K, .type "object"] = _
  have e : ownIn F nm (.ref K) = nsIn F N nm := by simp only [ownIn, hK]; rfl
  unfold alongIn
  rw [e]
  show (match nsIn F N nm with | some (some v) => some (some v) | some none => alongIn F nm [.type "object"] | none => none) = _
  rw [hn]
  show (match some (fastBuiltinOwn "object" nm) with | some (some v) => some (some v) | some none => alongIn F nm [] | none => none) = _
  rw [ho]
  cases r <;> rfl
variable (hK : F.lookup K = some (kObj K N sl)) (hN : F.lookup N = some (kdict (kents hs ts vm vl q tq ls sa fn a1 a2 tk2 tk3 M) 3)) (hM : F.lookup M = some (kmd K tk1)) (hf : F.lookup f = some of) (hfc : of.cls = .type "function")
include hN in
theorem ns_init : nsIn F N "__init__" = some (some (.ref (fn 0))) := by unfold nsIn; rw [hN]; kernel_rfl
include hN in
theorem ns_lt : nsIn F N "__lt__" = some (some (.ref (fn 1))) := by unfold nsIn; rw [hN]; kernel_rfl
include hN in
theorem ns_obj : nsIn F N "obj" = some (some (.ref M)) := by unfold nsIn; rw [hN]; kernel_rfl
include hN in
theorem ns_ga : nsIn F N "__getattribute__" = some none := by unfold nsIn; rw [hN]; kernel_rfl
include hN in
theorem ns_gt : nsIn F N "__getattr__" = some none := by unfold nsIn; rw [hN]; kernel_rfl
include hN in
theorem ns_sa : nsIn F N "__setattr__" = some none := by unfold nsIn; rw [hN]; kernel_rfl
include hK hN in
theorem f_init : findIn F (.ref K) "__init__" = some (some (.ref (fn 0))) := findN hK (ns_init hN)
include hK hN in
theorem f_lt : findIn F (.ref K) "__lt__" = some (some (.ref (fn 1))) := findN hK (ns_lt hN)
include hK hN in
theorem f_obj : findIn F (.ref K) "obj" = some (some (.ref M)) := findN hK (ns_obj hN)
include hK hN in
theorem f_ga : findIn F (.ref K) "__getattribute__" = some (some (.builtin "object.__getattribute__")) := findO hK (ns_ga hN) (by kernel_rfl)
include hK hN in
theorem f_gt : findIn F (.ref K) "__getattr__" = some none := findO hK (ns_gt hN) (by kernel_rfl)
include hK hN in
theorem f_sa : findIn F (.ref K) "__setattr__" = some (some (.builtin "object.__setattr__")) := findO hK (ns_sa hN) (by kernel_rfl)
include hK in
theorem k_cls : clsIn F K = some { name := ⟨#[75]⟩, bases := [.type "object"], mro := [.ref K, .type "object"], ns := N, qualname := qK, hasDict := false, slotNames := [⟨#[111, 98, 106]⟩] } := by unfold clsIn; rw [hK]; rfl
include hK in
theorem k_over : plainOver F K = true := by unfold plainOver; rw [k_cls hK]; kernel_rfl
include hf hfc in
theorem k_fty : typeIn F (.ref f) = some (.type "function") := by simp only [typeIn, hf, Option.map_some, hfc]
include hM in
theorem k_mty : typeIn F (.ref M) = some (.type "member_descriptor") := by simp only [typeIn, hM]; rfl
include hM in
theorem k_mset : takesIn F (.ref M) = some true := by
  unfold takesIn specialIn
  rw [k_mty hM]
  kernel_rfl
include hK hN hM in
theorem k_taker : takerIn F K "obj" = some (some (.ref M)) := by
  unfold takerIn
  rw [f_obj hK hN, Option.bind_some]
  show (takesIn F (.ref M)).map _ = _
  rw [k_mset hM]
  rfl
include hK hM in
theorem k_slot : slotIn F M K = some 0 := by
  unfold slotIn recIn
  rw [hM, k_cls hK]
  show (if _ then some 0 else none) = some 0
  refine if_pos ?_
  simp
include hK hN hM in
theorem k_find : findObj F K (some emptyDict) "obj" = some (.bind (.builtin "member_descriptor.__get__") (.ref M)) := by
  unfold findObj
  rw [k_cls hK, Option.bind_some, f_obj hK hN, Option.bind_some]
  have e : specialIn F (.ref M) "__get__" = some (some (.builtin "member_descriptor.__get__")) := by
    unfold specialIn
    rw [k_mty hM]
    kernel_rfl
  show (specialIn F (.ref M) "__get__").bind _ = _
  rw [e, Option.bind_some]
  show (takesIn F (.ref M)).bind _ = _
  rw [k_mset hM]
  rfl
end
end
section
open PySem PySem.W PyProof.Rows PySem.Calls PySem.Builtin PySem.W.X
set_option maxRecDepth 100000
noncomputable def ksl (bt : Addr) (t1 tq : Tok) : Array (Option Value) := #[some (.ref bt), none, some (.str "K" t1), some (.str qK tq), some (.builtin "object.__new__"), some (.bool false)]
section
variable {F : Frag} {K N M f ls sa bt : Addr} {of : Obj} {hs : Nat → Int} {ts : Nat → Tok} {vm vl : Value} {q : Str} {tq t1 tq' tk1 tk2 tk3 : Tok} {fn : Nat → Addr} {a1 a2 : Int}
variable (hK : F.lookup K = some (kObj K N (ksl bt t1 tq'))) (hN : F.lookup N = some (kdict (kents hs ts vm vl q tq ls sa fn a1 a2 tk2 tk3 M) 3)) (hM : F.lookup M = some (kmd K tk1)) (hf : F.lookup f = some of) (hfc : of.cls = .type "function")
include hK in
theorem k_kty : typeIn F (.ref K) = some (.type "type") := by simp only [typeIn, hK]; rfl
include hK in
theorem k_call : specialIn F (.ref K) "__call__" = some (some (.builtin "type.__call__")) := by
  unfold specialIn
  rw [k_kty hK]
  kernel_rfl
include hK in
theorem k_inst : instIn F (.ref K) (.type "type") = some true := by
  unfold instIn
  rw [k_kty hK]
  kernel_rfl
include hK in
theorem k_makes : makesIn F K = true := by
  simp only [makesIn, hK, kObj]
  rw [k_call hK, k_inst hK]
  simp [ksl]
end
noncomputable def kinst (K dx : Addr) (v : Value) : Obj := ⟨.ref K, some dx, .plain, #[some v]⟩
theorem bind_init {ct pm v : Value} {x c : Addr} : bindArgs { name := nameOf (kst 0), qualname := kqual 0, params := prmOf (kst 0), body := .stmts (bodOf (kst 0)), scope := scpOf (kst 0), globals := mainGlobals, closure := [], closureTuple := ct, defaults := .none, kwdefaults := .none, pyModule := pm, code := .ref c, builtins := builtinsNs } ⟨[.ref x, v], []⟩ = pure [(Str.ofString "self", .ref x), (Str.ofString "obj", v)] := by kernel_rfl
theorem cell0 : ∀ x ∈ (scpOf (kst 0)).names, x.2 ≠ .cell := by decide +kernel
theorem loc0 {x v : Value} : ∀ y ∈ [(Str.ofString "self", x), (Str.ofString "obj", v)], (scpOf (kst 0)).names.lookup y.1 = some .local := by
  refine List.forall_mem_cons.mpr ⟨?_, List.forall_mem_cons.mpr ⟨?_, fun _ h => nomatch h⟩⟩
  · show (scpOf (kst 0)).names.lookup (Str.ofString "self") = some .local
    decide +kernel
  · show (scpOf (kst 0)).names.lookup (Str.ofString "obj") = some .local
    decide +kernel
section
variable {prog : Program} {w : World} {A : Around} {R : Result → Shared → Prop} {h : Heap} {d : Drawn} {tk : Nat} {os : OsState} {F : Frag} {K N M ls sa bt c : Addr} {hs : Nat → Int} {ts : Nat → Tok} {vm vl ct pm v : Value} {q : Str} {tq t1 tq' tk1 tk2 tk3 : Tok} {fn : Nat → Addr} {a1 a2 : Int} {g : Array GenState}
set_option maxHeartbeats 1000000 in
theorem mk_c (r : Rm A 3) (X : F.In h) (hK : F.lookup K = some (kObj K N (ksl bt t1 tq'))) (hN : F.lookup N = some (kdict (kents hs ts vm vl q tq ls sa fn a1 a2 tk2 tk3 M) 3)) (hM : F.lookup M = some (kmd K tk1))
    (hf : F.lookup (fn 0) = some (fnObj (nameOf (kst 0)) (kqual 0) (prmOf (kst 0)) (bodOf (kst 0)) (scpOf (kst 0)) [] ct pm c)) (hcd : h.CodeRec (.ref c) (kqual 0)) (lim : h.NoLimit)
    (ret : ∀ x dx h' tk', (∀ b o, h.get? b = some o → h'.get? b = some o) → h.get? x = none → h.get? dx = none → x ≠ dx → h'.get? x = some (kinst K dx v) → h'.get? dx = some emptyDict → R (.ok (.ret (.ref x))) ⟨h', g, d, tk', os⟩) :
    codeAny (model prog w) A (.call (.ref K) ⟨[v], []⟩) R ⟨h, g, d, tk, os⟩ := by
  have hty := k_fty hf rfl
  refine make_core (makes_of X (k_makes hK)) (looks_findIn X (f_init hK hN)) (fun self => bind_fn X self hty) (.inl rfl) ?_
  have k2 : ∀ b o, h.get? b = some o → ((h.push emptyDict).push (instObj K h.objs.size)).get? b = some o := fun b o e => Heap.get?_push_of_some _ (Heap.get?_push_of_some _ e)
  have hx2 : ((h.push emptyDict).push (instObj K h.objs.size)).get? (h.objs.size + 1) = some (instObj K h.objs.size) := by
    rw [← Heap.size_push (h := h) (o := emptyDict)]; exact Heap.get?_push_size _ rfl
  have hd2 : ((h.push emptyDict).push (instObj K h.objs.size)).get? h.objs.size = some emptyDict := Heap.get?_push_of_some _ (Heap.get?_push_size _ rfl)
  have hsz : ((h.push emptyDict).push (instObj K h.objs.size)).objs.size = h.objs.size + 1 + 1 := by rw [Heap.size_push, Heap.size_push]
  have no : ∀ b, h.objs.size ≤ b → h.get? b = none := fun b hb => by
    cases e : h.get? b with
    | none => rfl
    | some o => exact absurd (Heap.lt_size e) (Nat.not_lt.mpr hb)
  generalize (h.push emptyDict).push (instObj K h.objs.size) = h2 at *
  have room : (A.under (.builtin "type.__call__" ⟨[.ref K, v], []⟩)).depth < recursionLimit := by
    have := r.dp
    show A.depth + 1 < 1000
    lia
  refine codeAny_call_def room (k2 _ _ (X _ _ hf)) rfl (lim.keeps k2) (hcd.keeps k2) rfl (BindsTo.of_eq bind_init) cell0 loc0 (fun h3 hns k3 => ?_)
  have Fr3 : Fr h h2.objs.size h3 (fun x => [(Str.ofString "self", Value.ref (h.objs.size + 1)), (Str.ofString "obj", v)].reverse.lookup x) := ⟨hns, fun b o e => k3 _ _ (k2 _ _ e), by rw [hsz]; lia⟩
  have N3 : News h h2.objs.size h3 ([] ++ (h.objs.size + 1, instObj K h.objs.size) :: [(h.objs.size, emptyDict)]) := by
    intro p hp
    rcases List.mem_cons.mp hp with rfl | hp
    · exact ⟨k3 _ _ hx2, by show h.objs.size + 1 ≠ h2.objs.size; rw [hsz]; lia, no _ (Nat.le_succ _)⟩
    · rcases List.mem_cons.mp hp with rfl | hp
      · exact ⟨k3 _ _ hd2, by show h.objs.size ≠ h2.objs.size; rw [hsz]; lia, no _ (Nat.le_refl _)⟩
      · cases hp
  have I3 : InstAt h3 (h.objs.size + 1) (instObj K h.objs.size) K (some emptyDict) := ⟨k3 _ _ hx2, rfl, rfl, k3 _ _ hd2⟩
  have X3 : F.In h3 := X.keeps fun b o e => k3 _ _ (k2 _ _ e)
  show wpAny _ _ _ _ _ ⟨h3, g, d, _, os⟩
  refine wpAny_execs_cons (plainObj_wpAny_Assign_Attribute ?_)
  refine ldc (by kernel_rfl) (by kernel_rfl) hns (v := v) (by kernel_rfl) ?_ (by decide +kernel)
  refine ldc (by kernel_rfl) (by kernel_rfl) hns (v := .ref (h.objs.size + 1)) (by kernel_rfl) ?_ (by decide +kernel)
  unfold setAttr
  refine wpAny_bind (wpAny_mkText (wpAny_bind ?_))
  unfold callSpecial?
  refine wpAny_bind ?_
  unfold specialOf
  refine wpAny_bind ((I3.type).here ?_)
  refine (looks_findIn X3 (f_sa hK hN)).here ?_
  refine wpAny_holding ?_
  refine wpAny_bind (wpAny_of_eq (PySem.F.store_object.slot.bind _) ?_)
  refine wpAny_bind (wpAny_call ?_)
  refine osa_descr KF.slot_mset X3 I3 (k_over hK) (k_taker hK hN hM) (k_mty hM) ?_
  refine slot_set (pre := []) (ox' := kinst K h.objs.size v) Fr3 N3 X3 I3 (k_slot hK hM) (by decide) (fun _ h => nomatch h) (fun p hp => ?_) (by kernel_rfl) rfl (fun h4 F4 N4 => ?_)
  · rcases List.mem_cons.mp hp with rfl | hp
    · exact Nat.ne_of_lt (Nat.lt_succ_self _)
    · cases hp
  refine wpAny_pure ?_
  refine wpAny_pure ?_
  refine wpAny_execs_nil ?_
  refine ⟨rfl, ?_⟩
  exact ret _ h.objs.size h4 _ F4.keep (no _ (Nat.le_succ _)) (no _ (Nat.le_refl _)) (Nat.succ_ne_self _) (N4 _ (.head _)).1 (N4 _ (.tail _ (.head _))).1
end
end
section
open PySem PySem.W PyProof.Rows PySem.Calls PySem.Builtin PySem.W.X
set_option maxRecDepth 100000
theorem bind_lt {cl : List (Str × Addr)} {ct pm a b : Value} {c : Addr} : bindArgs { name := nameOf (kst 1), qualname := kqual 1, params := prmOf (kst 1), body := .stmts (bodOf (kst 1)), scope := scpOf (kst 1), globals := mainGlobals, closure := cl, closureTuple := ct, defaults := .none, kwdefaults := .none, pyModule := pm, code := .ref c, builtins := builtinsNs } ⟨[a, b], []⟩ = pure [(Str.ofString "self", a), (Str.ofString "other", b)] := by kernel_rfl
theorem cell1 : ∀ x ∈ (scpOf (kst 1)).names, x.2 ≠ .cell := by decide +kernel
theorem loc1 {x v : Value} : ∀ y ∈ [(Str.ofString "self", x), (Str.ofString "other", v)], (scpOf (kst 1)).names.lookup y.1 = some .local := by
  refine List.forall_mem_cons.mpr ⟨?_, List.forall_mem_cons.mpr ⟨?_, fun _ h => nomatch h⟩⟩
  · show (scpOf (kst 1)).names.lookup (Str.ofString "self") = some .local
    decide +kernel
  · show (scpOf (kst 1)).names.lookup (Str.ofString "other") = some .local
    decide +kernel
section
variable {prog : Program} {w : World} {A : Around} {h : Heap} {d : Drawn} {tk : Nat} {os : OsState} {F : Frag} {K N M ls sa bt c : Addr} {hs : Nat → Int} {ts : Nat → Tok} {vm vl ct pm v : Value} {q : Str} {tq t1 tq' tk1 tk2 tk3 : Tok} {fn : Nat → Addr} {a1 a2 : Int} {g : Array GenState} {Q E : Value → Shared → Prop}
/-- `x.obj` of an instance of K -/
theorem obj_get {x dx : Addr} {expr : Bool} (X : F.In h) (hK : F.lookup K = some (kObj K N (ksl bt t1 tq'))) (hN : F.lookup N = some (kdict (kents hs ts vm vl q tq ls sa fn a1 a2 tk2 tk3 M) 3)) (hM : F.lookup M = some (kmd K tk1))
    (hx : h.get? x = some (kinst K dx v)) (hdx : h.get? dx = some emptyDict) (hv : handedIn v = true) (hq : Q v ⟨h, g, d, tk + 1, os⟩) : wpAny (model prog w) A (getAttr (.ref x) "obj" expr) Q E ⟨h, g, d, tk, os⟩ := by
  have I : InstAt h x (kinst K dx v) K (some emptyDict) := ⟨hx, rfl, rfl, hdx⟩
  refine get_bind X I (f_ga hK hN) (k_find hK hN hM) (f_gt hK hN) ?_
  refine wpAny_call ?_
  refine slot_get X I (k_slot hK hM) (v := v) rfl ?_
  show wpAny _ _ (handedOut v) _ _ _
  rw [handedOut_of hv]
  exact wpAny_pure hq
set_option maxHeartbeats 1000000 in
theorem lt_c {x y dx dy a b C fc : Addr} {oC : Obj} {xs ys : List Value} {n1 n2 : Nat} {ix iy : It} {mg mb : Str → Option Value} {fa : Nat → Addr} (r : Rm A 10) (X : F.In h) (hK : F.lookup K = some (kObj K N (ksl bt t1 tq'))) (hN : F.lookup N = some (kdict (kents hs ts vm vl q tq ls sa fn a1 a2 tk2 tk3 M) 3)) (hM : F.lookup M = some (kmd K tk1))
    (hf : F.lookup (fn 1) = some (fnObj (nameOf (kst 1)) (kqual 1) (prmOf (kst 1)) (bodOf (kst 1)) (scpOf (kst 1)) [(Str.ofString "mycmp", C)] ct pm c)) (hcd : h.CodeRec (.ref c) (kqual 1)) (T : G mg mb fa h) (XF : FnAt h fc 19)
    (hC : h.get? C = some oC) (dC : oC.data = .cell (some (.ref fc))) (hx : h.get? x = some (kinst K dx (.ref a))) (hdx : h.get? dx = some emptyDict) (hy : h.get? y = some (kinst K dy (.ref b))) (hdy : h.get? dy = some emptyDict)
    (ha : h.get? a = some (W.listOf xs.toArray n1)) (hix : ItemA xs ix) (hb : h.get? b = some (W.listOf ys.toArray n2)) (hiy : ItemA ys iy) (hz : ix.name.length < 2 ^ 20) (hz2 : iy.name.length < 2 ^ 20)
    (ret : ∀ h' tk', (∀ b o, h.get? b = some o → h'.get? b = some o) → Q (.bool (ilt ix iy)) ⟨h', g, d, tk', os⟩) :
    wpAny (model prog w) A (compareOp .Lt (.ref x) (.ref y)) Q E ⟨h, g, d, tk, os⟩ := by
  have hty := k_fty hf rfl
  have Ix : InstAt h x (kinst K dx (.ref a)) K (some emptyDict) := ⟨hx, rfl, rfl, hdx⟩
  have Iy : InstAt h y (kinst K dy (.ref b)) K (some emptyDict) := ⟨hy, rfl, rfl, hdy⟩
  refine cmp_ofLt ?_
  unfold richCompare
  refine wpAny_holding ?_
  refine wpAny_bind (wpAny_cRoomFor_or (.inr r.units) ?_)
  try wp_delta
  refine wpAny_bind (Ix.type.here ?_)
  refine wpAny_bind (Iy.type.here ?_)
  try wp_delta
  refine wpAny_ite_false (by simp) ?_
  try wp_delta
  refine wpAny_bind (wpAny_pure ?_)
  try wp_delta
  refine wpAny_ite_false rfl ?_
  try wp_delta
  refine wpAny_bind ?_
  unfold tryCompare
  refine wpAny_bind ?_
  unfold callSpecialIfBound?
  refine wpAny_holding (wpAny_bind ?_)
  unfold bindSpecialIfBound?
  refine wpAny_bind ?_
  unfold specialOf
  refine wpAny_bind (Ix.type.here ?_)
  refine (looks_findIn X (f_lt hK hN)).here ?_
  try wp_delta
  have key : ∀ Q' : Option (Value × List Value) → Shared → Prop, Q' (some (.ref (fn 1), [.ref x])) ⟨h, g, d, tk, os⟩ → wpAny (model prog w) A (do
      let b ← bindSpecial (.ref (fn 1)) (.ref x)
      pure (some b)) Q' E ⟨h, g, d, tk, os⟩ := fun Q' hq => wpAny_bind ((bind_fn X _ hty).here (wpAny_pure hq))
  refine wpAny_bind (wpAny_askSetting ?_)
  refine wpAny_mono (Q := fun r s' => r = some (.ref (fn 1), [.ref x]) ∧ s' = ⟨h, g, d, tk, os⟩) (E := E) ?_ (fun r s' hr => ?_) fun _ _ e => e
  · exact wpAny_ite_split (fun _ => key _ ⟨rfl, rfl⟩) fun _ => wpAny_tryCatch (wpAny_bind ((bind_fn X _ hty).here (wpAny_pure ⟨rfl, rfl⟩)))
  obtain ⟨rfl, rfl⟩ := hr
  obtain ⟨oF, pm', cd', doc', f1, f2, f3⟩ := XF
  have XF : FnAt h fc 19 := ⟨oF, pm', cd', doc', f1, f2, f3⟩
  show wpAny _ _ (do let v ← call (.ref (fn 1)) [.ref x, .ref y]; pure (some v)) _ _ _
  refine wpAny_bind (wpAny_call (codeAny_call_def r.room (X _ _ hf) rfl T.nolimit hcd rfl (BindsTo.of_eq bind_lt) cell1 loc1 (fun h3 hns k3 => ?_)))
  have X3 : F.In h3 := X.keeps k3
  show wpAny _ _ _ _ _ ⟨h3, g, d, _, os⟩
  refine wpAny_execs_cons (wpAny_Return_some (wpAny_Compare1 (Call_ ?_ rfl) rfl))
  refine wpAny_Name (wpAny_loadName_free (v := .ref fc) (by kernel_rfl) (by kernel_rfl) (by kernel_rfl) ⟨oC, k3 _ _ hC, dC⟩ ?_) (by decide +kernel)
  refine callWith_def f2 (args_cons (Attribute_name ?_) rfl) rfl
  refine ldc (by kernel_rfl) (by kernel_rfl) hns (v := .ref x) (by kernel_rfl) ?_ (by decide +kernel)
  refine obj_get X3 hK hN hM (k3 _ _ hx) (k3 _ _ hdx) rfl ?_
  refine args_cons (Attribute_name ?_) rfl
  refine ldc (by kernel_rfl) (by kernel_rfl) hns (v := .ref y) (by kernel_rfl) ?_ (by decide +kernel)
  refine obj_get X3 hK hN hM (k3 _ _ hy) (k3 _ _ hdy) rfl ?_
  refine args_nil ⟨k3 _ _ f1, ?_⟩
  refine wpAny_call ?_
  refine compare_c (s := ⟨h3, g, d, _, os⟩) ((r.deeper (n := 9)).mono (by decide)) (T.keeps k3) (XF.keeps k3) (k3 _ _ ha) hix (k3 _ _ hb) hiy hz hz2 fun h4 tk4 k t k4 hk => ?_
  refine wpAny_Constant_int ?_
  refine lt_int ?_
  show wpAny _ _ (pure (some (Value.bool (decide (k < 0))))) _ _ _
  refine wpAny_pure ?_
  try wp_delta
  refine wpAny_pure ?_
  try wp_delta
  refine wpAny_pure ?_
  have e : decide (k < 0) = ilt ix iy := by
    cases q : ilt ix iy with
    | true => exact decide_eq_true (hk.mpr q)
    | false => exact decide_eq_false fun z => by rw [hk.mp z] at q; cases q
  rw [e]
  exact ret h4 _ fun b o e => k4 _ _ (k3 _ _ e)
end
end
section
open PySem PySem.W PyProof.Rows PySem.Calls PySem.Builtin PySem.W.X
set_option maxRecDepth 100000
theorem frag4 {h : Heap} {a b c e : Addr} {oa ob oc oe : Obj} (ha : h.get? a = some oa) (hb : h.get? b = some ob) (hc : h.get? c = some oc) (he : h.get? e = some oe) : Frag.In [(a, oa), (b, ob), (c, oc), (e, oe)] h := by
  intro x o q
  rw [List.lookup_cons] at q
  split at q
  · rename_i z; cases q; rw [beq_iff_eq.mp z]; exact ha
  rw [List.lookup_cons] at q
  split at q
  · rename_i z; cases q; rw [beq_iff_eq.mp z]; exact hb
  rw [List.lookup_cons] at q
  split at q
  · rename_i z; cases q; rw [beq_iff_eq.mp z]; exact hc
  rw [List.lookup_cons] at q
  split at q
  · rename_i z; cases q; rw [beq_iff_eq.mp z]; exact he
  · cases q
theorem apart {h : Heap} {a b : Addr} {oa ob : Obj} (ha : h.get? a = some oa) (hb : h.get? b = some ob) (hc : oa.cls ≠ ob.cls) : a ≠ b := fun e => by rw [e, hb] at ha; cases ha; exact hc rfl
theorem look4 {a b c e : Addr} {oa ob oc oe : Obj} (h1 : b ≠ a) (h2 : c ≠ a) (h3 : c ≠ b) (h4 : e ≠ a) (h5 : e ≠ b) (h6 : e ≠ c) : List.lookup a [(a, oa), (b, ob), (c, oc), (e, oe)] = some oa ∧ List.lookup b [(a, oa), (b, ob), (c, oc), (e, oe)] = some ob ∧
    List.lookup c [(a, oa), (b, ob), (c, oc), (e, oe)] = some oc ∧ List.lookup e [(a, oa), (b, ob), (c, oc), (e, oe)] = some oe := by
  have e : ∀ {x y : Addr}, x ≠ y → (x == y) = false := fun h => beq_eq_false_iff_ne.mpr h
  refine ⟨?_, ?_, ?_, ?_⟩ <;> simp only [List.lookup_cons, beq_self_eq_true, e h1, e h2, e h3, e h4, e h5, e h6]
/-- the class K over the cell C, as far as K(x) and x < y need it -/
noncomputable def KG (h : Heap) (w : World) (mg : Str → Option Value) (K C : Addr) : Prop :=
  ∃ y : KD,
    h.get? K = some (kObj K y.N (ksl y.bt y.t1 y.tq)) ∧ h.get? y.N = some (kdict (kents y.hs y.ts (.str y.mo y.tm) (.int y.fl y.ftk) qK y.tq y.ls y.sa y.fn (kh w "obj") (kh w "__doc__") y.tk2 y.tk3 y.M) 3) ∧ h.get? y.M = some (kmd K y.tk1) ∧
    (h.get? (y.fn 0) = some (fnObj (nameOf (kst 0)) (kqual 0) (prmOf (kst 0)) (bodOf (kst 0)) (scpOf (kst 0)) [] (y.ct 0) ((mg "__name__").getD .none) (y.c 0)) ∧ h.CodeRec (.ref (y.c 0)) (kqual 0)) ∧
    (h.get? (y.fn 1) = some (fnObj (nameOf (kst 1)) (kqual 1) (prmOf (kst 1)) (bodOf (kst 1)) (scpOf (kst 1)) [(Str.ofString "mycmp", C)] (y.ct 1) ((mg "__name__").getD .none) (y.c 1)) ∧ h.CodeRec (.ref (y.c 1)) (kqual 1))
section
variable {prog : Program} {w : World} {A : Around} {h₀ h : Heap} {d : Drawn} {tk : Nat} {os : OsState} {K C : Addr} {mg mb : Str → Option Value} {g : Array GenState} {fa : Nat → Addr}
theorem kf_mk {v : Value} {R : Result → Shared → Prop} (Y : KG h w mg K C) (r : Rm A 3) (lim : h.NoLimit)
    (ret : ∀ x dx h' tk', (∀ b o, h.get? b = some o → h'.get? b = some o) → h.get? x = none → h.get? dx = none → x ≠ dx → h'.get? x = some (kinst K dx v) → h'.get? dx = some emptyDict → R (.ok (.ret (.ref x))) ⟨h', g, d, tk', os⟩) :
    codeAny (model prog w) A (.call (.ref K) ⟨[v], []⟩) R ⟨h, g, d, tk, os⟩ := by
  obtain ⟨y, h1, h2, h3, h4⟩ := Y
  obtain ⟨⟨h5, h6⟩, _⟩ := h4
  have n1 := apart h2 h1 (fun q => absurd (Value.type.inj q) (by decide))
  have n2 := apart h3 h1 (fun q => absurd (Value.type.inj q) (by decide))
  have n3 := apart h3 h2 (fun q => absurd (Value.type.inj q) (by decide))
  have n4 := apart h5 h1 (fun q => absurd (Value.type.inj q) (by decide))
  have n5 := apart h5 h2 (fun q => absurd (Value.type.inj q) (by decide))
  have n6 := apart h5 h3 (fun q => absurd (Value.type.inj q) (by decide))
  obtain ⟨l1, l2, l3, l4⟩ := look4 (oa := kObj K y.N (ksl y.bt y.t1 y.tq)) (ob := kdict (kents y.hs y.ts (.str y.mo y.tm) (.int y.fl y.ftk) qK y.tq y.ls y.sa y.fn (kh w "obj") (kh w "__doc__") y.tk2 y.tk3 y.M) 3) (oc := kmd K y.tk1)
    (oe := fnObj (nameOf (kst 0)) (kqual 0) (prmOf (kst 0)) (bodOf (kst 0)) (scpOf (kst 0)) [] (y.ct 0) ((mg "__name__").getD .none) (y.c 0)) n1 n2 n3 n4 n5 n6
  exact mk_c r (frag4 h1 h2 h3 h5) l1 l2 l3 l4 h6 lim ret
theorem kf_lt {x y dx dy a b fc : Addr} {oC : Obj} {xs ys : List Value} {n1 n2 : Nat} {ix iy : It} {Q E : Value → Shared → Prop} (Y : KG h w mg K C) (r : Rm A 10) (T : G mg mb fa h) (XF : FnAt h fc 19)
    (hC : h.get? C = some oC) (dC : oC.data = .cell (some (.ref fc))) (hx : h.get? x = some (kinst K dx (.ref a))) (hdx : h.get? dx = some emptyDict) (hy : h.get? y = some (kinst K dy (.ref b))) (hdy : h.get? dy = some emptyDict)
    (ha : h.get? a = some (W.listOf xs.toArray n1)) (hix : ItemA xs ix) (hb : h.get? b = some (W.listOf ys.toArray n2)) (hiy : ItemA ys iy) (hz : ix.name.length < 2 ^ 20) (hz2 : iy.name.length < 2 ^ 20)
    (ret : ∀ h' tk', (∀ b o, h.get? b = some o → h'.get? b = some o) → Q (.bool (ilt ix iy)) ⟨h', g, d, tk', os⟩) :
    wpAny (model prog w) A (compareOp .Lt (.ref x) (.ref y)) Q E ⟨h, g, d, tk, os⟩ := by
  obtain ⟨y, h1, h2, h3, h4⟩ := Y
  obtain ⟨_, h5, h6⟩ := h4
  have m1 := apart h2 h1 (fun q => absurd (Value.type.inj q) (by decide))
  have m2 := apart h3 h1 (fun q => absurd (Value.type.inj q) (by decide))
  have m3 := apart h3 h2 (fun q => absurd (Value.type.inj q) (by decide))
  have m4 := apart h5 h1 (fun q => absurd (Value.type.inj q) (by decide))
  have m5 := apart h5 h2 (fun q => absurd (Value.type.inj q) (by decide))
  have m6 := apart h5 h3 (fun q => absurd (Value.type.inj q) (by decide))
  obtain ⟨l1, l2, l3, l4⟩ := look4 (oa := kObj K y.N (ksl y.bt y.t1 y.tq)) (ob := kdict (kents y.hs y.ts (.str y.mo y.tm) (.int y.fl y.ftk) qK y.tq y.ls y.sa y.fn (kh w "obj") (kh w "__doc__") y.tk2 y.tk3 y.M) 3) (oc := kmd K y.tk1)
    (oe := fnObj (nameOf (kst 1)) (kqual 1) (prmOf (kst 1)) (bodOf (kst 1)) (scpOf (kst 1)) [(Str.ofString "mycmp", C)] (y.ct 1) ((mg "__name__").getD .none) (y.c 1)) m1 m2 m3 m4 m5 m6
  exact lt_c r (frag4 h1 h2 h3 h5) l1 l2 l3 l4 h6 T XF hC dC hx hdx hy hdy ha hix hb hiy hz hz2 ret
end
end
section
open PySem PySem.W PyProof.Rows PySem.Calls PySem.Builtin PySem.W.X
set_option maxRecDepth 100000
/-- X holds of each heap that has the objects of a list of h; those are new to h₀ or records -/
noncomputable def Supp (h₀ : Heap) (X : Heap → Prop) (h : Heap) : Prop := ∃ l : Nw, (∀ p ∈ l, h.get? p.1 = some p.2 ∧ (h₀.get? p.1 = none ∨ ∃ vs, p.2.data = .fields vs)) ∧ ∀ h', (∀ p ∈ l, h'.get? p.1 = some p.2) → X h'
theorem Supp.and {h₀ h : Heap} {X Y : Heap → Prop} (x : Supp h₀ X h) (y : Supp h₀ Y h) : Supp h₀ (fun h => X h ∧ Y h) h := by
  obtain ⟨l, a, b⟩ := x
  obtain ⟨l', a', b'⟩ := y
  exact ⟨l ++ l', fun p hp => (List.mem_append.mp hp).elim (a p) (a' p), fun h' k => ⟨b h' fun p hp => k p (List.mem_append_left _ hp), b' h' fun p hp => k p (List.mem_append_right _ hp)⟩⟩
theorem Supp.map {h₀ h : Heap} {X Y : Heap → Prop} (x : Supp h₀ X h) (f : ∀ h', X h' → Y h') : Supp h₀ Y h := by
  obtain ⟨l, a, b⟩ := x
  exact ⟨l, a, fun h' k => f h' (b h' k)⟩
theorem Supp.pure {h₀ h : Heap} {X : Prop} (x : X) : Supp h₀ (fun _ => X) h := ⟨[], (fun _ h => nomatch h), fun _ _ => x⟩
theorem Supp.new {h₀ h : Heap} {a : Addr} {o : Obj} (e : h.get? a = some o) (n : h₀.get? a = none) : Supp h₀ (fun h => h.get? a = some o) h :=
  ⟨[(a, o)], fun p hp => by rw [List.mem_singleton.mp hp]; exact ⟨e, .inl n⟩, fun h' k => k _ (.head _)⟩
theorem Supp.rec {h₀ h : Heap} {a : Addr} {o : Obj} {vs : Array Value} (e : h.get? a = some o) (d : o.data = .fields vs) : Supp h₀ (fun h => h.get? a = some o) h :=
  ⟨[(a, o)], fun p hp => by rw [List.mem_singleton.mp hp]; exact ⟨e, .inr ⟨_, d⟩⟩, fun h' k => k _ (.head _)⟩
theorem Supp.code {h₀ h : Heap} {cd : Value} {q : Str} (x : h.CodeRec cd q) : Supp h₀ (fun h => h.CodeRec cd q) h := by
  obtain ⟨c, o, vs, t, e, g, d, r⟩ := x
  exact (Supp.rec (h₀ := h₀) g d).map fun h' e' => ⟨c, o, vs, t, e, e', d, r⟩
theorem Supp.isCode {h₀ h : Heap} {c P : Addr} {ps : Array Value} (x : h.IsCode c P ps) : Supp h₀ (fun h => h.IsCode c P ps) h := by
  obtain ⟨o, vs, file, tf, flags, tg, inF, text, tt, op, ho, hd, h11, h2, h7, h9, h10, hop, hpd, r⟩ := x
  exact ((Supp.rec (h₀ := h₀) ho hd).and (Supp.rec hop hpd)).map fun h' e => ⟨o, vs, file, tf, flags, tg, inF, text, tt, op, e.1, hd, h11, h2, h7, h9, h10, e.2, hpd, r⟩
theorem Supp.table {h₀ h : Heap} {c P : Addr} {ps : Array Value} (x : h.TableAt c P ps) : Supp h₀ (fun h => h.TableAt c P ps) h := by
  obtain ⟨⟨oc, vc, hoc, hcc, hdc, h11c⟩, hp⟩ := x
  exact ((Supp.rec (h₀ := h₀) hoc hdc).and (Supp.rec hp rfl)).map fun h' e => ⟨⟨oc, vc, e.1, hcc, hdc, h11c⟩, e.2⟩
theorem Supp.all {h₀ h : Heap} {ps : Array Value} (x : CodeAll ps h) : Supp h₀ (CodeAll ps) h := by
  have f : ∀ j, j < 6 → Supp h₀ (fun h => ∃ c, codeAmong (kpos j) ps.toList = some (.ref c) ∧ h.CodeRec (.ref c) (kqual j)) h := fun j hj => by
    obtain ⟨c, a, b⟩ := x j hj
    exact (Supp.code b).map fun h' e => ⟨c, a, e⟩
  exact ((f 0 (by decide)).and ((f 1 (by decide)).and ((f 2 (by decide)).and ((f 3 (by decide)).and ((f 4 (by decide)).and (f 5 (by decide))))))).map fun h' ⟨e0, e1, e2, e3, e4, e5⟩ j hj => by
    match j, hj with
    | 0, _ => exact e0
    | 1, _ => exact e1
    | 2, _ => exact e2
    | 3, _ => exact e3
    | 4, _ => exact e4
    | 5, _ => exact e5
theorem Supp.kinv {h₀ h : Heap} {cK T bm : Addr} {pt : Array Value} (x : KInv h cK T bm pt) : Supp h₀ (fun h => KInv h cK T bm pt) h := by
  obtain ⟨a, b, s⟩ := x
  rcases s with s | ⟨cc, Pc, ps, h1, h2, h3, h4, r⟩
  · exact ((Supp.isCode (h₀ := h₀) a).and (Supp.table b)).map fun h' e => ⟨e.1, e.2, .inl s⟩
  · exact ((Supp.isCode (h₀ := h₀) a).and ((Supp.table b).and ((Supp.isCode h2).and ((Supp.table h3).and (Supp.all h4))))).map fun h' ⟨e1, e2, e3, e4, e5⟩ => ⟨e1, e2, .inr ⟨cc, Pc, ps, h1, e3, e4, e5, r⟩⟩
theorem Supp.kg {h₀ h : Heap} {w : World} {mg : Str → Option Value} {K C : Addr} (x : KF h₀ h w mg K C) : Supp h₀ (fun h => KG h w mg K C) h := by
  obtain ⟨y, h1, h2, h3, h4⟩ := x
  obtain ⟨a0, b0, c0⟩ := h4 0 (by decide)
  obtain ⟨a1, b1, c1⟩ := h4 1 (by decide)
  exact ((Supp.new h1.1 h1.2).and ((Supp.new h2.1 h2.2).and ((Supp.new h3.1 h3.2).and (((Supp.new a0 b0).and (Supp.code c0)).and ((Supp.new a1 b1).and (Supp.code c1)))))).map fun h' e => ⟨y, e⟩

/-- what holds of each heap with the objects that are told -/
noncomputable def HH (c : Cx) (nw : Nw) (X : Heap → Prop) : Prop := ∀ h, (∀ a o, Has c nw a o → h.get? a = some o) → X h
theorem HH.more {c : Cx} {nw nw' : Nw} {X : Heap → Prop} (x : HH c nw X) (h : ∀ p ∈ nw, p ∈ nw') : HH c nw' X := fun g k => x g fun a o e => k a o (e.more h)
theorem HH.here {c : Cx} {nw : Nw} {X : Heap → Prop} {m : Mp} {h : Heap} (x : HH c nw X) (I : In c m nw h) : X h := x h fun _ _ e => e.get I
/-- the objects behind a fact join the made ones -/
theorem HH.of {c : Cx} {nw nw' : Nw} {m : Mp} {h h' : Heap} {X : Heap → Prop} (I : In c m nw h) (I' : In c m nw' h') (x : Supp h X h') :
    ∃ kl, In c m (kl ++ nw') h' ∧ HH c kl X ∧ ∀ p ∈ kl, ∀ q, q ∈ nw → q ∈ nw' → (∀ vs, q.2.data ≠ .fields vs) → p.1 ≠ q.1 := by
  obtain ⟨l, a, b⟩ := x
  refine ⟨l.filter fun p => (c.b.get? p.1).isNone, ⟨I'.F, fun p hp => ?_⟩, fun g k => b g fun p hp => ?_, fun p hp q hq hq' hd e => ?_⟩
  · rcases List.mem_append.mp hp with hp | hp
    · obtain ⟨h1, h2⟩ := List.mem_filter.mp hp
      obtain ⟨a1, a2⟩ := a p h1
      refine ⟨a1, fun e => ?_, Option.isNone_iff_eq_none.mp h2⟩
      obtain ⟨oL, es, ep, hL, hd, _⟩ := I.F.ns
      obtain ⟨oL', es', ep', hL', hd', _⟩ := I'.F.ns
      rcases a2 with a2 | ⟨vs, a2⟩
      · rw [e, hL] at a2; cases a2
      · rw [e, hL'] at a1
        cases a1
        rw [hd'] at a2
        cases a2
    · exact I'.N p hp
  · obtain ⟨a1, a2⟩ := a p hp
    refine k p.1 p.2 ?_
    cases e : c.b.get? p.1 with
    | some o =>
      have := I'.F.keep _ _ e
      rw [a1] at this
      cases this
      exact .inl e
    | none => exact .inr (List.mem_filter.mpr ⟨hp, by rw [e]; rfl⟩)
  · obtain ⟨h1, h2⟩ := List.mem_filter.mp hp
    obtain ⟨a1, a2⟩ := a p h1
    rcases a2 with a2 | ⟨vs, a2⟩
    · rw [e, (I.N q hq).1] at a2; cases a2
    · rw [e, (I'.N q hq').1] at a1
      have a1 := Option.some.inj a1
      rw [← a1] at a2
      exact hd vs a2
end
section
open PySem PySem.W PyProof.Rows PySem.Calls PySem.Builtin PySem.W.X
set_option maxRecDepth 100000
/-- what cmp_to_key reads -/
structure GK (h : Heap) (mg : Str → Option Value) (fK cK bm : Addr) : Prop where
  fn : ∃ o pm doc, h.get? fK = some o ∧ o.data = .func (docDef (nameOf (stAt 13)) (prmOf (stAt 13)) (bodOf (stAt 13)) (scpOf (stAt 13)) pm (.ref cK) doc)
  code : h.CodeRec (.ref cK) (nameOf (stAt 13))
  mk_ : ∃ ob, Mk h mg bm ob
  third : NoThird h
  sm : ∃ o, h.get? sysModules = some o
  name : ∃ vn, mg "__name__" = some vn
  key : mg "cmp_to_key" = some (.ref fK)
  obj : mg "object" = none
theorem GK.keeps {h h' : Heap} {mg : Str → Option Value} {fK cK bm : Addr} (x : GK h mg fK cK bm) (k : ∀ b o, h.get? b = some o → h'.get? b = some o) : GK h' mg fK cK bm :=
  ⟨let ⟨o, pm, doc, a, b⟩ := x.fn; ⟨o, pm, doc, k _ _ a, b⟩, x.code.keeps k, let ⟨ob, m⟩ := x.mk_; ⟨ob, m.keeps k⟩, x.third.keeps k, let ⟨o, e⟩ := x.sm; ⟨o, k _ _ e⟩, x.name, x.key, x.obj⟩
section
variable {c : Cx} {m : Mp} {nw cs : Nw} {Q : Value → Mp → Nw → Prop} {mg mb : Str → Option Value} {fa : Nat → Addr} {fK cK T bm fc K C : Addr} {pt : Array Value}
/-- K over C is there, and C holds fc -/
noncomputable def KC (w : World) (mg : Str → Option Value) (K C fc : Addr) (h : Heap) : Prop := KG h w mg K C ∧ ∃ oC, h.get? C = some oC ∧ oC.data = .cell (some (.ref fc))
theorem st_eq {c : Cx} (hg : c.s.gens = #[]) (h : Heap) (tk : Nat) : c.st h tk = ⟨h, #[], c.s.drawn, tk, c.s.os⟩ := by
  show (⟨h, c.s.gens, c.s.drawn, tk, c.s.os⟩ : Shared) = _
  rw [hg]
theorem pKey (hg : c.s.gens = #[]) (r : Rm c.A 2) (G0 : G mg mb fa c.b) (GK0 : GK c.b mg fK cK bm) (KI : HH c ((T, tableObj pt) :: cs) (fun h => KInv h cK T bm pt)) (hTc : ∀ q ∈ cs, q.1 ≠ T)
    (q : ∀ K C pt' kl, HH c kl (fun h => KInv h cK T bm pt' ∧ KC c.w mg K C fc h) → (∀ p ∈ kl, ∀ q ∈ cs, (∀ vs, q.2.data ≠ .fields vs) → p.1 ≠ q.1) → Q (.ref K) m (kl ++ (T, tableObj pt') :: cs)) :
    P c (call (.ref fK) [.ref fc]) Q m ((T, tableObj pt) :: cs) := fun h tk I => by
  have k := I.F.keep
  obtain ⟨⟨o, pm, doc, f1, f2⟩, g2, ⟨ob, g3⟩, g4, ⟨om, g5⟩, ⟨vn, g6⟩, g7, g8⟩ := GK0
  rw [st_eq hg]
  refine wpAny_call (key_c r (k _ _ f1) f2 (g2.keeps k) (G0.nolimit.keeps k) (g3.keeps k) g6 (g4.keeps k) ⟨om, k _ _ g5⟩ (KI.here I) (G0.b.keeps k) G0.bb g8 fun h' tk' K C pt' oC k' inv' fK' kf' nC hC dC => ?_)
  have I' : In c m ((T, tableObj pt') :: cs) h' := inTurn I hTc k' inv'.t.2
  obtain ⟨kl, J, hh, ap⟩ := HH.of I I' ((Supp.kinv inv').and ((Supp.kg kf').and ((Supp.new hC nC).map fun h e => (⟨oC, e, dC⟩ : ∃ oC, h.get? C = some oC ∧ oC.data = .cell (some (.ref fc))))))
  exact ⟨h', tk', m, _, (st_eq hg _ _).symm, J, q K C pt' kl hh fun p hp z hz => ap p hp z (.tail _ hz) (.tail _ hz)⟩
theorem pMk {it : Value} (r : Rm c.A 3) (lim : c.b.NoLimit) (hK : HH c nw (KC c.w mg K C fc)) (q : ∀ x dx, (∀ p ∈ nw, p.1 ≠ x ∧ p.1 ≠ dx) → x ≠ dx → Q (.ref x) m ((x, kinst K dx it) :: (dx, emptyDict) :: nw)) :
    P c (call (.ref K) [it]) Q m nw := fun h tk I => by
  refine wpAny_call (kf_mk (g := c.s.gens) (d := c.s.drawn) (os := c.s.os) (hK.here I).1 r (lim.keeps I.F.keep) fun x dx h' tk' k nx nd ne ex ed => ?_)
  obtain ⟨I1, f1⟩ := inFresh I k nd ed
  have I2 : In c m ((x, kinst K dx it) :: (dx, emptyDict) :: nw) h' ∧ ∀ p ∈ nw, p.1 ≠ x := by
    refine ⟨⟨I1.F, fun p hp => ?_⟩, fun p hp e => by have := (I.N p hp).1; rw [e, nx] at this; cases this⟩
    rcases List.mem_cons.mp hp with rfl | hp
    · refine ⟨ex, fun e => ?_, ?_⟩
      · obtain ⟨oL, _, _, hL, _⟩ := I.F.ns
        rw [show c.L = x from e.symm, nx] at hL; cases hL
      · cases e : c.b.get? x with
        | none => rfl
        | some o => have := I.F.keep _ _ e; rw [nx] at this; cases this
    · exact I1.N p hp
  exact ⟨h', tk', m, _, rfl, I2.1, q x dx (fun p hp => ⟨I2.2 p hp, f1 p hp⟩) ne⟩
end
end
section
open PySem PySem.W PyProof.Rows PySem.Calls PySem.Builtin PySem.W.X
set_option maxRecDepth 100000
/-- an item's places: a list of lists of ints -/
noncomputable def OnAt (c : Cx) (nw : Nw) (v : Value) (on : List (List Nat)) : Prop :=
  ∃ (a : Addr) (rs : List Addr) (n : Nat), v = .ref a ∧ Has c nw a (W.listOf (rs.map Value.ref).toArray n) ∧ rs.length = on.length ∧ ∀ (i : Nat) (hi : i < on.length), ∃ r ws k, rs[i]? = some r ∧ Has c nw r (W.listOf ws.toArray k) ∧ IA ws on[i]
/-- an item: its price, its name, its places -/
noncomputable def ItemAt (c : Cx) (nw : Nw) (a : Addr) (x : It) : Prop := ∃ t u o n, Has c nw a (W.listOf [.int (x.price : Int) t, .str ⟨x.name.toArray⟩ u, o].toArray n) ∧ OnAt c nw o x.on
/-- a key over an item -/
noncomputable def KeyAt (c : Cx) (nw : Nw) (K x a : Addr) : Prop := ∃ dx, Has c nw x (kinst K dx (.ref a)) ∧ Has c nw dx emptyDict
structure Pairs (c : Cx) (nw : Nw) (K : Addr) (ka ia : Nat → Addr) (pairs : List It) : Prop where
  key : ∀ i < pairs.length, KeyAt c nw K (ka i) (ia i)
  item : ∀ i < pairs.length, ItemAt c nw (ia i) (itemOf pairs i)
  name : ∀ i < pairs.length, (itemOf pairs i).name.length < 2 ^ 20
section
variable {c : Cx} {m : Mp} {nw nw' : Nw} {Q : Value → Mp → Nw → Prop} {mg mb : Str → Option Value} {fa : Nat → Addr} {K C H : Addr} {ka ia : Nat → Addr} {pairs : List It}
theorem OnAt.more {v : Value} {on : List (List Nat)} (x : OnAt c nw v on) (h : ∀ p ∈ nw, p ∈ nw') : OnAt c nw' v on := by
  obtain ⟨a, rs, n, e, ha, hl, hr⟩ := x
  exact ⟨a, rs, n, e, ha.more h, hl, fun i hi => let ⟨r, ws, k, a, b, d⟩ := hr i hi; ⟨r, ws, k, a, b.more h, d⟩⟩
theorem ItemAt.more {a : Addr} {x : It} (y : ItemAt c nw a x) (h : ∀ p ∈ nw, p ∈ nw') : ItemAt c nw' a x := let ⟨t, u, o, n, a, b⟩ := y; ⟨t, u, o, n, a.more h, b.more h⟩
theorem KeyAt.more {x a : Addr} (y : KeyAt c nw K x a) (h : ∀ p ∈ nw, p ∈ nw') : KeyAt c nw' K x a := let ⟨dx, a, b⟩ := y; ⟨dx, a.more h, b.more h⟩
theorem Pairs.more (y : Pairs c nw K ka ia pairs) (h : ∀ p ∈ nw, p ∈ nw') : Pairs c nw' K ka ia pairs := ⟨fun i hi => (y.key i hi).more h, fun i hi => (y.item i hi).more h, y.name⟩
theorem ItemA.of {t u : Tok} {o : Value} (x : It) : ItemA [.int (x.price : Int) t, .str ⟨x.name.toArray⟩ u, o] x := ⟨t, u, o, rfl⟩
theorem cmpOk {h : Heap} {oH : Obj} (I : In c m ((H, oH) :: nw) h) (hne : ∀ q ∈ nw, q.1 ≠ H) (G0 : G mg mb fa c.b) (hK : HH c nw (KC c.w mg K C (fa 19))) (hP : Pairs c nw K ka ia pairs) :
    CmpOk c.prog c.w H (h.hide H) ka (ltP pairs) (· < pairs.length) := fun A s Q E i j r hi hj k ret => by
  have bH : c.b.get? H = none := (I.N _ (.head _)).2.2
  have k' : ∀ a o, Has c nw a o → s.heap.get? a = some o := fun a o x => by
    have hx : h.get? a = some o := (x.more fun p hp => .tail _ hp).get I
    have ha : a ≠ H := by
      rcases x with e | e
      · intro q; rw [q, bH] at e; cases e
      · exact hne _ e
    exact k a o ha ((Heap.hide_ne _ ha).trans hx)
  have kb : ∀ b o, c.b.get? b = some o → s.heap.get? b = some o := fun b o e => k' b o (.inl e)
  obtain ⟨kg, oC, hC, dC⟩ := hK s.heap k'
  obtain ⟨dx, x1, x2⟩ := hP.key i hi
  obtain ⟨dy, y1, y2⟩ := hP.key j hj
  obtain ⟨t1, u1, o1, n1, z1, _⟩ := hP.item i hi
  obtain ⟨t2, u2, o2, n2, z2, _⟩ := hP.item j hj
  obtain ⟨h0, g, d, tk, os⟩ := s
  exact kf_lt (g := g) (d := d) (os := os) (tk := tk) kg r (G0.keeps kb) ((G0.fn 19 (by decide)).2.keeps kb) hC dC (k' _ _ x1) (k' _ _ x2) (k' _ _ y1) (k' _ _ y2) (k' _ _ z1) (ItemA.of _) (k' _ _ z2) (ItemA.of _) (hP.name i hi) (hP.name j hj) fun h' tk' kk => ret h' tk' kk
theorem pPush {hs : List Nat} {n x : Nat} (r : Rm c.A 14) (G0 : G mg mb fa c.b) (hK : HH c nw (KC c.w mg K C (fa 19))) (hP : Pairs c nw K ka ia pairs) (hne : ∀ q ∈ nw, q.1 ≠ H) (hz : hs.length < 2 ^ 20) (hd : ∀ i ∈ hs, i < pairs.length) (hx : x < pairs.length)
    (q : Q .none m ((H, keyL ka (pushN (ltP pairs) hs x) (n + 1)) :: nw)) : P c (call (.ref (fa 2)) [.ref H, .ref (ka x)]) Q m ((H, keyL ka hs n) :: nw) := fun h tk I => by
  have bH : c.b.get? H = none := (I.N _ (.head _)).2.2
  have kh : ∀ b o, c.b.get? b = some o → (h.hide H).get? b = some o := fun b o e => (Heap.hide_ne _ (fun q => by rw [q, bH] at e; cases e)).trans (I.F.keep _ _ e)
  exact wpAny_call (heappush_c r (G0.keeps kh) ((G0.fn 2 (by decide)).2.keeps I.F.keep) (cmpOk I hne G0 hK hP) (Heap.hide_self ..) (fun b o e => Heap.of_hide e) (I.N _ (.head _)).1 hz hd hx fun h' tk' kp hH => ⟨_, _, _, _, rfl, inTurn I hne kp hH, q⟩)
theorem pPopK {hs : List Nat} {n : Nat} (r : Rm c.A 16) (G0 : G mg mb fa c.b) (hK : HH c nw (KC c.w mg K C (fa 19))) (hP : Pairs c nw K ka ia pairs) (hne : ∀ q ∈ nw, q.1 ≠ H) (hz : hs.length < 2 ^ 20) (hd : ∀ i ∈ hs, i < pairs.length) (hn : hs ≠ [])
    (q : Q (.ref (ka (popN (ltP pairs) hs).1)) m ((H, keyL ka (popN (ltP pairs) hs).2 (n + 1)) :: nw)) : P c (call (.ref (fa 3)) [.ref H]) Q m ((H, keyL ka hs n) :: nw) := fun h tk I => by
  have bH : c.b.get? H = none := (I.N _ (.head _)).2.2
  have kh : ∀ b o, c.b.get? b = some o → (h.hide H).get? b = some o := fun b o e => (Heap.hide_ne _ (fun q => by rw [q, bH] at e; cases e)).trans (I.F.keep _ _ e)
  exact wpAny_call (heappop_c r (G0.keeps kh) ((G0.fn 3 (by decide)).2.keeps I.F.keep) (cmpOk I hne G0 hK hP) (Heap.hide_self ..) (fun b o e => Heap.of_hide e) (I.N _ (.head _)).1 hz hd hn fun h' tk' kp hH => ⟨_, _, _, _, rfl, inTurn I hne kp hH, q⟩)
end
end
section
open PySem PySem.W PyProof.Rows PySem.Calls PySem.Builtin PySem.W.X
set_option maxRecDepth 100000
/-- as pEnterC; the table at T stands apart -/
theorem pEnterCT {prog : Program} {w : World} {A : Around} {R : Result → Shared → Prop} {s : Shared} {a T : Addr} {oT : Obj} {i n : Nat} {args : List Value} {binds : List (Str × Value)} {mp : Mp} (hT : s.heap.get? T = some oT) (X : FnAt s.heap a i) (hl : s.heap.NoLimit) (r : Rm A (n + 1))
    (hbind : ∀ pm cd doc, bindArgs (docDef (nameOf (stAt i)) (prmOf (stAt i)) (bodOf (stAt i)) (scpOf (stAt i)) pm cd doc) ⟨args, []⟩ = pure binds)
    (hkind : ∀ n, ∀ x ∈ binds, (scpOf (stAt i)).names.lookup x.1 = some .local ∨ ((scpOf (stAt i)).names.lookup x.1 = some .cell ∧ ((cellsFrom n (scpOf (stAt i)).names []).lookup x.1).isSome = true))
    (hnd : ((cellsFrom 0 (scpOf (stAt i)).names []).map (·.1)).Nodup)
    (hm : ∀ L cd, bindL (envOfC (nameOf (stAt i)) (scpOf (stAt i)) L a cd).kindOf binds (fun _ => none) = fun x => mp.lookup x)
    (h : ∀ cd A' cells, Rm A' n → CellsAre (bindC (envOfC (nameOf (stAt i)) (scpOf (stAt i)) s.heap.objs.size a cd).kindOf binds fun _ => none) (cellsFrom (s.heap.objs.size + 1) (scpOf (stAt i)).names []) cells → (∀ p ∈ cells, p.1 ≠ T) →
      P ⟨prog, w, A', s, s.heap.hide T, s.heap.objs.size⟩ (execs (bodOf (stAt i)) (envOfC (nameOf (stAt i)) (scpOf (stAt i)) s.heap.objs.size a cd)) (endQ ⟨prog, w, A', s, s.heap.hide T, s.heap.objs.size⟩ R) mp ((T, oT) :: cells))
    (hco : (scpOf (stAt i)).isCoroutine = false := by rfl) (hgen : (scpOf (stAt i)).isGenerator = false := by rfl) (hk : (scpOf (stAt i)).kind = .function := by rfl) : codeAny (model prog w) A (.call (.ref a) ⟨args, []⟩) R s := by
  obtain ⟨o, pm, cd, doc, h1, h2, h3⟩ := X
  refine call_cellsN_ret r.room h1 h2 hl h3 (hbind pm cd doc) (hkind _) hnd (fun h₁ tk cells F N Y => ?_) hco hgen hk
  rw [hm] at F
  obtain ⟨F', N'⟩ := frH F hT
  have hcT : ∀ p ∈ cells, p.1 ≠ T := fun p hp e => by have := (N p hp).2.2; rw [e, hT] at this; cases this
  refine (h cd _ cells r.deeper Y hcT).seq (c := ⟨prog, w, _, s, s.heap.hide T, s.heap.objs.size⟩) ⟨F', fun p hp => ?_⟩ fun f m' nw' h' tk' q I => q h' tk' I
  rcases List.mem_cons.mp hp with rfl | hp
  · exact N' _ (.head _)
  · exact ⟨(N p hp).1, (N p hp).2.1, (Heap.hide_ne _ (hcT p hp)).trans (N p hp).2.2⟩
section
variable {c : Cx} {m : Mp} {nw : Nw} {env : Env} {Q : Value → Mp → Nw → Prop} {QF : Flow → Mp → Nw → Prop} {QU : Unit → Mp → Nw → Prop} {mg mb : Str → Option Value} {fa : Nat → Addr}
theorem pIn3 {x y z : Str} {px py pz : Pos} {u v t : Value} (q : QU () ((z, t) :: (y, v) :: (x, u) :: m) nw) (hL : env.locals = c.L) (hk : env.scope.kind = .function) (hx : env.kindOf x = some .local) (hy : env.kindOf y = some .local) (hz : env.kindOf z = some .local) :
    P c (assignInOrder [assign (.Name x px) env, assign (.Name y py) env, assign (.Name z pz) env] [u, v, t]) QU m nw := fun h tk I => by
  refine PyProof.Rows.assignInOrder_cons (wpAny_assign_Name ?_)
  refine (pStoreE (QU := fun _ => P c (assignInOrder [assign (.Name y py) env, assign (.Name z pz) env] [v, t]) QU) ?_ hL hk hx).seq I fun _ _ _ _ _ q I => q _ _ I
  intro h tk I
  refine PyProof.Rows.assignInOrder_cons (wpAny_assign_Name ?_)
  refine (pStoreE (QU := fun _ => P c (assignInOrder [assign (.Name z pz) env] [t]) QU) ?_ hL hk hy).seq I fun _ _ _ _ _ q I => q _ _ I
  intro h tk I
  refine PyProof.Rows.assignInOrder_cons (wpAny_assign_Name ?_)
  refine (pStoreE (QU := fun _ => P c (assignInOrder [] []) QU) ?_ hL hk hz).seq I fun _ _ _ _ _ q I => q _ _ I
  intro h tk I
  exact PyProof.Rows.assignInOrder_nil ⟨_, _, _, _, rfl, I, q⟩
theorem pUn3 {x y z : Str} {px py pz tpos pos : Pos} {k : Nat} {value : Expr} (hh : c.A.handled = none)
    (H : P c (eval value env) (fun v m1 n1 => ∃ a u v1 t n, v = .ref a ∧ Has c n1 a (W.listOf [u, v1, t].toArray n) ∧ QF .next ((z, t) :: (y, v1) :: (x, u) :: m1) n1) m nw)
    (hL : env.locals = c.L := by rfl) (hk : env.scope.kind = .function := by rfl) (hx : env.kindOf x = some .local := by rfl) (hy : env.kindOf y = some .local := by rfl) (hz : env.kindOf z = some .local := by rfl)
    (hs : swapsWithSole [.Tuple [.Name x px, .Name y py, .Name z pz] k tpos] value pos.line env = pure false := by rfl) (hw : swappedStores [.Tuple [.Name x px, .Name y py, .Name z pz] k tpos] value env = pure none := by rfl) :
    P c (exec (.Assign [.Tuple [.Name x px, .Name y py, .Name z pz] k tpos] value pos) env) QF m nw := fun h tk I => by
  refine PyProof.Rows.Assign_Tuple (H.seq I fun v m1 n1 h1 tk1 q I1 => ?_) hs hw
  obtain ⟨a, u, v1, t, n, rfl, ha, q⟩ := q
  refine assign_Tuple_list (items := [u, v1, t].toArray) hh (PySem.IsL.isList (n := n) (ha.get I1)) rfl rfl fun h2 k2 => ?_
  exact (pIn3 (QU := fun _ => QF .next) q hL hk hx hy hz).seq (inKeep I1 k2) fun _ _ _ _ _ q I => ⟨_, _, _, _, rfl, I, q⟩
/-- a cell's name is stored -/
theorem pStoreCell {x : Str} {a : Addr} {o : Obj} {v₀ : Option Value} {v : Value} (hc : env.cells.lookup x = some a) (hd : o.data = .cell v₀) (hne : ∀ q ∈ nw, q.1 ≠ a) (q : ∀ o', o'.data = .cell (some v) → QU () m ((a, o') :: nw))
    (hk : env.scope.kind = .function := by rfl) (hl : env.kindOf x = some .cell := by rfl) : P c (storeName env x v) QU m ((a, o) :: nw) := fun h tk I => by
  have z := I.N _ (.head _)
  refine wpAny_storeName_cell hk hl hc ⟨o, z.1, hd⟩ fun h' hv hs => ?_
  obtain ⟨o', ho', hd'⟩ := hv
  exact ⟨h', _, _, _, rfl, inTurn I hne (fun b x hb e => (hs.2 b hb).trans e) ho', q o' hd'⟩
theorem pWithK {pos : Pos} {K C : Addr} {e : Expr} {rest : List Expr} {fc : Addr}
    (H : P c (spliced (backTo pos (starEach (e :: rest) env))) (fun vs m1 n1 => HH c n1 (KC c.w mg K C fc) ∧ P c (call (.ref K) vs) Q m1 n1) m nw)
    (he : starEach (e :: rest) env = (false, eval e env) :: starEach rest env := by rfl) (hp : (backTo pos (starEach rest env)).any (·.1) = false := by rfl) : P c (callWith pos (.ref K) [] (backTo pos (starEach (e :: rest) env)) []) Q m nw := fun h tk I => by
  have h := H.seq (E := fun _ _ => False) (tk := tk) I (K := fun vs s₁ => (∃ N sl, s₁.heap.get? K = some (kObj K N sl)) ∧ wpAny (model c.prog c.w) c.A (call (.ref K) vs) (fun v s' => ∃ h' tk' m' nw', s' = c.st h' tk' ∧ In c m' nw' h' ∧ Q v m' nw') (fun _ _ => False) s₁) fun vs m1 n1 h1 tk1 q I1 => by
    obtain ⟨⟨y, h1, _⟩, _⟩ := q.1.here I1
    exact ⟨⟨y.N, _, h1⟩, q.2 _ _ I1⟩
  rw [he] at h ⊢
  have hst : ((backTo pos ((false, eval e env) :: starEach rest env)).any (fun x => x.fst) || ([] : List (Option Str × Sem Value)).any fun x => x.fst.isNone) = false := by
    show ((false || (backTo pos (starEach rest env)).any (·.1)) || false) = false
    rw [hp]; rfl
  unfold callWith
  refine wpAny_bind (wpAny_holding (Calls.evalArgs_plain (wpAny_mono h (fun vs s₁ h₁ => ?_) fun _ _ x => x)))
  obtain ⟨hh, g, d, t, os⟩ := s₁
  obtain ⟨⟨N, sl, hC⟩, h2⟩ := h₁
  have hC : hh.get? K = some (kObj K N sl) := hC
  unfold kObj at hC
  have f1 := PySem.tc_lookup
  have hT : (⟨hh, g, d, t, os⟩ : Shared).TypeIs (.ref K) "type" := ⟨_, hC, rfl⟩
  refine wpAny_bind (wpAny_standAt ?_)
  show wpAny _ _ (keeperOf (.ref K) >>= _) _ _ _
  unfold keeperOf specialOf
  repeat (any_goals (first | assumption | with_reducible refine wpAny_loadPart_at hC ?_ | with_reducible refine wpAny_load' hC ?_ | wp_step))
  rw [if_pos (by rfl), hst]
  show wpAny _ _ (call (.ref K) vs [] >>= fun r => do holding [r] point; pure r) _ _ _
  exact wpAny_bind (wpAny_mono h2 (fun r s' hr => wpAny_bind (wpAny_holding (wpAny_point (wpAny_pure hr)))) fun _ _ x => x)
theorem pIsR {a b : Addr} {oa ob : Obj} (ha : Has c nw a oa) (hb : Has c nw b ob) (hn : oa.cls ≠ .type "tuple") (q : Q (.bool (decide (a = b))) m nw) : P c (compareOp .Is (.ref a) (.ref b)) Q m nw := fun h tk I => by
  by_cases e : a = b
  · subst e
    exact wpAny_is_ref_self ⟨_, _, _, _, rfl, I, by simpa using q⟩
  · exact wpAny_is_ref_other e (ha.get I) (hb.get I) hn ⟨_, _, _, _, rfl, I, by simpa [e] using q⟩
theorem pEqNil {a b : Addr} {vs : List Value} {n k : Nat} (hu : c.A.units < cLine) (hl : Has c nw a (W.listOf vs.toArray n)) (hb : Has c nw b (W.listOf ([] : List Value).toArray k)) (h : Q (.bool (decide (vs = []))) m nw) : P c (compareOp .Eq (.ref a) (.ref b)) Q m nw := fun g tk I => by
  cases vs with
  | nil => exact PySem.SeqAt.eq_listAt (e := fun _ => true) (PySem.IsL.isList (n := n) (hl.get I)) (PySem.IsL.isList (n := k) (hb.get I)) rfl hu (fun j h1 => absurd h1 (by simp)) ⟨_, _, _, _, rfl, I, by simpa using h⟩
  | cons v vs => exact PySem.SeqAt.eq_list_lengthsAt (PySem.IsL.isList (n := n) (hl.get I)) (PySem.IsL.isList (n := k) (hb.get I)) (by simp) hu ⟨_, _, _, _, rfl, I, by simpa using h⟩
theorem pGetNeg1 {value slice : Expr} {a : Addr} {vs : List Value} {n : Nat} {t : Tok} {x : Value} (hl : Has c nw a (W.listOf vs.toArray n)) (hx : vs.getLast? = some x) (q : Q x m nw)
    (hs' : subscripted slice false (.ref a) (.int (-1) t) = operate [.ref a, .int (-1) t] (getItem (.ref a) (.int (-1) t)) := by with_unfolding_all rfl) (hg : ∀ r, letTemporaryGo value (.ref a) r = pure () := by intro _; with_unfolding_all rfl) :
    P c (subscriptTail value slice (.ref a) (.int (-1) t)) Q m nw := fun _ _ I => by
  have hL := PySem.IsL.isList (n := n) (hl.get I)
  have hne : 0 < vs.length := by cases vs with | nil => cases hx | cons => simp
  refine subscriptTail_builtin hL.typeIs slot_list_getitem.lookup (wpAny_getItem_list_neg hL (by decide) (by simp; lia) (by decide) ?_ ⟨_, _, _, _, rfl, I, q⟩) hs' hg
  rw [List.getLast?_eq_getElem?] at hx
  simp only [List.size_toArray]
  rw [show ((-1 : Int) + (vs.length : Int)).toNat = vs.length - 1 from by lia]
  simpa using hx
theorem pNotIn {a : Addr} {vs : List Value} {n : Nat} {x : Value} (e : Value → Bool) (hl : Has c nw a (W.listOf vs.toArray n)) (he : ∀ h tk, In c m nw h → ∀ y ∈ vs, PySem.SeqAt.EqAt c.A.in1 (c.st h tk) y x (e y)) (q : Q (.bool (!vs.any e)) m nw) : P c (compareOp .NotIn x (.ref a)) Q m nw := fun h tk I =>
  PySem.SeqAt.notIn_listAt e (PySem.IsL.isList (n := n) (hl.get I)) (fun y hy => he h tk I y (by simpa using hy)) (by rw [← Array.any_toList]; exact ⟨_, _, _, _, rfl, I, q⟩)
end
section
variable {A : Around} {s : Shared}
theorem eqInts {l b : Addr} {xs ys : List Value} {ks js : List Nat} (hu : A.units + 1 < cLine) (hl : s.heap.IsList l xs.toArray) (hb : s.heap.IsList b ys.toArray) (hx : IA xs ks) (hy : IA ys js) : PySem.SeqAt.EqAt A s (.ref l) (.ref b) (decide (ks = js)) := by
  have hxl := hx.length
  have hyl := hy.length
  by_cases e : l = b
  · subst e
    obtain ⟨o, ho, _, n, hd⟩ := hl
    obtain ⟨o', ho', _, n', hd'⟩ := hb
    rw [ho] at ho'; cases ho'
    rw [hd] at hd'
    injection hd' with hd' _
    have hxy : xs = ys := by simpa using hd'
    subst hxy
    have : ks = js := by
      apply List.ext_getElem
      · lia
      · intro i h1 h2
        obtain ⟨t, q1⟩ := hx.get h1
        obtain ⟨u, q2⟩ := hy.get h2
        have z := Option.some.inj (q1.symm.trans q2)
        injection z with z _
        exact Int.ofNat.inj z
    rw [decide_eq_true this]
    exact PySem.SeqAt.EqAt.same _
  · refine PySem.SeqAt.EqAt.of_refs e ?_
    by_cases hlen : ks.length = js.length
    · have h := PySem.SeqAt.RcAt.lists (A := A) (e := fun j => decide (ks[j]? = js[j]?)) hl hb (by simp; lia) (by lia) fun j h1 h2 => ?_
      · have e2 : ((List.range xs.toArray.size).all fun j => decide (ks[j]? = js[j]?)) = decide (ks = js) := by
          rw [Bool.eq_iff_iff, decide_eq_true_iff, List.all_eq_true]
          constructor
          · intro h
            apply List.ext_getElem?
            intro i
            by_cases hi : i < ks.length
            · exact of_decide_eq_true (h i (by simp; lia))
            · rw [List.getElem?_eq_none (by lia), List.getElem?_eq_none (by lia)]
          · intro h j _; subst h; simp
        rw [e2] at h
        exact h
      · have h1' : j < ks.length := by simpa [hxl] using h1
        have h2' : j < js.length := by simpa [hyl] using h2
        obtain ⟨t, q1⟩ := hx.get h1'
        obtain ⟨u, q2⟩ := hy.get h2'
        have e1 : xs.toArray[j] = .int (ks[j] : Int) t := by
          have : xs[j]? = some xs[j] := List.getElem?_eq_getElem _
          rw [q1] at this; simpa using (Option.some.inj this).symm
        have e2 : ys.toArray[j] = .int (js[j] : Int) u := by
          have : ys[j]? = some ys[j] := List.getElem?_eq_getElem _
          rw [q2] at this; simpa using (Option.some.inj this).symm
        rw [e1, e2]
        have := (IA.eq (vs := [.int (ks[j] : Int) t]) (ks := [ks[j]]) (.cons _ _ .nil) js[j] u _ (.head _)).at A.in1 s
        have e3 : isInt (js[j] : Int) (.int (ks[j] : Int) t) = decide (ks[j]? = js[j]?) := by
          rw [List.getElem?_eq_getElem h1', List.getElem?_eq_getElem h2']
          rw [Bool.eq_iff_iff]
          simp [isInt]
          exact Int.ofNat_inj
        rw [e3] at this
        exact this
    · have : ks ≠ js := fun h => hlen (by rw [h])
      rw [decide_eq_false this]
      exact PySem.SeqAt.RcAt.lists_lengths hl hb (by simp; lia) (by lia)
end
end
section
open PySem PySem.W PyProof.Rows PySem.Calls PySem.Builtin PySem.W.X
set_option maxRecDepth 100000
/-- an expression that gives what is gone through, made and begun in one -/
noncomputable def ItE (c : Cx) (env : Env) (iter tgt : Expr) (xs : List Str) (N : Nat) (Pv : Nat → List Value → Prop) (m : Mp) (nw : Nw) : Prop :=
  ∀ h tk (K : Value → Shared → Prop) (E : Value → Shared → Prop), In c m nw h →
    (∀ h1 I wr fp St h2 tk2, In c m nw h1 → Tk c.prog c.w c.A I tgt xs fp wr N Pv St → c.L ∉ fp → (∀ b ∈ wr, h1.get? b = none) → (∀ b ∈ fp, b < h2.objs.size) → h1.objs.size ≤ h2.objs.size → St 0 h2 → (∀ b o, h1.get? b = some o → h2.get? b = some o) → K (.ref I) (c.st h2 tk2)) →
    wpAny (model c.prog c.w) c.A (eval iter env) (fun xv s => wpAny (model c.prog c.w) c.A (pyIter xv) K E s) E (c.st h tk)
theorem Tk.mono {prog : Program} {w : World} {A : Around} {I : Addr} {tgt : Expr} {xs : List Str} {fp wr : List Addr} {N : Nat} {Pv Pv' : Nat → List Value → Prop} {St : Nat → Heap → Prop} (W : Tk prog w A I tgt xs fp wr N Pv St) (h : ∀ i vals, Pv i vals → Pv' i vals) : Tk prog w A I tgt xs fp wr N Pv' St :=
  ⟨W.sub, W.frame, W.ex, fun env i s K E hi hst hK => W.item env i s K E hi hst fun vals h' tk' hv => hK vals h' tk' (h i vals hv), W.done, W.self⟩
section
variable {c : Cx} {m : Mp} {nw : Nw} {env : Env} {Q : Value → Mp → Nw → Prop} {mg mb : Str → Option Value} {fa : Nat → Addr}
theorem evZip {x y p q : Str} {px py pp pq pz pos pt : Pos} {k : Nat} {l1 l2 : Addr} {xs ys : List Value} {n1 n2 : Nat} (hh : c.A.handled = none) (T : G mg mb fa c.b) (h1 : Has c nw l1 (W.listOf xs.toArray n1)) (h2 : Has c nw l2 (W.listOf ys.toArray n2)) (hx : m.lookup x = some (.ref l1)) (hy : m.lookup y = some (.ref l2))
    (hL : env.locals = c.L := by rfl) (hk : env.scope.kind = .function := by rfl) (hl : env.kindOf x = some .local := by rfl) (hl2 : env.kindOf y = some .local := by rfl) (hg : env.globals = mainGlobals := by rfl) (hbn : env.builtins = builtinsNs := by rfl) (hz : env.kindOf "zip" = some .globalImplicit := by rfl)
    (hd : (x == ("__debug__" : Str)) = false := by decide) (hd2 : (y == ("__debug__" : Str)) = false := by decide)
    (he : eval (.Call (.Name "zip" pz) [.Name x px, .Name y py] [] pos) env = (do callWith pos (← eval (.Name "zip" pz) env) [] (backTo pos (starEach [.Name x px, .Name y py] env)) (backToKw pos (keywordEach [] env))) := by rfl) :
    ItE c env (.Call (.Name "zip" pz) [.Name x px, .Name y py] [] pos) (.Tuple [.Name p pp, .Name q pq] k pt) [p, q] (min xs.length ys.length) (fun i vals => ∃ u v, xs[i]? = some u ∧ ys[i]? = some v ∧ vals = [u, v]) m nw := fun h tk K E I kk => by
  refine Call_ ((pBnTE (Q := fun v m' nw' => v = .type "zip" ∧ m' = m ∧ nw' = nw) T ⟨rfl, rfl, rfl⟩ (by rfl) (by decide) (by decide) hg hbn hk hz).seq I ?_) he
  rintro v m' nw' h1' tk1 ⟨rfl, rfl, rfl⟩ I1
  refine callWith_type1 ((pArgs (QL := fun vs m'' nw'' => vs = [.ref l1, .ref l2] ∧ m'' = m' ∧ nw'' = nw') (pNameE hx (pArgs (pNameE hy (pArgs0 ⟨rfl, rfl, rfl⟩) hL hk hl2 hd2) (by rfl)) hL hk hl hd) (by rfl)).seq I1 ?_) (by rfl) (by rfl)
  rintro vs m'' nw'' h2' tk2 ⟨rfl, rfl, rfl⟩ I2
  have g1 := PySem.IsL.isList (n := n1) (h1.get I2)
  have g2 := PySem.IsL.isList (n := n2) (h2.get I2)
  have lt1 := Heap.lt_size (h1.get I2)
  have lt2 := Heap.lt_size (h2.get I2)
  have ltL := I2.F.ns.lt
  refine call_zip_2 g1 g2 fun h3 z1 z2 z3 z4 z5 z6 k3 => ?_
  have z1 : IsZip h3 (h2'.objs.size + 4) (h2'.objs.size + 2) (h2'.objs.size + 3) .none := z1
  have z2 : IsPair h3 (h2'.objs.size + 2) (.ref h2'.objs.size) (.ref (h2'.objs.size + 1)) := z2
  have z3 : IsPair h3 (h2'.objs.size + 3) .none .none := z3
  have z4 : h3.IsListIter h2'.objs.size l1 0 := z4
  have z5 : h3.IsListIter (h2'.objs.size + 1) l2 0 := z5
  have z6 : h3.objs.size = h2'.objs.size + 5 := z6
  have k3 : ∀ b o, h2'.get? b = some o → h3.get? b = some o := k3
  refine wpAny_pyIter_zip z1 ?_
  generalize hn : h2'.objs.size = n at *
  have D : ZipApart (n + 4) (n + 2) (n + 3) n (n + 1) l1 l2 := by constructor <;> (intro e; simp only [Addr] at *; lia)
  have W := Tk.pairU p q pp pq pt k hh (WalksT.zip2 (prog := c.prog) (w := c.w) hh (n + 4) (n + 2) (n + 3) n (n + 1) l1 l2 D xs.toArray ys.toArray).toU (fun i g st b hb => by
    obtain ⟨a1, a2, ⟨_, _, a3⟩, ⟨_, a4, _⟩, ⟨_, a5, _⟩, ⟨_, a6, _⟩, ⟨_, a7, _⟩⟩ := st
    simp only [List.mem_cons, List.not_mem_nil, or_false] at hb
    rcases hb with rfl | rfl | rfl | rfl | rfl | rfl | rfl
    all_goals exact ⟨_, by assumption⟩) (fun i T g hm => WalksT.apart (WalksT.zip2 (prog := c.prog) (w := c.w) hh (n + 4) (n + 2) (n + 3) n (n + 1) l1 l2 D xs.toArray ys.toArray) i T g hm) (fun i vals hv => by
    obtain ⟨u, v, _, _, rfl⟩ := hv
    exact ⟨u, v, rfl⟩)
  have ne0 : ∀ j, h2'.get? (n + j) = none := fun j => Heap.get?_none_of_le (by rw [hn]; exact Nat.le_add_right n j)
  have hl1 := h1.ne I2
  have hl2 := h2.ne I2
  have W' := W.mono (Pv' := fun i vals => ∃ u v, xs[i]? = some u ∧ ys[i]? = some v ∧ vals = [u, v]) fun i vals ⟨u, v, a1, a2, a3⟩ => ⟨u, v, by simpa using a1, by simpa using a2, by simpa using congrArg Array.toList a3⟩
  have fp7 : ∀ (X : Addr → Prop), X (n + 4) → X (n + 2) → X (n + 3) → X n → X (n + 1) → X l1 → X l2 → ∀ b ∈ [n + 4, n + 2, n + 3, n, n + 1, l1, l2], X b := fun X x1 x2 x3 x4 x5 x6 x7 b hb => by
    simp only [List.mem_cons, List.not_mem_nil, or_false] at hb
    rcases hb with rfl | rfl | rfl | rfl | rfl | rfl | rfl <;> assumption
  refine kk h2' (n + 4) _ _ _ h3 _ I2 W' (fun hb => ?_) (fun b hb => ?_) ?_ ?_ ?_ k3
  · refine fp7 (fun b => b ≠ c.L) ?_ ?_ ?_ ?_ ?_ hl1 hl2 _ hb rfl <;> (intro e; simp only [Addr] at *; lia)
  · simp only [List.mem_cons, List.not_mem_nil, or_false] at hb
    rcases hb with rfl | rfl | rfl | rfl
    · exact ne0 4
    · exact ne0 3
    · exact ne0 0
    · exact ne0 1
  · refine fp7 (fun b => b < h3.objs.size) ?_ ?_ ?_ ?_ ?_ ?_ ?_ <;> (simp only [Addr] at *; lia)
  · rw [hn, z6]; exact Nat.le_add_right n 5
  · exact ⟨z1, z2, ⟨_, _, z3⟩, z4, z5, g1.at fun o e => k3 _ o e, g2.at fun o e => k3 _ o e⟩
/-- pComp over what is made in its own iterable -/
theorem pCompE {elt tgt iter : Expr} {xs : List Str} {ifs : List Expr} {scope : Scope} {pos : Pos} {cl : List (Str × Addr)} {N : Nat} {Pv : Nat → List Value → Prop} {p : Nat → Bool} {El : Nat → Value → Nw → Prop}
    (H : ItE c env iter tgt xs N Pv m nw) (hturn : Turns c cl scope env elt ifs xs N Pv p El m nw) (hQ : Ends N p El m nw Q)
    (hN : N ≤ 2 ^ 20) (hclos : closureFor scope env = pure cl) (hcell : ∀ y ∈ scope.names, y.2 ≠ .cell) (hkind : scope.kind = .function)
    (hnames : ∀ y ∈ scope.names, y.2 = .local → scope.names.lookup y.1 = some .local) (hx : ∀ x ∈ xs, scope.names.lookup x = some .local) (hs : ∀ x, foldedSetIterable iter env x = pure x := by intro _; rfl) :
    P c (eval (.ListComp elt [⟨tgt, iter, ifs, 0⟩] scope pos) env) Q m nw := fun h tk J => by
  rw [eval_ListComp]
  refine wpAny_comprehension_free (use := none) rfl hs hclos hkind hnames (H h tk _ _ J fun h1 I wr fp St h2 tk2 J1 Wk hL hwr hfp hz12 hst k2 => ?_)
  refine comp_core (RR := fun acc C => compPost (model c.prog c.w) c.A (fun _ _ => False) none (fun v s' => ∃ h' tk' m' nw', s' = c.st h' tk' ∧ In c m' nw' h' ∧ Q v m' nw') acc C) Wk hwr hfp hz12 hst k2 J1 hturn.toT (fun h => nomatch h) hN hcell hkind hx
    fun D C h' tk zs k I' ⟨mC, hC⟩ c1 c2 c3 d1 d2 G' => ⟨mC, hC, fun h'' hs'' => ⟨h'', _, _, _, rfl, inSame I' hs'' c1 c2 c3, hQ D zs k d1 d2 G'⟩⟩
theorem pAssignCompE {elt tgt iter : Expr} {xs : List Str} {ifs : List Expr} {scope : Scope} {pos spos : Pos} {cl : List (Str × Addr)} {N : Nat} {Pv : Nat → List Value → Prop} {p : Nat → Bool} {El : Nat → Value → Nw → Prop} {y : Str} {py : Pos} {QF : Flow → Mp → Nw → Prop}
    (H : ItE c env iter tgt xs N Pv m nw) (hturn : Turns c cl scope env elt ifs xs N Pv p El m nw) (hQ : Ends N p El m nw (fun v m2 n2 => QF .next ((y, v) :: m2) n2))
    (hsw : swapsWith (.ListComp elt [⟨tgt, iter, ifs, 0⟩] scope pos) (some (.Name y py)) spos.line env = pure true) (hL : env.locals = c.L) (hy : env.kindOf y = some .local) (hk : env.scope.kind = .function)
    (hN : N ≤ 2 ^ 20) (hclos : closureFor scope env = pure cl) (hcell : ∀ y ∈ scope.names, y.2 ≠ .cell) (hkind : scope.kind = .function)
    (hnames : ∀ y ∈ scope.names, y.2 = .local → scope.names.lookup y.1 = some .local) (hx : ∀ x ∈ xs, scope.names.lookup x = some .local) (hs : ∀ x, foldedSetIterable iter env x = pure x := by intro _; rfl) :
    P c (exec (.Assign [.Name y py] (.ListComp elt [⟨tgt, iter, ifs, 0⟩] scope pos) spos) env) QF m nw := fun h tk J => by
  rw [exec_Assign_Name_used _ _ _ _ hsw]
  refine wpAny_bind (wpAny_standAt (wpAny_bind ?_))
  show wpAny _ c.A (do let _ ← comprehension (.ListComp elt [⟨tgt, iter, ifs, 0⟩] scope pos) scope env _ (newList []) false (eval iter env) (some (assign (.Name y py) env))) _ _ _
  refine wpAny_bind (wpAny_mono (wpAny_comprehension_free (use := some (assign (.Name y py) env)) (Q := fun _ s' => ∃ h' tk' m' nw', s' = c.st h' tk' ∧ In c m' nw' h' ∧ QF .next m' nw') rfl hs hclos hkind hnames
    (H h tk _ _ J fun h1 I wr fp St h2 tk2 J1 Wk hL2 hwr hfp hz12 hst k2 => ?_)) (fun _ s' hq => wpAny_pure (wpAny_pure hq)) fun _ _ e => e)
  refine comp_core (RR := fun acc C => compPost (model c.prog c.w) c.A (fun _ _ => False) (some (assign (.Name y py) env)) (fun _ s' => ∃ h' tk' m' nw', s' = c.st h' tk' ∧ In c m' nw' h' ∧ QF .next m' nw') acc C) Wk hwr hfp hz12 hst k2 J1 hturn.toT (fun h => nomatch h) hN hcell hkind hx
    fun D C h' tk zs k I' ⟨mC, hC⟩ c1 c2 c3 d1 d2 G' => ?_
  show wpAny _ c.A (assign (.Name y py) env (.ref D)) _ _ _
  have hn : (c.st h' tk).heap.Ns env.locals (fun y => m.lookup y) := by rw [hL]; exact I'.F.ns
  refine wpAny_assign_Name (wpAny_storeName_local hy hn (fun h3 hn3 hs3 => ?_) (by rw [hk]; rfl))
  rw [hL] at hn3 hs3
  have I3 : In c ((y, .ref D) :: m) ((D, PySem.W.listOf (zs.map (·.2.1)).toArray k) :: (zs.flatMap (·.2.2) ++ nw)) h3 := by
    refine ⟨?_, fun p hp => ⟨(hs3.2 _ (I'.N p hp).2.1).trans (I'.N p hp).1, (I'.N p hp).2⟩⟩
    rw [cons_lookup]
    exact I'.F.set hn3 hs3
  exact ⟨mC, hC.sameBut hs3 c1, fun h4 hs4 => ⟨h4, _, _, _, rfl, inSame I3 hs4 c1 c2 c3, hQ D zs k d1 d2 G'⟩⟩
end
theorem IA.inj {vs : List Value} {ks js : List Nat} (hx : IA vs ks) (hy : IA vs js) : ks = js := by
  have hxl := hx.length
  have hyl := hy.length
  apply List.ext_getElem
  · lia
  · intro i h1 h2
    obtain ⟨t, q1⟩ := hx.get h1
    obtain ⟨u, q2⟩ := hy.get h2
    have z := Option.some.inj (q1.symm.trans q2)
    injection z with z _
    exact Int.ofNat.inj z
theorem isList_inj {h : Heap} {l : Addr} {xs ys : List Value} (hl : h.IsList l xs.toArray) (hb : h.IsList l ys.toArray) : xs = ys := by
  obtain ⟨o, ho, _, n, hd⟩ := hl
  obtain ⟨o', ho', _, n', hd'⟩ := hb
  rw [ho] at ho'; cases ho'
  rw [hd] at hd'
  injection hd' with hd' _
  simpa using hd'
/-- a list of lists of ints, in a heap -/
noncomputable def OnH (h : Heap) (a : Addr) (on : List (List Nat)) : Prop :=
  ∃ rs : List Addr, h.IsList a (rs.map Value.ref).toArray ∧ rs.length = on.length ∧ ∀ (i : Nat) (hi : i < on.length), ∃ r ws, rs[i]? = some r ∧ h.IsList r (List.toArray ws) ∧ IA ws on[i]
theorem eqOn {A : Around} {s : Shared} {a b : Addr} {on on' : List (List Nat)} (hu : A.units + 2 < cLine) (ha : OnH s.heap a on) (hb : OnH s.heap b on') : PySem.SeqAt.EqAt A s (.ref a) (.ref b) (decide (on = on')) := by
  obtain ⟨rs, h1, l1, e1⟩ := ha
  obtain ⟨rs', h2, l2, e2⟩ := hb
  by_cases e : a = b
  · subst e
    have q := isList_inj h1 h2
    have q : rs = rs' := by
      apply List.ext_getElem
      · simpa using congrArg List.length q
      · intro i a1 a2
        have := congrArg (·[i]?) q
        simpa [a1, a2] using this
    subst q
    have : on = on' := by
      apply List.ext_getElem
      · lia
      · intro i a1 a2
        obtain ⟨r, ws, b1, b2, b3⟩ := e1 i a1
        obtain ⟨r', ws', d1, d2, d3⟩ := e2 i a2
        rw [b1] at d1; cases d1
        have := isList_inj b2 d2
        subst this
        exact b3.inj d3
    rw [decide_eq_true this]
    exact PySem.SeqAt.EqAt.same _
  · refine PySem.SeqAt.EqAt.of_refs e ?_
    by_cases hlen : on.length = on'.length
    · have h := PySem.SeqAt.RcAt.lists (A := A) (e := fun j => decide (on[j]? = on'[j]?)) h1 h2 (by simp; lia) (by lia) fun j a1 a2 => ?_
      · have e2 : ((List.range (rs.map Value.ref).toArray.size).all fun j => decide (on[j]? = on'[j]?)) = decide (on = on') := by
          rw [Bool.eq_iff_iff, decide_eq_true_iff, List.all_eq_true]
          constructor
          · intro h
            apply List.ext_getElem?
            intro i
            by_cases hi : i < on.length
            · exact of_decide_eq_true (h i (by simp; lia))
            · rw [List.getElem?_eq_none (by lia), List.getElem?_eq_none (by lia)]
          · intro h j _; subst h; simp
        rw [e2] at h
        exact h
      · have a1' : j < on.length := by simpa [l1] using a1
        have a2' : j < on'.length := by simpa [l2] using a2
        obtain ⟨r, ws, b1, b2, b3⟩ := e1 j a1'
        obtain ⟨r', ws', d1, d2, d3⟩ := e2 j a2'
        have q1 : (rs.map Value.ref).toArray[j] = .ref r := by
          have : rs[j]? = some rs[j] := List.getElem?_eq_getElem _
          rw [b1] at this; simpa using (Option.some.inj this).symm
        have q2 : (rs'.map Value.ref).toArray[j] = .ref r' := by
          have : rs'[j]? = some rs'[j] := List.getElem?_eq_getElem _
          rw [d1] at this; simpa using (Option.some.inj this).symm
        rw [q1, q2, List.getElem?_eq_getElem a1', List.getElem?_eq_getElem a2']
        have := eqInts (A := A.in1) (by show A.units + 1 + 1 < cLine; lia) b2 d2 b3 d3
        rw [show decide (some on[j] = some on'[j]) = decide (on[j] = on'[j]) from by rw [Bool.eq_iff_iff]; simp]
        exact this
    · have : on ≠ on' := fun h => hlen (by rw [h])
      rw [decide_eq_false this]
      exact PySem.SeqAt.RcAt.lists_lengths h1 h2 (by simp; lia) (by lia)
end
section
open PySem PySem.W PyProof.Rows PySem.Calls PySem.Builtin PySem.W.X
set_option maxRecDepth 100000
theorem OnH.inj {h : Heap} {a : Addr} {on on' : List (List Nat)} (ha : OnH h a on) (hb : OnH h a on') : on = on' := by
  obtain ⟨rs, h1, l1, e1⟩ := ha
  obtain ⟨rs', h2, l2, e2⟩ := hb
  have q := isList_inj h1 h2
  have q : rs = rs' := by
    apply List.ext_getElem
    · simpa using congrArg List.length q
    · intro i a1 a2
      have := congrArg (·[i]?) q
      simpa [a1, a2] using this
  subst q
  apply List.ext_getElem
  · lia
  · intro i a1 a2
    obtain ⟨r, ws, b1, b2, b3⟩ := e1 i a1
    obtain ⟨r', ws', d1, d2, d3⟩ := e2 i a2
    rw [b1] at d1; cases d1
    have := isList_inj b2 d2
    subst this
    exact b3.inj d3
/-- a row's list -/
noncomputable def RowsH (b : Heap) (ra : Addr) (rows : List (List Pt)) : Prop :=
  ∃ (rs : List Addr) (n : Nat), b.get? ra = some (W.listOf (rs.map Value.ref).toArray n) ∧ rs.length = rows.length ∧ ∀ (i : Nat) (hi : i < rows.length), ∃ r ps k, rs[i]? = some r ∧ b.get? r = some (W.listOf (List.toArray ps) k) ∧ RowA ps rows[i]
section
variable {c : Cx} {m : Mp} {nw : Nw} {Q : Value → Mp → Nw → Prop} {mg mb : Str → Option Value} {fa : Nat → Addr}
theorem OnAt.toH {h : Heap} {v : Value} {on : List (List Nat)} (x : OnAt c nw v on) (I : In c m nw h) : ∃ a, v = .ref a ∧ OnH h a on := by
  obtain ⟨a, rs, n, e, h1, h2, h3⟩ := x
  refine ⟨a, e, rs, PySem.IsL.isList (n := n) (h1.get I), h2, fun i hi => ?_⟩
  obtain ⟨r, ws, k, a1, a2, a3⟩ := h3 i hi
  exact ⟨r, ws, a1, PySem.IsL.isList (n := k) (a2.get I), a3⟩
theorem pNotInR {α : Type} {b : Bool} {a : Addr} {vs : List Value} {n : Nat} {x : Value} (k : α) (ks : List α) (R : Heap → Value → α → Prop) (hl : Has c nw a (W.listOf vs.toArray n)) (hlen : vs.length = ks.length)
    (hR : ∀ h, In c m nw h → ∀ (i : Nat) (hi : i < ks.length), ∃ v, vs[i]? = some v ∧ R h v ks[i]) (hinj : ∀ h v k1 k2, R h v k1 → R h v k2 → k1 = k2)
    (he : ∀ h tk v k', In c m nw h → R h v k' → ∃ b, (b = true ↔ k' = k) ∧ PySem.SeqAt.EqAt c.A.in1 (c.st h tk) v x b) (hb : b = true ↔ k ∉ ks) (q : Q (.bool b) m nw) : P c (compareOp .NotIn x (.ref a)) Q m nw := fun h tk I => by
  classical
  refine PySem.SeqAt.notIn_listAt (fun v => decide (R h v k)) (PySem.IsL.isList (n := n) (hl.get I)) (fun y hy => ?_) ?_
  · have hy : y ∈ vs := by simpa using hy
    obtain ⟨i, hi, e⟩ := List.getElem_of_mem hy
    obtain ⟨v, h1, h2⟩ := hR h I i (hlen ▸ hi)
    rw [List.getElem?_eq_getElem hi, e] at h1
    cases h1
    obtain ⟨b', q1, q2⟩ := he h tk _ _ I h2
    rw [show decide (R h y k) = b' from by
      rw [Bool.eq_iff_iff, decide_eq_true_iff, q1]
      exact ⟨fun z => hinj h y _ _ h2 z, fun z => z ▸ h2⟩]
    exact q2
  · rw [← Array.any_toList]
    have e : (vs.toArray.toList.any fun v => decide (R h v k)) = decide (k ∈ ks) := by
      rw [Bool.eq_iff_iff, decide_eq_true_iff, List.any_eq_true]
      constructor
      · rintro ⟨y, hy, z⟩
        obtain ⟨i, hi, e⟩ := List.getElem_of_mem (show y ∈ vs by simpa using hy)
        obtain ⟨v, h1, h2⟩ := hR h I i (hlen ▸ hi)
        rw [List.getElem?_eq_getElem hi, e] at h1
        cases h1
        rw [← hinj h y _ _ h2 (of_decide_eq_true z)]
        exact List.getElem_mem _
      · intro hk
        obtain ⟨i, hi, e⟩ := List.getElem_of_mem hk
        obtain ⟨v, h1, h2⟩ := hR h I i hi
        exact ⟨v, by simpa using List.mem_of_getElem? h1, decide_eq_true (e ▸ h2)⟩
    rw [e, show (!decide (k ∈ ks)) = b from by rw [Bool.eq_iff_iff, hb]; simp]
    exact ⟨_, _, _, _, rfl, I, q⟩
/-- a list of ints, in a heap -/
noncomputable def IntsH (h : Heap) (v : Value) (ks : List Nat) : Prop := ∃ r ws, v = .ref r ∧ h.IsList r (List.toArray ws) ∧ IA ws ks
theorem IntsH.inj (h : Heap) (v : Value) (k1 k2 : List Nat) (x : IntsH h v k1) (y : IntsH h v k2) : k1 = k2 := by
  obtain ⟨r, ws, rfl, a, b⟩ := x
  obtain ⟨r', ws', e, a', b'⟩ := y
  cases e
  have := isList_inj a a'
  subst this
  exact b.inj b'
/-- `[] not in on` -/
theorem pNotInNil {e0 : Addr} {k0 : Nat} {on : List (List Nat)} {v : Value} (hu : c.A.units + 3 < cLine) (hon : OnAt c nw v on) (he0 : Has c nw e0 (W.listOf ([] : List Value).toArray k0)) (q : Q (.bool (decide ([] ∉ on))) m nw) : P c (compareOp .NotIn (.ref e0) v) Q m nw := by
  obtain ⟨a, rs, n, rfl, h1, h2, h3⟩ := hon
  refine pNotInR (α := List Nat) [] on IntsH h1 (by simpa using h2) (fun h I i hi => ?_) IntsH.inj (fun h tk v k' I hv => ?_) decide_eq_true_iff q
  · obtain ⟨r, ws, k, a1, a2, a3⟩ := h3 i hi
    exact ⟨.ref r, by simp [a1], r, ws, rfl, PySem.IsL.isList (n := k) (a2.get I), a3⟩
  · obtain ⟨r, ws, rfl, a1, a2⟩ := hv
    exact ⟨_, decide_eq_true_iff, eqInts (by show c.A.units + 1 + 1 < cLine; lia) a1 (PySem.IsL.isList (n := k0) (he0.get I)) a2 .nil⟩
/-- `places not in seen` -/
theorem pNotInSeen {a : Addr} {vs : List Value} {n : Nat} {seen : List (List (List Nat))} {on : List (List Nat)} {v : Value} (hu : c.A.units + 4 < cLine) (hl : Has c nw a (W.listOf vs.toArray n)) (hlen : vs.length = seen.length) (hs : ∀ (i : Nat) (hi : i < seen.length), ∃ v, vs[i]? = some v ∧ OnAt c nw v seen[i])
    (hon : OnAt c nw v on) (q : Q (.bool (decide (on ∉ seen))) m nw) : P c (compareOp .NotIn v (.ref a)) Q m nw := by
  refine pNotInR (α := List (List Nat)) on seen (fun h v on => ∃ a, v = .ref a ∧ OnH h a on) hl hlen (fun h I i hi => ?_) (fun h v k1 k2 ⟨a1, e1, x1⟩ ⟨a2, e2, x2⟩ => ?_) (fun h tk v k' I hv => ?_) decide_eq_true_iff q
  · obtain ⟨v, h1, h2⟩ := hs i hi
    exact ⟨v, h1, h2.toH I⟩
  · subst e1
    cases e2
    exact x1.inj x2
  · obtain ⟨a1, rfl, x1⟩ := hv
    obtain ⟨a2, rfl, x2⟩ := hon.toH I
    exact ⟨_, decide_eq_true_iff, eqOn (by show c.A.units + 1 + 2 < cLine; lia) x1 x2⟩
theorem pStepF {pa la : Addr} {ps vs : List Value} {n1 n2 ch : Nat} {t0 : Tok} {row : List Pt} {ks : List Nat} (r : Rm c.A 4) (T : G mg mb fa c.b) (hp : Has c nw pa (W.listOf ps.toArray n1)) (hP : RowA ps row) (hl : Has c nw la (W.listOf vs.toArray n2)) (hL : IA vs ks) (hz : row.length ≤ 2 ^ 10) (hz2 : ks.length ≤ 2 ^ 10)
    (q : ∀ a ws, (∀ p ∈ nw, p.1 ≠ a) → IA ws (stepF row ks ch) → Q (.ref a) m ((a, W.listOf ws.toArray 0) :: nw)) : P c (call (.ref (fa 18)) [.ref pa, .ref la, .str ⟨#[ch]⟩ t0]) Q m nw := fun h tk I =>
  wpAny_call (step_c r (T.keeps I.F.keep) ((T.fn 18 (by decide)).2.keeps I.F.keep) (hp.get I) hP (hl.get I) hL hz hz2 fun h' tk' a ws k hn hg hw =>
    let ⟨I', f⟩ := inFresh I k hn hg
    ⟨_, _, _, _, rfl, I', q a ws f hw⟩)
end
/-- ahead of a turn of the search: what stands and does not change -/
structure FI (c : Cx) (X : Heap → Prop) (ra d K H : Addr) (ka ia : Nat → Addr) (pairs : List It) (seen : List (List (List Nat))) (m : Mp) (nw : Nw) : Prop where
  mrows : m.lookup ("rows" : Str) = some (.ref ra)
  mprices : m.lookup ("prices" : Str) = some (.ref d)
  mkey : m.lookup ("key" : Str) = some (.ref K)
  mheap : m.lookup ("heap" : Str) = some (.ref H)
  mseen : ∃ (a : Addr) (vs : List Value) (n : Nat), m.lookup ("seen" : Str) = some (.ref a) ∧ Has c nw a (W.listOf (List.toArray vs) n) ∧ vs.length = seen.length ∧ ∀ (i : Nat) (hi : i < seen.length), ∃ v, vs[i]? = some v ∧ OnAt c nw v seen[i]
  mpairs : ∃ (a : Addr) (es : List Addr) (n : Nat), m.lookup ("pairs" : Str) = some (.ref a) ∧ Has c nw a (W.listOf (es.map Value.ref).toArray n) ∧ es.length = pairs.length ∧ ∀ (i : Nat), i < pairs.length → ∃ e k, es[i]? = some e ∧ Has c nw e (W.listOf [.ref (ka i), .ref (ia i)].toArray k)
  pr : Pairs c nw K ka ia pairs
  kin : ∀ (i : Nat), i < pairs.length → ∃ o, (ka i, o) ∈ nw
  inj : ∀ (i j : Nat), i < pairs.length → j < pairs.length → ka i = ka j → i = j
  hk : HH c nw X
/-- lookups alone -/
structure LK (ra d K H : Addr) (vs vp : Value) (m : Mp) : Prop where
  mrows : m.lookup ("rows" : Str) = some (.ref ra)
  mprices : m.lookup ("prices" : Str) = some (.ref d)
  mkey : m.lookup ("key" : Str) = some (.ref K)
  mheap : m.lookup ("heap" : Str) = some (.ref H)
  mseen : m.lookup ("seen" : Str) = some vs
  mpairs : m.lookup ("pairs" : Str) = some vp
theorem FI.more {c : Cx} {X : Heap → Prop} {ra d K H : Addr} {ka ia : Nat → Addr} {pairs : List It} {seen : List (List (List Nat))} {m m' : Mp} {nw nw' : Nw} (x : FI c X ra d K H ka ia pairs seen m nw) (h : ∀ p ∈ nw, p ∈ nw')
    (hm : ∀ y, y ∈ ([Str.ofString "rows", "prices", "key", "heap", "seen", "pairs"] : List Str) → m'.lookup y = m.lookup y) : FI c X ra d K H ka ia pairs seen m' nw' where
  mrows := (hm _ (by decide)).trans x.mrows
  mprices := (hm _ (by decide)).trans x.mprices
  mkey := (hm _ (by decide)).trans x.mkey
  mheap := (hm _ (by decide)).trans x.mheap
  mseen := by
    obtain ⟨a, vs, n, h1, h2, h3, h4⟩ := x.mseen
    exact ⟨a, vs, n, (hm _ (by decide)).trans h1, h2.more h, h3, fun i hi => let ⟨v, a1, a2⟩ := h4 i hi; ⟨v, a1, a2.more h⟩⟩
  mpairs := by
    obtain ⟨a, es, n, h1, h2, h3, h4⟩ := x.mpairs
    exact ⟨a, es, n, (hm _ (by decide)).trans h1, h2.more h, h3, fun i hi => let ⟨e, k, a1, a2⟩ := h4 i hi; ⟨e, k, a1, a2.more h⟩⟩
  pr := x.pr.more h
  kin := fun i hi => let ⟨o, ho⟩ := x.kin i hi; ⟨o, h _ ho⟩
  inj := x.inj
  hk := x.hk.more h
/-- the list that a comprehension of lists has made -/
theorem onAt_of {c : Cx} {nw : Nw} {D : Addr} {n : Nat} {zs : List (Nat × Value × Nw)} {on : List (List Nat)} (hD : (D, W.listOf (zs.map (·.2.1)).toArray n) ∈ nw) (hi : zs.map (·.1) = List.range on.length)
    (hz : ∀ z ∈ zs, ∃ a ws k, z.2.1 = .ref a ∧ (a, W.listOf (List.toArray ws) k) ∈ nw ∧ ∀ (h : z.1 < on.length), IA ws on[z.1]) : OnAt c nw (.ref D) on := by
  have hl : zs.length = on.length := by simpa using congrArg List.length hi
  have hget : ∀ (i : Nat) (h : i < zs.length), (zs[i]).1 = i := fun i h => by
    have := congrArg (·[i]?) hi
    simp [h, hl ▸ h] at this
    exact this
  refine ⟨D, zs.map (fun z => match z.2.1 with | .ref a => a | _ => 0), n, rfl, ?_, by simpa using hl, fun i h => ?_⟩
  · have e : (zs.map fun z => z.2.1) = (zs.map (fun z => match z.2.1 with | .ref a => a | _ => 0)).map Value.ref := by
      rw [List.map_map]
      refine List.map_congr_left fun z hz' => ?_
      obtain ⟨a, _, _, e, _⟩ := hz z hz'
      show z.2.1 = Value.ref (match z.2.1 with | .ref a => a | _ => 0)
      rw [e]
    rw [← e]
    exact .inr hD
  · have h' : i < zs.length := hl ▸ h
    obtain ⟨a, ws, k, e, e2, e3⟩ := hz _ (List.getElem_mem h')
    refine ⟨a, ws, k, by simp [h', e], .inr e2, ?_⟩
    have := e3 (by rw [hget i h']; exact h)
    simpa [hget i h'] using this
end
section
open PySem PySem.W PyProof.Rows PySem.Calls PySem.Builtin PySem.W.X
set_option maxRecDepth 100000


noncomputable def whBody : List Stmt := match (bodOf (stAt 20))[4]? with | some (Stmt.While _ b _ _) => b | _ => []
noncomputable def seenBody : List Stmt := match whBody[3]? with | some (Stmt.If _ b _ _) => b | _ => []
noncomputable def flBody : List Stmt := match seenBody[1]? with | some (Stmt.For _ _ b _ _) => b | _ => []
theorem univ_len : ∀ {rows : List (List Pt)} {on : List (List Nat)}, on ∈ univ rows → on.length = rows.length ∧ ∀ (i : Nat) (h : i < on.length) (h' : i < rows.length), on[i].length ≤ rows[i].length + 1
  | [], on, h => by simp [univ] at h; subst h; exact ⟨rfl, fun i h => nomatch h⟩
  | r :: rs, on, h => by
    unfold univ at h
    obtain ⟨s, hs, h⟩ := List.mem_flatMap.mp h
    obtain ⟨o, ho, rfl⟩ := List.mem_map.mp h
    obtain ⟨a, b⟩ := univ_len ho
    have hsl : ∀ {s l : List Nat}, s ∈ allSubs l → s.length ≤ l.length := by
      intro s l
      induction l generalizing s with
      | nil => intro h; simp [allSubs] at h; subst h; exact Nat.le_refl _
      | cons x l ih =>
        intro h
        rcases List.mem_append.mp h with h | h
        · obtain ⟨z, hz, rfl⟩ := List.mem_map.mp h
          exact Nat.succ_le_succ (ih hz)
        · exact Nat.le_succ_of_le (ih h)
    refine ⟨by simp [a], fun i h1 h2 => ?_⟩
    cases i with
    | zero => simpa using hsl hs
    | succ i => simpa using b i (by simpa using h1) (by simpa using h2)
theorem front3 {α : Type} {A B : List α} {x y z : α} : ∀ p ∈ x :: y :: z :: (A ++ B), p ∈ A ++ (x :: y :: z :: B) := fun p hp => by
  simp only [List.mem_cons, List.mem_append] at hp ⊢
  rcases hp with rfl | rfl | rfl | hp | hp <;> simp [*]
theorem lk1 {m m' : Mp} {k : Str} {v : Value} {l : List Str} (h : ∀ y ∈ l, (y == k) = false) (hm : ∀ y ∈ l, m'.lookup y = m.lookup y) : ∀ y ∈ l, List.lookup y ((k, v) :: m') = m.lookup y := fun y hy => by
  rw [List.lookup_cons, h y hy]; exact hm y hy
noncomputable abbrev fiN : List Str := [Str.ofString "rows", "prices", "key", "heap", "seen", "pairs"]
theorem pGetR {c : Cx} {m : Mp} {nw : Nw} {Q : Value → Mp → Nw → Prop} {value slice : Expr} {a : Addr} {vs : List Value} {n p : Nat} {t : Tok} {x : Value} (hl : Has c nw a (W.listOf vs.toArray n)) (hx : vs[p]? = some x) (hp : p < 2 ^ 40) (q : Q x m nw)
    (hs' : subscripted slice false (.ref a) (.int (p : Int) t) = operate [.ref a, .int (p : Int) t] (getItem (.ref a) (.int (p : Int) t)) := by with_unfolding_all rfl) :
    P c (subscriptTail value slice (.ref a) (.int (p : Int) t)) Q m nw := fun _ _ I =>
  item_listR (PySem.IsL.isList (n := n) (hl.get I)) (Int.natCast_nonneg p) (by lia) (by rw [Int.toNat_natCast]; simpa using hx) ⟨_, _, _, _, rfl, I, q⟩ hs'
noncomputable def upd (f : Nat → Addr) (k : Nat) (a : Addr) (i : Nat) : Addr := if i = k then a else f i
theorem upd_self {f : Nat → Addr} {k : Nat} {a : Addr} : upd f k a k = a := if_pos rfl
theorem upd_ne {f : Nat → Addr} {k i : Nat} {a : Addr} (h : i ≠ k) : upd f k a i = f i := if_neg h
theorem keyL_upd {ka : Nat → Addr} {hs : List Nat} {n k : Nat} {a : Addr} (h : ∀ i ∈ hs, i < k) : keyL ka hs n = keyL (upd ka k a) hs n := by
  unfold keyL keys
  rw [show hs.map (fun i => Value.ref (ka i)) = hs.map (fun i => Value.ref (upd ka k a i)) from List.map_congr_left fun i hi => by rw [upd_ne (Nat.ne_of_lt (h i hi))]]
theorem FI.push {c : Cx} {X : Heap → Prop} {ra d K H : Addr} {ka ia : Nat → Addr} {pairs : List It} {seen : List (List (List Nat))} {m m' : Mp} {nw nw' : Nw} {y : It} {xk dx a1 b1 b3 pa : Addr} {es : List Addr} {pn k1 k3 : Nat} (F : FI c X ra d K H ka ia pairs seen m nw) (sub : ∀ p ∈ nw, p ∈ nw')
    (hx : (xk, kinst K dx (.ref a1)) ∈ nw') (hdx : (dx, emptyDict) ∈ nw') (hy : ItemAt c nw' a1 y) (hb1 : (b1, W.listOf [.ref xk, .ref a1].toArray k1) ∈ nw') (hb3 : (b3, W.listOf (es.map Value.ref ++ [Value.ref b1]).toArray k3) ∈ nw')
    (P2 : Has c nw pa (W.listOf (es.map Value.ref).toArray pn)) (P3 : es.length = pairs.length) (P4 : ∀ (i : Nat), i < pairs.length → ∃ e k, es[i]? = some e ∧ Has c nw e (W.listOf [.ref (ka i), .ref (ia i)].toArray k))
    (fx : ∀ p ∈ nw, p.1 ≠ xk) (hname : y.name.length < 2 ^ 20) (hm : ∀ z, z ∈ ([Str.ofString "rows", "prices", "key", "heap", "seen"] : List Str) → m'.lookup z = m.lookup z) (hp : m'.lookup ("pairs" : Str) = some (.ref b3)) :
    FI c X ra d K H (upd ka pairs.length xk) (upd ia pairs.length a1) (pairs ++ [y]) seen m' nw' where
  mrows := (hm _ (by decide)).trans F.mrows
  mprices := (hm _ (by decide)).trans F.mprices
  mkey := (hm _ (by decide)).trans F.mkey
  mheap := (hm _ (by decide)).trans F.mheap
  mseen := by
    obtain ⟨a, vs, n, h1, h2, h3, h4⟩ := F.mseen
    exact ⟨a, vs, n, (hm _ (by decide)).trans h1, h2.more sub, h3, fun i hi => let ⟨v, a1, a2⟩ := h4 i hi; ⟨v, a1, a2.more sub⟩⟩
  mpairs := by
    refine ⟨b3, es ++ [b1], k3, hp, .inr (by simpa using hb3), by simp [P3], fun i hi => ?_⟩
    by_cases h : i < pairs.length
    · obtain ⟨e, k, q1, q2⟩ := P4 i h
      refine ⟨e, k, by rw [List.getElem?_append_left (by lia)]; exact q1, ?_⟩
      rw [upd_ne (Nat.ne_of_lt h), upd_ne (Nat.ne_of_lt h)]
      exact q2.more sub
    · have : i = pairs.length := by simp at hi; lia
      subst this
      refine ⟨b1, k1, by rw [← P3]; simp, ?_⟩
      rw [upd_self, upd_self]
      exact .inr hb1
  pr := by
    refine ⟨fun i hi => ?_, fun i hi => ?_, fun i hi => ?_⟩
    all_goals by_cases h : i < pairs.length
    · rw [upd_ne (Nat.ne_of_lt h), upd_ne (Nat.ne_of_lt h)]; exact (F.pr.key i h).more sub
    · have : i = pairs.length := by simp at hi; lia
      subst this
      rw [upd_self, upd_self]; exact ⟨dx, .inr hx, .inr hdx⟩
    · rw [upd_ne (Nat.ne_of_lt h), itemOf_app y h]; exact (F.pr.item i h).more sub
    · have : i = pairs.length := by simp at hi; lia
      subst this
      rw [upd_self, itemOf_new]; exact hy
    · rw [itemOf_app y h]; exact F.pr.name i h
    · have : i = pairs.length := by simp at hi; lia
      subst this
      rw [itemOf_new]; exact hname
  kin := fun i hi => by
    by_cases h : i < pairs.length
    · obtain ⟨o, ho⟩ := F.kin i h
      exact ⟨o, by rw [upd_ne (Nat.ne_of_lt h)]; exact sub _ ho⟩
    · have : i = pairs.length := by simp at hi; lia
      subst this
      exact ⟨_, by rw [upd_self]; exact hx⟩
  inj := fun i j hi hj e => by
    simp only [List.length_append, List.length_cons, List.length_nil] at hi hj
    by_cases h : i < pairs.length
    · by_cases h2 : j < pairs.length
      · rw [upd_ne (Nat.ne_of_lt h), upd_ne (Nat.ne_of_lt h2)] at e
        exact F.inj i j h h2 e
      · have : j = pairs.length := by lia
        subst this
        rw [upd_ne (Nat.ne_of_lt h), upd_self] at e
        obtain ⟨o, ho⟩ := F.kin i h
        exact absurd e (fx _ ho)
    · have : i = pairs.length := by lia
      subst this
      by_cases h2 : j < pairs.length
      · rw [upd_ne (Nat.ne_of_lt h2), upd_self] at e
        obtain ⟨o, ho⟩ := F.kin j h2
        exact absurd e.symm (fx _ ho)
      · lia
  hk := F.hk.more sub
section
variable {c : Cx} {m : Mp} {rest ext : Nw} {mg mb : Str → Option Value} {fa : Nat → Addr} {pr : Nat → Nat} {d ra K C H : Addr} {ta tb tc t u us : Tok} {rows : List (List Pt)} {X : Heap → Prop} {ka ia : Nat → Addr} {pairs : List It} {seen : List (List (List Nat))} {hs : List Nat} {n i : Nat} {o1 o2 : Obj} {x : It} {vo cd : Value} {a : Addr} {QF : Flow → Mp → Nw → Prop}
theorem tail3 {α : Type} {l l' : List α} {a b c : α} (h : ∀ p ∈ l, p ∈ l') : ∀ p ∈ l, p ∈ a :: b :: c :: l' := fun p hp => .tail _ (.tail _ (.tail _ (h p hp)))
set_option maxHeartbeats 4000000 in
theorem kid_turn (r : Rm c.A 18) (G0 : G mg mb fa c.b) (DD : ∃ o, c.b.get? d = some o ∧ o.IsDictOf (strKind c.prog c.w) (prD pr ta tb tc)) (RR : RowsH c.b ra rows) (hrow : ∀ row ∈ rows, row.length ≤ 1000) (hrl : rows.length ≤ 1000)
    (hX : ∀ h, X h → KC c.w mg K C (fa 19) h) (F : FI c X ra d K H ka ia pairs seen m rest) (hext : ∀ q ∈ ext, q.1 ≠ H ∧ q.1 ≠ c.L + 1 ∧ q.1 ≠ c.L + 2) (hrest : ∀ q ∈ rest, q.1 ≠ H ∧ q.1 ≠ c.L + 1 ∧ q.1 ≠ c.L + 2) (hH : H ≠ c.L + 1 ∧ H ≠ c.L + 2)
    (d2 : o2.data = .cell (some (.str (S [97 + i]) us))) (hi : i < 3) (mp : m.lookup ("price" : Str) = some (.int (x.price : Int) t)) (mn : m.lookup ("name" : Str) = some (.str (S x.name) u)) (mo : m.lookup ("places" : Str) = some vo) (hon : OnAt c rest vo x.on) (hxu : x.on ∈ univ rows)
    (hnl : x.name.length < 2 ^ 18) (hpl : pairs.length < 2 ^ 18) (hhl : hs.length < 2 ^ 18) (hd : ∀ i ∈ hs, i < pairs.length)
    (q : ∀ m' new ka' ia' n', FI c X ra d K H ka' ia' (addKid rows pr x (pairs, hs) (97 + i)).1 seen m' (new ++ rest) → (∀ p ∈ new, (∀ q ∈ ext ++ rest, q.1 ≠ p.1) ∧ p.1 ≠ H ∧ p.1 ≠ c.L + 1 ∧ p.1 ≠ c.L + 2) →
      m'.lookup ("price" : Str) = some (.int (x.price : Int) t) → m'.lookup ("name" : Str) = some (.str (S x.name) u) → m'.lookup ("places" : Str) = some vo →
      QF .next m' ((H, keyL ka' (addKid rows pr x (pairs, hs) (97 + i)).2 n') :: (c.L + 1, o1) :: (c.L + 2, o2) :: (new ++ (ext ++ rest)))) :
    P c (execs flBody (envOfC (nameOf (stAt 20)) (scpOf (stAt 20)) c.L a cd)) QF m ((H, keyL ka hs n) :: (c.L + 1, o1) :: (c.L + 2, o2) :: (ext ++ rest)) := by
  have habc : 97 + i ∈ abc := by
    simp only [abc, List.mem_cons, List.not_mem_nil, or_false]; lia
  obtain ⟨hxl, hxk⟩ := univ_len hxu
  obtain ⟨rs, rn, R1, R2, R3⟩ := RR
  obtain ⟨oa, os, on, rfl, O1, O2, O3⟩ := id hon
  have hmin : min (rs.map Value.ref).length (os.map Value.ref).length = rows.length := by simp; lia
  have sub0 : ∀ p ∈ rest, p ∈ ((H, keyL ka hs n) :: (c.L + 1, o1) :: (c.L + 2, o2) :: (ext ++ rest)) := tail3 fun p hp => List.mem_append_right _ hp
  refine pCons ?_
  refine pAssignCompE (xs := ["row", "place"]) (p := fun _ => true) (El := fun i' y mk => ∃ a ws, y = .ref a ∧ mk = [(a, W.listOf (List.toArray ws) 0)] ∧ ∀ (h : i' < rows.length) (h2 : i' < x.on.length), IA ws (stepF rows[i'] x.on[i'] (97 + i)))
    (evZip (c := c) r.hd G0 (.inl R1) (O1.more sub0) F.mrows mo) ?_ ?_ (by rfl) rfl (by rfl) (by rfl) (by rw [hmin]; lia) (by rfl) (by decide) (by rfl) (by decide) (by decide)
  · rintro h1 C1 I1 i' vals m0 nw' hi' ⟨v1, v2, e1, e2, rfl⟩
    rw [hmin] at hi'
    obtain ⟨pa, ps, k1, p1, p2, p3⟩ := R3 i' hi'
    obtain ⟨la, ws, k2, l1, l2, l3⟩ := O3 i' (by lia)
    have e1' : v1 = .ref pa := by simpa [p1] using e1.symm
    have e2' : v2 = .ref la := by simpa [l1] using e2.symm
    subst e1' e2'
    have G1 : G mg mb fa h1 := G0.keeps I1.F.keep
    have cS : ∀ nw, CellA { c with b := h1, L := C1 } nw (c.L + 2) (.str (S [97 + i]) us) := fun _ => ⟨o2, .inl (I1.N _ (.tail _ (.tail _ (.head _)))).1, d2⟩
    refine pTests0 ?_
    refine ⟨fun _ h => h, rfl, fun _ => ?_⟩
    refine pCall ?_
    refine pFnE 18 G1 ?_
    refine pWithG (G1.fn 18 (by decide)).2 ?_
    refine pArgs ?_
    refine pNameE rfl ?_
    refine pArgs ?_
    refine pNameE rfl ?_
    refine pArgs ?_
    refine pCellE rfl (by first | assumption | (apply_assumption; done) | (apply_assumption; assumption) | (apply_assumption; intro p hp; (repeat (first | assumption | refine List.mem_cons_of_mem _ ?_)); done)) ?_
    refine pArgs0 ?_
    refine pStepF (r.mono (by lia)) G1 (.inl (I1.F.keep _ _ p2)) p3 (.inl ((l2.more sub0).get I1)) l3 (Nat.le_trans (hrow _ (List.getElem_mem hi')) (by decide)) ?_ fun b ws2 fb hw => ?_
    · have := hxk i' (by lia) hi'
      have := hrow _ (List.getElem_mem hi')
      lia
    · exact ⟨[(b, _)], fun q hq => .tail _ hq, fun q hq => by rw [List.mem_singleton.mp hq]; exact ⟨.head _, fb⟩, b, ws2, rfl, rfl, fun _ _ => hw⟩
  · intro D zs n2 hne hap G'
    have hnx : (nextOn rows x.on (97 + i)).length = rows.length := by simp [nextOn]; lia
    have hon' : OnAt c (((D, W.listOf (zs.map (·.2.1)).toArray n2) :: zs.flatMap (·.2.2)) ++ rest) (.ref D) (nextOn rows x.on (97 + i)) := by
      refine onAt_of (List.mem_append_left _ (.head _)) (by rw [G'.is, hmin, hnx]; simp) fun z hz => ?_
      obtain ⟨b, ws, e1, e2, e3⟩ := G'.el z hz
      refine ⟨b, ws, 0, e1, List.mem_append_left _ (.tail _ (List.mem_flatMap.mpr ⟨z, hz, by rw [e2]; exact .head _⟩)), fun h => ?_⟩
      have := e3 (by lia) (by lia)
      simpa [nextOn] using this
    generalize zs.flatMap (·.2.2) = zn at hne hap hon' ⊢
    generalize W.listOf (zs.map (·.2.1)).toArray n2 = oD at hon' ⊢
    clear G'
    have hon2 : OnAt c (((D, oD) :: zn) ++ rest) (.ref D) (nextOn rows x.on (97 + i)) := hon'
    refine pNw (nw' := (H, keyL ka hs n) :: (c.L + 1, o1) :: (c.L + 2, o2) :: (((D, oD) :: zn) ++ (ext ++ rest))) ?_ (front3 (A := (D, oD) :: zn))
    have new0 : ∀ p ∈ (D, oD) :: zn, ∀ q ∈ (H, keyL ka hs n) :: (c.L + 1, o1) :: (c.L + 2, o2) :: (ext ++ rest), q.1 ≠ p.1 := fun p hp q hq => by
      rcases List.mem_cons.mp hp with rfl | hp
      · exact hne q (List.mem_append_right _ hq)
      · exact hap p hp q hq
    generalize hN0 : ((D, oD) :: zn) = new at new0 hon2 ⊢
    have C2 : ∀ nw', (∀ p ∈ (H, keyL ka hs n) :: (c.L + 1, o1) :: (c.L + 2, o2) :: (new ++ (ext ++ rest)), p ∈ nw') → CellA c nw' (c.L + 2) (.str (S [97 + i]) us) := fun nw' h => ⟨o2, .inr (h _ (.tail _ (.tail _ (.head _)))), d2⟩
    have on3 : ∀ nw', (∀ p ∈ (H, keyL ka hs n) :: (c.L + 1, o1) :: (c.L + 2, o2) :: (new ++ (ext ++ rest)), p ∈ nw') → OnAt c nw' (.ref D) (nextOn rows x.on (97 + i)) := fun nw' h => hon2.more fun p hp => h p (tail3 (fun p hp => (List.mem_append.mp hp).elim (List.mem_append_left _) fun hp => List.mem_append_right _ (List.mem_append_right _ hp)) p hp)
    clear hne hap hon'
    refine pCons ?_
    refine pIf ?_
    refine pIsCmp ?_
    refine pList ?_
    refine pArgs0 ?_
    refine ⟨Nat.le_of_ble_eq_true rfl, fun e0 fe0 => ?_⟩
    refine pNameE rfl ?_
    refine pNotInNil (by have := r.un; show c.A.units + 3 < 9900; lia) (on3 _ fun p hp => .tail _ hp) (.inr (.head _)) ?_
    refine pTrue ?_
    by_cases hch : [] ∈ nextOn rows x.on (97 + i)
    · rw [if_neg (by simpa using hch)]
      have hk : addKid rows pr x (pairs, hs) (97 + i) = (pairs, hs) := by unfold addKid; exact if_pos hch
      rw [hk] at q
      refine pNil ?_
      refine pNw (nw' := (H, keyL ka hs n) :: (c.L + 1, o1) :: (c.L + 2, o2) :: (([(e0, W.listOf ([] : List Value).toArray 0)] ++ new) ++ (ext ++ rest))) ?_ ?_
      · refine pNil ?_
        refine q _ _ ka ia n (F.more (fun p hp => List.mem_append_right _ hp) (lk1 (by decide) fun _ _ => rfl)) (fun p hp => ?_) mp mn mo
        have fr : ∀ q ∈ (H, keyL ka hs n) :: (c.L + 1, o1) :: (c.L + 2, o2) :: (ext ++ rest), q.1 ≠ p.1 := fun q hq => by
          rcases List.mem_cons.mp hp with rfl | hp
          · exact fe0 q (by rcases List.mem_cons.mp hq with rfl | hq; exact .head _; rcases List.mem_cons.mp hq with rfl | hq; exact .tail _ (.head _); rcases List.mem_cons.mp hq with rfl | hq; exact .tail _ (.tail _ (.head _)); exact .tail _ (.tail _ (.tail _ (List.mem_append_right _ hq))))
          · exact new0 p hp q hq
        exact ⟨fun q hq => fr q (.tail _ (.tail _ (.tail _ hq))), (fr _ (.head _)).symm, (fr _ (.tail _ (.head _))).symm, (fr _ (.tail _ (.tail _ (.head _)))).symm⟩
      · intro p hp
        have := front3 (A := [(e0, W.listOf ([] : List Value).toArray 0)]) p hp
        exact this
    · rw [if_pos (by simpa using hch)]
      have f1 := F.mprices
      have f2 := F.mkey
      have f3 := F.mheap
      obtain ⟨pa, es, pn, f4, P2, P3, P4⟩ := F.mpairs
      refine pCons ?_
      refine pAssign ?_
      refine pList ?_
      refine pArgs ?_
      refine pBin ?_
      refine pNameE (by assumption) ?_
      refine pSub ?_
      refine pNameE (by assumption) ?_
      refine pCellE rfl (by first | assumption | (apply_assumption; done) | (apply_assumption; assumption) | (apply_assumption; intro p hp; (repeat (first | assumption | refine List.mem_cons_of_mem _ ?_)); done)) ?_
      obtain ⟨t5, h5⟩ := prD_get (pr := pr) (ta := ta) (tb := tb) (tc := tc) habc
      refine pDictGet (kvs := prD pr ta tb tc) (let ⟨o, z1, z2⟩ := DD; ⟨o, .inl z1, z2⟩) h5 ?_
      refine pAdd fun _ => ?_
      refine pArgs ?_
      refine pBin ?_
      refine pNameE (by assumption) ?_
      refine pCellE rfl (by first | assumption | (apply_assumption; done) | (apply_assumption; assumption) | (apply_assumption; intro p hp; (repeat (first | assumption | refine List.mem_cons_of_mem _ ?_)); done)) ?_
      refine pAddS (p := x.name) (q := [97 + i]) (by simp only [List.length_cons, List.length_nil]; lia) fun t6 => ?_
      refine pArgs ?_
      refine pNameE rfl ?_
      refine pArgs0 ?_
      refine ⟨Nat.le_of_ble_eq_true rfl, fun a1 fa1 => ?_⟩
      generalize hO1 : W.listOf (List.toArray [Value.int ((x.price : Int) + (pr (97 + i) : Int)) _, Value.str (S (x.name ++ [97 + i])) t6, Value.ref D]) 0 = oI
      obtain ⟨t0, hO1⟩ : ∃ t0, W.listOf (List.toArray [Value.int ((x.price : Int) + (pr (97 + i) : Int)) t0, Value.str (S (x.name ++ [97 + i])) t6, Value.ref D]) 0 = oI := ⟨_, hO1⟩
      refine pStoreE ?_
      refine pCons ?_
      refine pAssign ?_
      refine pBin ?_
      refine pNameE (by assumption) ?_
      refine pList ?_
      refine pArgs ?_
      refine pList ?_
      refine pArgs ?_
      refine pCall ?_
      refine pNameE (by assumption) ?_
      refine pWithK (mg := mg) (C := C) (fc := fa 19) ?_
      refine pArgs ?_
      refine pNameE rfl ?_
      refine pArgs0 ?_
      have hKC : HH c rest (KC c.w mg K C (fa 19)) := fun h hh => hX h (F.hk h hh)
      refine ⟨hKC.more fun p hp => .tail _ (.tail _ (tail3 (fun p hp => List.mem_append_right _ (List.mem_append_right _ hp)) p hp)), ?_⟩
      refine pMk (fc := fa 19) (r.mono (by lia)) G0.nolimit (hKC.more fun p hp => .tail _ (.tail _ (tail3 (fun p hp => List.mem_append_right _ (List.mem_append_right _ hp)) p hp))) fun xk dx fxd nxd => ?_
      refine pArgs ?_
      refine pNameE rfl ?_
      refine pArgs0 ?_
      refine ⟨Nat.le_of_ble_eq_true rfl, fun b1 fb1 => ?_⟩
      refine pArgs0 ?_
      refine ⟨Nat.le_of_ble_eq_true rfl, fun b2 fb2 => ?_⟩
      refine pAddL (ws := [.ref b1]) (P2.more fun p hp => List.mem_append_right [_, _, _, _, _, _] (tail3 (fun p hp => List.mem_append_right _ (List.mem_append_right _ hp)) p hp)) (.inr (.head _)) (by simp; lia) fun b3 fb3 => ?_
      refine pStoreE ?_
      refine pCons ?_
      refine pExpr ?_
      refine pCall ?_
      refine pFnE 2 G0 ?_
      refine pWithG (G0.fn 2 (by decide)).2 ?_
      refine pArgs ?_
      refine pNameE (by assumption) ?_
      refine pArgs ?_
      refine pSub ?_
      refine pSub ?_
      refine pNameE rfl ?_
      refine pUn ?_
      refine pIntC fun _ => ?_
      refine pNeg fun _ => ?_
      refine pGetNeg1 (vs := es.map Value.ref ++ [.ref b1]) (x := .ref b1) (.inr (.head _)) (by simp) ?_
      refine pIntC fun _ => ?_
      refine pGetR (p := 0) (vs := [.ref xk, .ref a1]) (.inr (.tail _ (.tail _ (.head _)))) rfl (by decide) ?_
      refine pArgs0 ?_
      refine pNw (nw' := (H, keyL ka hs n) :: (c.L + 1, o1) :: (c.L + 2, o2) :: (([(b3, W.listOf (es.map Value.ref ++ [Value.ref b1]).toArray 0), (b2, W.listOf [Value.ref b1].toArray 0), (b1, W.listOf [Value.ref xk, Value.ref a1].toArray 0), (xk, kinst K dx (.ref a1)), (dx, emptyDict), (a1, oI), (e0, W.listOf ([] : List Value).toArray 0)] ++ new) ++ (ext ++ rest))) ?_ (fun p hp => front3 (A := [(b3, W.listOf (es.map Value.ref ++ [Value.ref b1]).toArray 0), (b2, W.listOf [Value.ref b1].toArray 0), (b1, W.listOf [Value.ref xk, Value.ref a1].toArray 0), (xk, kinst K dx (.ref a1)), (dx, emptyDict), (a1, oI), (e0, W.listOf ([] : List Value).toArray 0)]) p hp)
      generalize hN7 : ([(b3, W.listOf (es.map Value.ref ++ [Value.ref b1]).toArray 0), (b2, W.listOf [Value.ref b1].toArray 0), (b1, W.listOf [Value.ref xk, Value.ref a1].toArray 0), (xk, kinst K dx (.ref a1)), (dx, emptyDict), (a1, oI), (e0, W.listOf ([] : List Value).toArray 0)] : Nw) = N7
      have hk : addKid rows pr x (pairs, hs) (97 + i) = (pairs ++ [child rows pr x (97 + i)], pushN (ltP (pairs ++ [child rows pr x (97 + i)])) hs pairs.length) := by unfold addKid; exact if_neg hch
      rw [hk] at q
      have fr7 : ∀ p ∈ N7, ∀ q ∈ (H, keyL ka hs n) :: (c.L + 1, o1) :: (c.L + 2, o2) :: (new ++ (ext ++ rest)), q.1 ≠ p.1 := fun p hp q hq => by
        rw [← hN7] at hp
        simp only [List.mem_cons, List.not_mem_nil, or_false] at hp
        rcases hp with rfl | rfl | rfl | rfl | rfl | rfl | rfl
        · exact fb3 q (.tail _ (.tail _ (.tail _ (.tail _ (.tail _ (.tail _ hq))))))
        · exact fb2 q (.tail _ (.tail _ (.tail _ (.tail _ (.tail _ hq)))))
        · exact fb1 q (.tail _ (.tail _ (.tail _ (.tail _ hq))))
        · exact (fxd q (.tail _ (.tail _ hq))).1
        · exact (fxd q (.tail _ (.tail _ hq))).2
        · exact fa1 q (.tail _ hq)
        · exact fe0 q hq
      have frN : ∀ p ∈ N7 ++ new, ∀ q ∈ (H, keyL ka hs n) :: (c.L + 1, o1) :: (c.L + 2, o2) :: (ext ++ rest), q.1 ≠ p.1 := fun p hp q hq => by
        rcases List.mem_append.mp hp with hp | hp
        · refine fr7 p hp q ?_
          rcases List.mem_cons.mp hq with rfl | hq
          · exact .head _
          rcases List.mem_cons.mp hq with rfl | hq
          · exact .tail _ (.head _)
          rcases List.mem_cons.mp hq with rfl | hq
          · exact .tail _ (.tail _ (.head _))
          exact .tail _ (.tail _ (.tail _ (List.mem_append_right _ hq)))
        · exact new0 p hp q hq
      have in7 : ∀ p ∈ N7, p ∈ (N7 ++ new) ++ rest := fun p hp => List.mem_append_left _ (List.mem_append_left _ hp)
      have F' : FI c X ra d K H (upd ka pairs.length xk) (upd ia pairs.length a1) (pairs ++ [child rows pr x (97 + i)]) seen ((Str.ofString "pairs", Value.ref b3) :: (Str.ofString "item", Value.ref a1) :: (Str.ofString "on", Value.ref D) :: m) ((N7 ++ new) ++ rest) := by
        refine F.push (dx := dx) (b1 := b1) (k1 := 0) (k3 := 0) (fun p hp => List.mem_append_right _ hp) (in7 _ (by rw [← hN7]; simp)) (in7 _ (by rw [← hN7]; simp)) ⟨t0, t6, .ref D, 0, .inr (in7 _ ?_), hon2.more fun p hp => ?_⟩ (in7 _ (by rw [← hN7]; simp)) (in7 _ (by rw [← hN7]; simp)) P2 P3 P4 (fun p hp => ?_) ?_ (lk1 (by decide) (lk1 (by decide) (lk1 (by decide) fun _ _ => rfl))) rfl
        · rw [← hN7, ← hO1]
          exact .tail _ (.tail _ (.tail _ (.tail _ (.tail _ (.head _)))))
        · rcases List.mem_append.mp hp with hp | hp
          · exact List.mem_append_left _ (List.mem_append_right _ hp)
          · exact List.mem_append_right _ hp
        · exact (fxd p (.tail _ (.tail _ (.tail _ (.tail _ (.tail _ (List.mem_append_right _ (List.mem_append_right _ hp)))))))).1
        · show (x.name ++ [97 + i]).length < 2 ^ 20
          simp only [List.length_append, List.length_cons, List.length_nil]; lia
      have e4 : keyL ka hs n = keyL (upd ka pairs.length xk) hs n := keyL_upd hd
      have e5 : (Value.ref xk) = .ref (upd ka pairs.length xk pairs.length) := by rw [upd_self]
      rw [e5]
      rw [e4] at frN ⊢
      have sub9 : ∀ p ∈ (N7 ++ new) ++ rest, p ∈ (c.L + 1, o1) :: (c.L + 2, o2) :: ((N7 ++ new) ++ (ext ++ rest)) := fun p hp => .tail _ (.tail _ ((List.mem_append.mp hp).elim (List.mem_append_left _) fun hp => List.mem_append_right _ (List.mem_append_right _ hp)))
      refine pPush (mg := mg) (mb := mb) (K := K) (C := C) (ia := upd ia pairs.length a1) (pairs := pairs ++ [child rows pr x (97 + i)]) (r.mono (by lia)) G0 (fun h hh => hX h (F'.hk h fun a o e => hh a o (e.more sub9))) (F'.pr.more sub9) (fun p hp => ?_) (by lia) (fun j hj => by have := hd j hj; simp; lia) (by simp) ⟨rfl, ?_⟩
      · rcases List.mem_cons.mp hp with rfl | hp
        · exact hH.1.symm
        rcases List.mem_cons.mp hp with rfl | hp
        · exact hH.2.symm
        rcases List.mem_append.mp hp with hp | hp
        · exact (frN p hp _ (.head _)).symm
        rcases List.mem_append.mp hp with hp | hp
        · exact (hext p hp).1
        · exact (hrest p hp).1
      · refine pNil ?_
        refine pNil ?_
        refine q _ (N7 ++ new) _ _ _ F' (fun p hp => ⟨fun z hz => frN p hp z (.tail _ (.tail _ (.tail _ hz))), (frN p hp _ (.head _)).symm, (frN p hp _ (.tail _ (.head _))).symm, (frN p hp _ (.tail _ (.tail _ (.head _)))).symm⟩) mp mn mo
end
end
section
open PySem PySem.W PyProof.Rows PySem.Calls PySem.Builtin PySem.W.X
set_option maxRecDepth 100000


/-- the state ahead of a turn of the search's while -/
noncomputable def WSt (c : Cx) (X : Heap → Prop) (ra d K H T : Addr) (oT : Obj) (pairs : List It) (hs : List Nat) (seen : List (List (List Nat))) (m : Mp) (nw : Nw) : Prop :=
  ∃ (ka ia : Nat → Addr) (n : Nat) (o1 o2 : Obj) (v1 v2 : Option Value) (rest : Nw), nw = (H, keyL ka hs n) :: (c.L + 1, o1) :: (c.L + 2, o2) :: rest ∧ o1.data = .cell v1 ∧ o2.data = .cell v2 ∧ FI c X ra d K H ka ia pairs seen m rest ∧
    (∀ q ∈ rest, q.1 ≠ H ∧ q.1 ≠ c.L + 1 ∧ q.1 ≠ c.L + 2) ∧ (T, oT) ∈ rest
structure PB (rows : List (List Pt)) (nb pb : Nat) (pairs : List It) (hs : List Nat) : Prop where
  ok : Ok rows pairs hs
  nm : ∀ i < pairs.length, (itemOf pairs i).name.length ≤ nb
  pl : pairs.length ≤ pb
  hl : hs.length ≤ pb
theorem PB.kid {rows : List (List Pt)} {nb pb : Nat} {pairs : List It} {hs : List Nat} {pr : Nat → Nat} {x : It} {ch : Nat} (h : PB rows nb pb pairs hs) (hx : x.on.length = rows.length) (hn : x.name.length + 1 ≤ nb) : PB rows nb (pb + 1) (addKid rows pr x (pairs, hs) ch).1 (addKid rows pr x (pairs, hs) ch).2 := by
  obtain ⟨a, b, _, _⟩ := addKid_ok (pr := pr) (c := ch) hx (s := (pairs, hs)) h.ok
  refine ⟨a, ?_, ?_, Nat.le_trans b (Nat.succ_le_succ h.hl)⟩
  · unfold addKid
    split
    · exact h.nm
    · intro i hi
      simp only [List.length_append, List.length_cons, List.length_nil] at hi
      by_cases hi' : i < pairs.length
      · show (itemOf (pairs ++ [child rows pr x ch]) i).name.length ≤ nb
        rw [itemOf_app _ hi']; exact h.nm i hi'
      · have : i = pairs.length := by lia
        subst this
        show (itemOf (pairs ++ [child rows pr x ch]) pairs.length).name.length ≤ nb
        rw [itemOf_new]
        show (x.name ++ [ch]).length ≤ nb
        simpa using hn
  · unfold addKid
    split
    · exact Nat.le_succ_of_le h.pl
    · show (pairs ++ [child rows pr x ch]).length ≤ pb + 1
      rw [List.length_append]; exact Nat.succ_le_succ h.pl
/-- the pairs and the heap behind the first i signs -/
noncomputable def kidsN (rows : List (List Pt)) (pr : Nat → Nat) (x : It) (s : List It × List Nat) (i : Nat) : List It × List Nat := (abc.take i).foldl (addKid rows pr x) s
theorem kidsN_succ {rows : List (List Pt)} {pr : Nat → Nat} {x : It} {s : List It × List Nat} {i : Nat} (h : i < 3) : kidsN rows pr x s (i + 1) = addKid rows pr x (kidsN rows pr x s i) (97 + i) := by
  rcases i with _ | _ | _ | i
  · rfl
  · rfl
  · rfl
  · lia
theorem PB.kids {rows : List (List Pt)} {nb pb : Nat} {pairs : List It} {hs : List Nat} {pr : Nat → Nat} {x : It} (h : PB rows nb pb pairs hs) (hx : x.on.length = rows.length) (hn : x.name.length + 1 ≤ nb) : ∀ i, i ≤ 3 → PB rows nb (pb + i) (kidsN rows pr x (pairs, hs) i).1 (kidsN rows pr x (pairs, hs) i).2
  | 0, _ => h
  | i + 1, hi => by
    rw [kidsN_succ hi]
    exact (PB.kids h hx hn i (by lia)).kid hx hn
section
variable {c : Cx} {m : Mp} {nw : Nw} {mg mb : Str → Option Value} {fa : Nat → Addr} {pr : Nat → Nat} {d ra K C H T : Addr} {oT : Obj} {ta tb tc : Tok} {rows : List (List Pt)} {X : Heap → Prop} {pairs : List It} {seen : List (List (List Nat))} {hs : List Nat} {nb pb : Nat} {cd : Value} {a : Addr} {QF : Flow → Mp → Nw → Prop}
/-- the for of a turn -/
theorem for_turn {ka ia : Nat → Addr} {n : Nat} {o1 o2 : Obj} {v1 v2 : Option Value} {rest : Nw} {x : It} {t u : Tok} {vo : Value} (r : Rm c.A 18) (G0 : G mg mb fa c.b) (DD : ∃ o, c.b.get? d = some o ∧ o.IsDictOf (strKind c.prog c.w) (prD pr ta tb tc)) (RR : RowsH c.b ra rows) (hrow : ∀ row ∈ rows, row.length ≤ 1000) (hrl : rows.length ≤ 1000)
    (hX : ∀ h, X h → KC c.w mg K C (fa 19) h) (hH : H ≠ c.L + 1 ∧ H ≠ c.L + 2) (d1 : o1.data = .cell v1) (d2 : o2.data = .cell v2) (F : FI c X ra d K H ka ia pairs seen m rest) (hrest : ∀ q ∈ rest, q.1 ≠ H ∧ q.1 ≠ c.L + 1 ∧ q.1 ≠ c.L + 2) (hT : (T, oT) ∈ rest)
    (B : PB rows nb pb pairs hs) (hnb : nb < 2 ^ 17) (hpb : pb < 2 ^ 17) (hxn : x.name.length + 1 ≤ nb) (mp : m.lookup ("price" : Str) = some (.int (x.price : Int) t)) (mn : m.lookup ("name" : Str) = some (.str (S x.name) u)) (mo : m.lookup ("places" : Str) = some vo) (hon : OnAt c rest vo x.on) (hxu : x.on ∈ univ rows)
    (q : ∀ m' nw', WSt c X ra d K H T oT (kidsN rows pr x (pairs, hs) 3).1 (kidsN rows pr x (pairs, hs) 3).2 seen m' nw' → QF .next m' nw') :
    P c (execs (seenBody.drop 1) (envOfC (nameOf (stAt 20)) (scpOf (stAt 20)) c.L a cd)) QF m ((H, keyL ka hs n) :: (c.L + 1, o1) :: (c.L + 2, o2) :: rest) := by
  obtain ⟨hxl, _⟩ := univ_len hxu
  refine pCons ?_
  refine pForN (N := 3) (Pv := SignAt "abc") (av := [H, c.L + 1, c.L + 2]) (fun i m nw => ∃ (ka ia : Nat → Addr) (n : Nat) (o2 : Obj) (v2 : Option Value) (rest : Nw), nw = (H, keyL ka (kidsN rows pr x (pairs, hs) i).2 n) :: (c.L + 1, o1) :: (c.L + 2, o2) :: rest ∧ o2.data = .cell v2 ∧
    FI c X ra d K H ka ia (kidsN rows pr x (pairs, hs) i).1 seen m rest ∧ (∀ q ∈ rest, q.1 ≠ H ∧ q.1 ≠ c.L + 1 ∧ q.1 ≠ c.L + 2) ∧ (T, oT) ∈ rest ∧ m.lookup ("price" : Str) = some (.int (x.price : Int) t) ∧ m.lookup ("name" : Str) = some (.str (S x.name) u) ∧ m.lookup ("places" : Str) = some vo ∧ OnAt c rest vo x.on) ?_ ?_ ?_ (by intro _; rfl)
  · refine pStrC fun ts => ⟨itStr (av := [H, c.L + 1, c.L + 2]) (s := "abc") r.hd (by decide +kernel) (fun b hb => ?_), ka, ia, n, o2, v2, rest, rfl, d2, F, hrest, hT, mp, mn, mo, hon⟩
    simp only [List.mem_cons, List.not_mem_nil, or_false] at hb
    rcases hb with rfl | rfl | rfl
    · exact ⟨_, .head _⟩
    · exact ⟨_, .tail _ (.head _)⟩
    · exact ⟨_, .tail _ (.tail _ (.head _))⟩
  · rintro i v m nw ext hi hv ⟨ka, ia, n, o2, v2, rest, rfl, d2, F, hrest, hT, mp, mn, mo, hon⟩ hav
    have hv : ∃ us, v = .str (S [97 + i]) us := by
      obtain ⟨ch, us, h1, h2⟩ := hv
      rcases i with _ | _ | _ | i
      · cases h1; exact ⟨us, h2⟩
      · cases h1; exact ⟨us, h2⟩
      · cases h1; exact ⟨us, h2⟩
      · lia
    obtain ⟨us, rfl⟩ := hv
    have hext : ∀ q ∈ ext, q.1 ≠ H ∧ q.1 ≠ c.L + 1 ∧ q.1 ≠ c.L + 2 := fun q hq => ⟨hav H (.head _) q hq, hav _ (.tail _ (.head _)) q hq, hav _ (.tail _ (.tail _ (.head _))) q hq⟩
    have Bi := B.kids (pr := pr) hxl hxn i (by lia)
    refine pNw (nw' := (c.L + 2, o2) :: (H, keyL ka (kidsN rows pr x (pairs, hs) i).2 n) :: (c.L + 1, o1) :: (ext ++ rest)) ?_ (fun p hp => ?_)
    · refine pStoreCell (by rfl) d2 (fun q hq => ?_) fun o2' d2' => ?_
      · rcases List.mem_cons.mp hq with rfl | hq
        · exact hH.2
        rcases List.mem_cons.mp hq with rfl | hq
        · exact fun e => by simp only [Addr] at *; lia
        rcases List.mem_append.mp hq with hq | hq
        · exact (hext q hq).2.2
        · exact (hrest q hq).2.2
      · refine pNw (nw' := (H, keyL ka (kidsN rows pr x (pairs, hs) i).2 n) :: (c.L + 1, o1) :: (c.L + 2, o2') :: (ext ++ rest)) ?_ (fun p hp => ?_)
        · show P c (execs flBody _) _ _ _
          refine kid_turn (pr := pr) r G0 DD RR hrow hrl hX F hext hrest hH d2' hi mp mn mo hon hxu (by lia) (by have := Bi.pl; lia) (by have := Bi.hl; lia) Bi.ok.idx fun m' new ka' ia' n' F' fr mp' mn' mo' => ?_
          have e : ∀ {X : Prop}, X → X := fun h => h
          refine ⟨fun p hp => .tail _ (.tail _ (.tail _ (List.mem_append_right _ (List.mem_append_left _ hp)))), (H, keyL ka' (kidsN rows pr x (pairs, hs) (i + 1)).2 n') :: (c.L + 1, o1) :: (c.L + 2, o2') :: (new ++ rest), fun p hp => ?_, ka', ia', n', o2', _, new ++ rest, rfl, d2', ?_, fun q hq => ?_, List.mem_append_right _ hT, mp', mn', mo', hon.more fun p hp => List.mem_append_right _ hp⟩
          · rw [kidsN_succ hi] at hp
            rcases List.mem_cons.mp hp with rfl | hp
            · exact ⟨.head _, .inr fun q hq => (hext q hq).1⟩
            rcases List.mem_cons.mp hp with rfl | hp
            · exact ⟨.tail _ (.head _), .inr fun q hq => (hext q hq).2.1⟩
            rcases List.mem_cons.mp hp with rfl | hp
            · exact ⟨.tail _ (.tail _ (.head _)), .inr fun q hq => (hext q hq).2.2⟩
            rcases List.mem_append.mp hp with hp | hp
            · exact ⟨.tail _ (.tail _ (.tail _ (List.mem_append_left _ hp))), .inr fun q hq => (fr p hp).1 q (List.mem_append_left _ hq)⟩
            · exact ⟨.tail _ (.tail _ (.tail _ (List.mem_append_right _ (List.mem_append_right _ hp)))), .inl (.tail _ (.tail _ (.tail _ hp)))⟩
          · rw [kidsN_succ hi]; exact F'
          · rcases List.mem_append.mp hq with hq | hq
            · exact (fr q hq).2
            · exact hrest q hq
        · rcases List.mem_cons.mp hp with rfl | hp
          · exact .tail _ (.head _)
          rcases List.mem_cons.mp hp with rfl | hp
          · exact .tail _ (.tail _ (.head _))
          rcases List.mem_cons.mp hp with rfl | hp
          · exact .head _
          · exact .tail _ (.tail _ (.tail _ hp))
    · rcases List.mem_cons.mp hp with rfl | hp
      · exact List.mem_append_right _ (.tail _ (.tail _ (.head _)))
      rcases List.mem_cons.mp hp with rfl | hp
      · exact List.mem_append_right _ (.head _)
      rcases List.mem_cons.mp hp with rfl | hp
      · exact List.mem_append_right _ (.tail _ (.head _))
      rcases List.mem_append.mp hp with hp | hp
      · exact List.mem_append_left _ hp
      · exact List.mem_append_right _ (.tail _ (.tail _ (.tail _ hp)))
  · rintro m nw ⟨ka, ia, n, o2, v2, rest, rfl, d2, F, hrest, hT, _⟩
    refine pNil ?_
    exact q _ _ ⟨ka, ia, n, o1, o2, v1, v2, rest, rfl, d1, d2, F, hrest, hT⟩
end
end
section
open PySem PySem.W PyProof.Rows PySem.Calls PySem.Builtin PySem.W.X
set_option maxRecDepth 100000


theorem one_of {β : Type} {zs : List (Nat × β)} {k : Nat} (h : zs.map (·.1) = [k]) : ∃ y, zs = [(k, y)] := by
  rcases zs with _ | ⟨⟨j, y⟩, _ | ⟨z, zs⟩⟩
  · cases h
  · cases h; exact ⟨y, rfl⟩
  · cases h
section
variable {c : Cx} {m : Mp} {nw : Nw} {mg mb : Str → Option Value} {fa : Nat → Addr} {pr : Nat → Nat} {d ra K C H T : Addr} {oT : Obj} {ta tb tc : Tok} {rows : List (List Pt)} {X : Heap → Prop} {pairs : List It} {seen : List (List (List Nat))} {hs : List Nat} {nb pb : Nat} {cd : Value} {a : Addr} {QF : Flow → Mp → Nw → Prop}
theorem itemOf_get {pairs : List It} {i : Nat} (h : i < pairs.length) : itemOf pairs i = pairs[i] := by
  unfold itemOf; rw [List.getD_eq_getElem?_getD, List.getElem?_eq_getElem h]; rfl
theorem filter_one {k : Nat} : ∀ n, k < n → (List.range n).filter (fun i => decide (i = k)) = [k]
  | 0, h => absurd h (Nat.not_lt_zero _)
  | n + 1, h => by
    rw [List.range_succ, List.filter_append]
    by_cases e : k < n
    · rw [filter_one n e]
      have : decide (n = k) = false := decide_eq_false (by lia)
      simp [this]
    · have : n = k := by lia
      subst this
      have h0 : (List.range n).filter (fun i => decide (i = n)) = [] := by
        rw [List.filter_eq_nil_iff]
        intro i hi
        have : i < n := List.mem_range.mp hi
        simp; lia
      rw [h0]; simp
theorem ends_iff {rows : List (List Pt)} {on : List (List Nat)} (h : on.length = rows.length) : ((List.range rows.length).filter fun i => decide ((rows.getD i []).length ∉ on.getD i [])) = [] ↔ endsAll rows on = true := by
  unfold endsAll
  rw [List.filter_eq_nil_iff, List.all_eq_true]
  constructor
  · intro q p hp
    obtain ⟨i, hi, e⟩ := List.getElem_of_mem hp
    have hi1 : i < rows.length := by simp at hi; lia
    have hi2 : i < on.length := by lia
    have := q i (List.mem_range.mpr hi1)
    subst e
    simp [hi1, hi2] at this ⊢
    exact this
  · intro q i hi
    have hi1 := List.mem_range.mp hi
    have hi2 : i < on.length := by lia
    have := q (rows[i], on[i]) (by
      rw [List.mem_iff_getElem]
      exact ⟨i, by simp; lia, by simp⟩)
    simp [hi1, hi2] at this ⊢
    exact this
theorem FI.addSeen {c : Cx} {X : Heap → Prop} {ra d K H : Addr} {ka ia : Nat → Addr} {pairs : List It} {seen : List (List (List Nat))} {m m' : Mp} {nw nw' : Nw} {b3 : Addr} {vs : List Value} {vo : Value} {k3 : Nat} {on : List (List Nat)} (F : FI c X ra d K H ka ia pairs seen m nw) (sub : ∀ p ∈ nw, p ∈ nw')
    (hb3 : (b3, W.listOf (vs ++ [vo]).toArray k3) ∈ nw') (S3 : vs.length = seen.length) (S4 : ∀ (i : Nat) (hi : i < seen.length), ∃ v, vs[i]? = some v ∧ OnAt c nw v seen[i]) (hon : OnAt c nw' vo on)
    (hm : ∀ z, z ∈ ([Str.ofString "rows", "prices", "key", "heap", "pairs"] : List Str) → m'.lookup z = m.lookup z) (hp : m'.lookup ("seen" : Str) = some (.ref b3)) : FI c X ra d K H ka ia pairs (seen ++ [on]) m' nw' where
  mrows := (hm _ (by decide)).trans F.mrows
  mprices := (hm _ (by decide)).trans F.mprices
  mkey := (hm _ (by decide)).trans F.mkey
  mheap := (hm _ (by decide)).trans F.mheap
  mpairs := by
    obtain ⟨a, es, n, h1, h2, h3, h4⟩ := F.mpairs
    exact ⟨a, es, n, (hm _ (by decide)).trans h1, h2.more sub, h3, fun i hi => let ⟨e, k, a1, a2⟩ := h4 i hi; ⟨e, k, a1, a2.more sub⟩⟩
  mseen := by
    refine ⟨b3, vs ++ [vo], k3, hp, .inr hb3, by simp [S3], fun i hi => ?_⟩
    by_cases h : i < seen.length
    · obtain ⟨v, q1, q2⟩ := S4 i h
      exact ⟨v, by rw [List.getElem?_append_left (by lia)]; exact q1, by rw [List.getElem_append_left h]; exact q2.more sub⟩
    · have : i = seen.length := by simp at hi; lia
      subst this
      exact ⟨vo, by rw [← S3]; simp, by simpa using hon⟩
  pr := F.pr.more sub
  kin := fun i hi => let ⟨o, ho⟩ := F.kin i hi; ⟨o, sub _ ho⟩
  inj := F.inj
  hk := F.hk.more sub
set_option maxHeartbeats 4000000 in
theorem wh_turn {ka ia : Nat → Addr} {n : Nat} {o1 o2 : Obj} {v1 v2 : Option Value} {rest : Nw} (r : Rm c.A 18) (G0 : G mg mb fa c.b) (DD : ∃ o, c.b.get? d = some o ∧ o.IsDictOf (strKind c.prog c.w) (prD pr ta tb tc)) (RR : RowsH c.b ra rows) (hrow : ∀ row ∈ rows, row.length ≤ 1000) (hrl : rows.length ≤ 1000)
    (hX : ∀ h, X h → KC c.w mg K C (fa 19) h) (hH : H ≠ c.L + 1 ∧ H ≠ c.L + 2) (d1 : o1.data = .cell v1) (d2 : o2.data = .cell v2) (F : FI c X ra d K H ka ia pairs seen m rest) (hrest : ∀ q ∈ rest, q.1 ≠ H ∧ q.1 ≠ c.L + 1 ∧ q.1 ≠ c.L + 2) (hT : (T, oT) ∈ rest)
    (B : PB rows nb pb pairs hs) (hnb : nb < 2 ^ 16) (hpb : pb < 2 ^ 16) (hsl : seen.length < 2 ^ 16) (hne : hs ≠ [])
    (q1 : ∀ m' nw' b t u, endsAll rows (itemOf pairs (popN (ltP pairs) hs).1).on = true → (b, W.listOf [.int ((itemOf pairs (popN (ltP pairs) hs).1).price : Int) t, .str (S (itemOf pairs (popN (ltP pairs) hs).1).name) u].toArray 0) ∈ nw' → b ≠ T → (T, oT) ∈ nw' → HH c nw' X → QF (.ret (.ref b)) m' nw')
    (q2 : ∀ m' nw', ¬ endsAll rows (itemOf pairs (popN (ltP pairs) hs).1).on = true → (itemOf pairs (popN (ltP pairs) hs).1).on ∈ seen → WSt c X ra d K H T oT pairs (popN (ltP pairs) hs).2 seen m' nw' → QF .next m' nw')
    (q3 : ∀ m' nw', ¬ endsAll rows (itemOf pairs (popN (ltP pairs) hs).1).on = true → (itemOf pairs (popN (ltP pairs) hs).1).on ∉ seen → WSt c X ra d K H T oT (kidsN rows pr (itemOf pairs (popN (ltP pairs) hs).1) (pairs, (popN (ltP pairs) hs).2) 3).1 (kidsN rows pr (itemOf pairs (popN (ltP pairs) hs).1) (pairs, (popN (ltP pairs) hs).2) 3).2 (seen ++ [(itemOf pairs (popN (ltP pairs) hs).1).on]) m' nw' → QF .next m' nw') :
    P c (execs whBody (envOfC (nameOf (stAt 20)) (scpOf (stAt 20)) c.L a cd)) QF m ((H, keyL ka hs n) :: (c.L + 1, o1) :: (c.L + 2, o2) :: rest) := by
  obtain ⟨P1, P2, P3⟩ := pop_ok (ord_ltP pairs) B.ok.hp hne
  generalize hp : popN (ltP pairs) hs = p at q1 q2 q3 P1 P2 P3
  obtain ⟨one, hs'⟩ := p
  simp only at q1 q2 q3 P1 P2 P3
  have hone : one ∈ hs := P2.mem_iff.mpr List.mem_cons_self
  have hol : one < pairs.length := B.ok.idx _ hone
  have hlen : hs.length = hs'.length + 1 := by rw [P2.length_eq]; rfl
  have hxu : (itemOf pairs one).on ∈ univ rows := B.ok.uni _ (List.mem_map_of_mem hone)
  have B' : PB rows (nb + 1) pb pairs hs' := ⟨⟨P1, fun i hi => B.ok.idx i (P2.mem_iff.mpr (List.mem_cons_of_mem _ hi)), fun y hy => by
    obtain ⟨i, hi, rfl⟩ := List.mem_map.mp hy
    exact B.ok.uni _ (List.mem_map_of_mem (P2.mem_iff.mpr (List.mem_cons_of_mem _ hi)))⟩, fun i hi => Nat.le_succ_of_le (B.nm i hi), B.pl, by have := B.hl; lia⟩
  obtain ⟨hxl, hxk⟩ := univ_len hxu
  have hxn := B.nm one hol
  generalize hxx : itemOf pairs one = x at *
  have f3 := F.mheap
  obtain ⟨pa, es, pn, f4, E2, E3, E4⟩ := F.mpairs
  have hrH : ∀ q ∈ (c.L + 1, o1) :: (c.L + 2, o2) :: rest, q.1 ≠ H := fun q hq => by
    rcases List.mem_cons.mp hq with rfl | hq
    · exact hH.1.symm
    rcases List.mem_cons.mp hq with rfl | hq
    · exact hH.2.symm
    · exact (hrest q hq).1
  have sub2 : ∀ p ∈ rest, p ∈ (c.L + 1, o1) :: (c.L + 2, o2) :: rest := fun p hp => .tail _ (.tail _ hp)
  have hKC : HH c rest (KC c.w mg K C (fa 19)) := fun h hh => hX h (F.hk h hh)
  refine pCons ?_
  refine pAssign ?_
  refine pCall ?_
  refine pFnE 3 G0 ?_
  refine pWithG (G0.fn 3 (by decide)).2 ?_
  refine pArgs ?_
  refine pNameE (by assumption) ?_
  refine pArgs0 ?_
  refine pPopK (mg := mg) (mb := mb) (K := K) (C := C) (ia := ia) (pairs := pairs) (r.mono (by lia)) G0 (hKC.more sub2) (F.pr.more sub2) hrH (by have := B.hl; lia) B.ok.idx hne ?_
  rw [hp]
  refine pNw (nw' := (c.L + 1, o1) :: (H, keyL ka hs' (n + 1)) :: (c.L + 2, o2) :: rest) ?_ (fun p hp => by rcases List.mem_cons.mp hp with rfl | hp; exact .tail _ (.head _); rcases List.mem_cons.mp hp with rfl | hp; exact .head _; exact .tail _ (.tail _ hp))
  refine pStoreCell (by rfl) d1 (fun q hq => ?_) fun o1' d1' => ?_
  · rcases List.mem_cons.mp hq with rfl | hq
    · exact hH.1
    rcases List.mem_cons.mp hq with rfl | hq
    · exact fun e => by simp only [Addr] at *; lia
    · exact (hrest q hq).2.1
  clear d1
  refine pNw (nw' := (H, keyL ka hs' (n + 1)) :: (c.L + 1, o1') :: (c.L + 2, o2) :: rest) ?_ (fun p hp => by rcases List.mem_cons.mp hp with rfl | hp; exact .tail _ (.head _); rcases List.mem_cons.mp hp with rfl | hp; exact .head _; exact .tail _ (.tail _ hp))
  refine pCons ?_
  refine pUn3 r.hd ?_
  refine pSub ?_
  have esm : (((List.range pairs.length).map fun i => (es.getD i 0, Value.ref (ka i), Value.ref (ia i))).map fun e => Value.ref e.1) = es.map Value.ref := by
    apply List.ext_getElem
    · simp [E3]
    · intro i h1 h2
      have h3 : i < es.length := by simpa using h2
      simp [h3]
  have E2' : Has c ((H, keyL ka hs' (n + 1)) :: (c.L + 1, o1') :: (c.L + 2, o2) :: rest) pa (W.listOf (((List.range pairs.length).map fun i => (es.getD i 0, Value.ref (ka i), Value.ref (ia i))).map fun e => Value.ref e.1).toArray pn) := by rw [esm]; exact E2.more (tail3 fun p h => h)
  refine pComp (xs := ["other", "item"]) (N := pairs.length) (Pv := fun i vals => i < pairs.length ∧ vals = [.ref (ka i), .ref (ia i)]) (p := fun i => decide (i = one)) (El := fun i y mk => y = .ref (ia i) ∧ mk = []) ?_ (by have := B.pl; lia) (by rfl) (by decide) (by rfl) (by decide) (by decide)
  refine pNameE f4 ⟨?_, ?_, ?_⟩
  · have := itPairs (c := c) (m := m) (av := []) (es := (List.range pairs.length).map fun i => (es.getD i 0, Value.ref (ka i), Value.ref (ia i))) "other" "item" { line := 170, col := 40, endLine := 170, endCol := 45 } { line := 170, col := 47, endLine := 170, endCol := 51 } { line := 170, col := 40, endLine := 170, endCol := 51 } 0 r.hd E2' (fun e he => ?_) (fun _ h => nomatch h)
    · rw [List.length_map, List.length_range] at this
      refine ItT.mono (fun i vals ⟨e, h1, h2⟩ => ?_) this
      have hi : i < pairs.length := by
        have := List.getElem?_eq_some_iff.mp h1
        obtain ⟨h, _⟩ := this
        simpa using h
      rw [List.getElem?_map, List.getElem?_range hi] at h1
      cases h1
      exact ⟨hi, h2⟩
    · obtain ⟨i, hi, rfl⟩ := List.mem_map.mp he
      have hi : i < pairs.length := by simpa using hi
      obtain ⟨e, k, z1, z2⟩ := E4 i hi
      refine ⟨k, ?_⟩
      have : es.getD i 0 = e := by rw [List.getD_eq_getElem?_getD, z1]; rfl
      show Has c _ (es.getD i 0) _
      rw [this]
      exact z2.more (tail3 fun p h => h)
  · rintro h1 C1 I1 i vals m0 nw' hi ⟨_, rfl⟩
    have c1 : ∀ nw, CellA { c with b := h1, L := C1 } nw (c.L + 1) (.ref (ka one)) := fun _ => ⟨o1', .inl (I1.N _ (.tail _ (.head _))).1, d1'⟩
    have kk : ∀ j, j < pairs.length → ∀ nw, ∃ dx, Has { c with b := h1, L := C1 } nw (ka j) (kinst K dx (.ref (ia j))) := fun j hj nw => by
      obtain ⟨dx, z1, _⟩ := F.pr.key j hj
      exact ⟨dx, .inl ((z1.more (tail3 fun p h => h)).get I1)⟩
    refine pTests1 ?_
    refine pIsCmp ?_
    refine pNameE rfl ?_
    refine pCellE rfl (by first | assumption | (apply_assumption; done) | (apply_assumption; assumption) | (apply_assumption; intro p hp; (repeat (first | assumption | refine List.mem_cons_of_mem _ ?_)); done)) ?_
    obtain ⟨dx1, z1⟩ := kk i hi nw'
    obtain ⟨dx2, z2⟩ := kk one hol nw'
    refine pIsR z1 z2 (fun h => nomatch h) ?_
    refine pTrue ?_
    refine ⟨fun _ h => h, ?_, fun _ => ?_⟩
    · show decide (ka i = ka one) = decide (i = one)
      rw [Bool.eq_iff_iff, decide_eq_true_iff, decide_eq_true_iff]
      exact ⟨F.inj i one hi hol, fun h => by rw [h]⟩
    · refine pNameE rfl ?_
      exact ⟨[], fun _ h => h, (fun _ h => nomatch h), rfl, rfl⟩
  · intro D zs n2 hne2 hap G'
    have hz : ∃ y, zs = [(one, y)] := by
      have h1 := G'.is
      rw [filter_one _ hol] at h1
      exact one_of h1
    obtain ⟨⟨y, mk⟩, rfl⟩ := hz
    obtain ⟨e1, e2⟩ := G'.el _ (.head _)
    simp only at e1 e2
    subst e1 e2
    clear G' hap
    refine pIntC fun _ => ?_
    refine pGetR (p := 0) (vs := [.ref (ia one)]) (.inr (.head _)) rfl (by decide) ?_
    obtain ⟨t, u, vo, k5, z1, z2⟩ := F.pr.item one hol
    rw [hxx] at z1 z2
    refine ⟨ia one, _, _, _, k5, rfl, z1.more (fun p hp => .tail _ (tail3 (fun p h => h) p hp)), ?_⟩
    refine pNw (nw' := (H, keyL ka hs' (n + 1)) :: (c.L + 1, o1') :: (c.L + 2, o2) :: rest) ?_ (fun p hp => .tail _ hp)
    obtain ⟨oa, os, on, rfl, O1, O2, O3⟩ := id z2
    obtain ⟨rs, rn, R1, R2, R3⟩ := id RR
    have hmin : min (rs.map Value.ref).length (os.map Value.ref).length = rows.length := by simp; lia
    have hmr : List.lookup ("rows" : Str) ((Str.ofString "places", Value.ref oa) :: (Str.ofString "name", Value.str ⟨x.name.toArray⟩ u) :: (Str.ofString "price", Value.int (x.price : Int) t) :: m) = some (.ref ra) := F.mrows
    refine pCons ?_
    refine pIf ?_
    refine pIsCmp ?_
    refine pCompE (xs := ["row", "place"]) (p := fun i => decide ((rows.getD i []).length ∉ x.on.getD i [])) (El := fun i y mk => mk = []) (evZip (c := c) r.hd G0 (.inl R1) (O1.more (tail3 fun p h => h)) hmr rfl) ?_ ?_ (by rw [hmin]; lia) (by rfl) (by decide) (by rfl) (by decide) (by decide)
    · rintro h1 C1 I1 i vals m0 nw' hi ⟨v1, v2, e1, e2, rfl⟩
      rw [hmin] at hi
      obtain ⟨pa, ps, k1, p1, p2, p3⟩ := R3 i hi
      obtain ⟨la, ws, k2, l1, l2, l3⟩ := O3 i (by lia)
      have e1' : v1 = .ref pa := by simpa [p1] using e1.symm
      have e2' : v2 = .ref la := by simpa [l1] using e2.symm
      subst e1' e2'
      have G1 : G mg mb fa h1 := G0.keeps I1.F.keep
      refine pTests1 ?_
      refine pIsCmp ?_
      refine pCall ?_
      refine pBnFE (by assumption) ?_
      refine pWithB ?_
      refine pArgs ?_
      refine pNameE rfl ?_
      refine pArgs0 ?_
      refine pLenL (.inl (I1.F.keep _ _ p2)) (by rw [p3.len]; have := hrow _ (List.getElem_mem hi); lia) fun t7 => ?_
      refine pNameE rfl ?_
      refine pNotIn (isInt ((rows[i].length : Nat) : Int)) (vs := ws) (.inl ((l2.more (tail3 fun p h => h)).get I1)) (fun h tk _ y hy => by rw [p3.len]; exact (IA.eq l3 _ t7 y hy).at _ _) ?_
      rw [l3.any]
      refine pTrue ?_
      refine ⟨fun _ h => h, ?_, fun _ => ?_⟩
      · have hi2 : i < x.on.length := by lia
        simp [hi, hi2]
      · refine pNameE rfl ?_
        exact ⟨[], fun _ h => h, (fun _ h => nomatch h), rfl⟩
    · intro D2 zs n3 hne3 hap3 G'
      have fl : zs.flatMap (·.2.2) = [] := by
        rw [List.flatMap_eq_nil_iff]; exact fun z hz => G'.el z hz
      have hzl : (zs.map (·.2.1) = []) ↔ endsAll rows x.on = true := by
        rw [← ends_iff hxl, ← hmin, ← G'.is]
        constructor <;> (intro h; simpa using h)
      rw [fl] at hne3 ⊢
      clear hap3 fl G'
      simp only [List.nil_append] at hne3 ⊢
      refine pList ?_
      refine pArgs0 ?_
      refine ⟨Nat.le_of_ble_eq_true rfl, fun e0 fe0 => ?_⟩
      refine pEqNil r.units (.inr (.tail _ (.head _))) (.inr (.head _)) ?_
      refine pTrue ?_
      by_cases hen : endsAll rows x.on = true
      · rw [if_pos (decide_eq_true (hzl.mpr hen))]
        refine pCons ?_
        refine pReturn ?_
        refine pList ?_
        refine pArgs ?_
        refine pNameE rfl ?_
        refine pArgs ?_
        refine pNameE rfl ?_
        refine pArgs0 ?_
        refine ⟨Nat.le_of_ble_eq_true rfl, fun b fb => ?_⟩
        refine q1 _ _ b t u hen (.head _) (fun e => fb _ (.tail _ (.tail _ (tail3 (fun p h => h) _ hT))) e.symm) (.tail _ (.tail _ (.tail _ (tail3 (fun p h => h) _ hT)))) (F.hk.more fun p hp => .tail _ (.tail _ (.tail _ (tail3 (fun p h => h) p hp))))
      · rw [if_neg (by simpa using fun h => hen (hzl.mp h))]
        refine pNil ?_
        refine pNw (nw' := (H, keyL ka hs' (n + 1)) :: (c.L + 1, o1') :: (c.L + 2, o2) :: rest) ?_ (fun p hp => .tail _ (.tail _ hp))
        obtain ⟨sa, sv, sn, S1, S2, S3, S4⟩ := F.mseen
        refine pCons ?_
        refine pIf ?_
        refine pIsCmp ?_
        refine pNameE rfl ?_
        refine pNameE (by assumption) ?_
        refine pNotInSeen (by have := r.un; show c.A.units + 4 < 9900; lia) (S2.more (tail3 fun p h => h)) S3 (fun i hi => let ⟨v, h1, h2⟩ := S4 i hi; ⟨v, h1, h2.more (tail3 fun p h => h)⟩) (z2.more (tail3 fun p h => h)) ?_
        refine pTrue ?_
        by_cases hse : x.on ∈ seen
        · rw [if_neg (by simpa using hse)]
          refine pNil ?_
          refine pNil ?_
          exact q2 _ _ hen hse ⟨ka, ia, n + 1, o1', o2, _, v2, rest, rfl, d1', d2, F.more (fun p h => h) (lk1 (by decide) (lk1 (by decide) (lk1 (by decide) fun _ _ => rfl))), hrest, hT⟩
        · rw [if_pos (by simpa using hse)]
          refine pCons ?_
          refine pAssign ?_
          refine pBin ?_
          refine pNameE (by assumption) ?_
          refine pList ?_
          refine pArgs ?_
          refine pNameE rfl ?_
          refine pArgs0 ?_
          refine ⟨Nat.le_of_ble_eq_true rfl, fun b1 fb1 => ?_⟩
          refine pAddL (ws := [.ref oa]) (S2.more fun p hp => .tail _ (tail3 (fun p h => h) p hp)) (.inr (.head _)) (by simp; lia) fun b3 fb3 => ?_
          refine pStoreE ?_
          refine pNw (nw' := (H, keyL ka hs' (n + 1)) :: (c.L + 1, o1') :: (c.L + 2, o2) :: ([(b3, W.listOf (sv ++ [Value.ref oa]).toArray 0), (b1, W.listOf [Value.ref oa].toArray 0)] ++ rest)) ?_ (fun p hp => front3 (A := [(b3, W.listOf (sv ++ [Value.ref oa]).toArray 0), (b1, W.listOf [Value.ref oa].toArray 0)]) p hp)
          have subr : ∀ p ∈ rest, p ∈ [(b3, W.listOf (sv ++ [Value.ref oa]).toArray 0), (b1, W.listOf [Value.ref oa].toArray 0)] ++ rest := fun p hp => List.mem_append_right _ hp
          show P c (execs (seenBody.drop 1) _) _ _ _
          refine for_turn (pr := pr) (rows := rows) (x := x) (nb := nb + 1) r G0 DD RR hrow hrl hX hH d1' d2 (F.addSeen (on := x.on) (k3 := 0) subr (.head _) S3 S4 (z2.more subr) (lk1 (by decide) (lk1 (by decide) (lk1 (by decide) (lk1 (by decide) fun _ _ => rfl)))) rfl) (fun q hq => ?_) (subr _ hT) B' (by lia) (by lia) (by lia) rfl rfl rfl (z2.more subr) hxu fun m' nw' hw => ?_
          · rcases List.mem_cons.mp hq with rfl | hq
            · exact ⟨(fb3 _ (.tail _ (.head _))).symm, (fb3 _ (.tail _ (.tail _ (.head _)))).symm, (fb3 _ (.tail _ (.tail _ (.tail _ (.head _))))).symm⟩
            rcases List.mem_cons.mp hq with rfl | hq
            · exact ⟨(fb1 _ (.head _)).symm, (fb1 _ (.tail _ (.head _))).symm, (fb1 _ (.tail _ (.tail _ (.head _)))).symm⟩
            · exact hrest q hq
          · refine pNil ?_
            exact q3 m' nw' hen hse hw
end
end
section
open PySem PySem.W PyProof.Rows PySem.Calls PySem.Builtin PySem.W.X
set_option maxRecDepth 100000


theorem HH.ofBase {c : Cx} {h h₀ : Heap} {X : Heap → Prop} {T : Addr} {oT : Obj} {cs : Nw} (x : Supp h₀ X h) (hb : c.b = h.hide T) (hT : h.get? T = some oT) : HH c ((T, oT) :: cs) X := fun g k => by
  obtain ⟨l, a, b⟩ := x
  refine b g fun p hp => k p.1 p.2 ?_
  obtain ⟨a1, _⟩ := a p hp
  by_cases e : p.1 = T
  · rw [e, hT] at a1
    cases a1
    exact .inr (by rw [← e]; exact .head _)
  · refine .inl ?_
    rw [hb]
    exact (Heap.hide_ne _ e).trans a1
theorem PB.mono {rows : List (List Pt)} {nb pb nb' pb' : Nat} {pairs : List It} {hs : List Nat} (h : PB rows nb pb pairs hs) (h1 : nb ≤ nb') (h2 : pb ≤ pb') : PB rows nb' pb' pairs hs := ⟨h.ok, fun i hi => Nat.le_trans (h.nm i hi) h1, Nat.le_trans h.pl h2, Nat.le_trans h.hl h2⟩
theorem PB.pop {rows : List (List Pt)} {nb pb : Nat} {pairs : List It} {hs : List Nat} (B : PB rows nb pb pairs hs) (hne : hs ≠ []) : PB rows nb pb pairs (popN (ltP pairs) hs).2 ∧ (itemOf pairs (popN (ltP pairs) hs).1).on ∈ univ rows ∧ (itemOf pairs (popN (ltP pairs) hs).1).name.length ≤ nb := by
  obtain ⟨P1, P2, P3⟩ := pop_ok (ord_ltP pairs) B.ok.hp hne
  have hlen : hs.length = (popN (ltP pairs) hs).2.length + 1 := by rw [P2.length_eq]; rfl
  have hone := P2.mem_iff.mpr List.mem_cons_self
  refine ⟨⟨⟨P1, fun i hi => B.ok.idx i (P2.mem_iff.mpr (List.mem_cons_of_mem _ hi)), fun y hy => ?_⟩, B.nm, B.pl, by have := B.hl; lia⟩, B.ok.uni _ (List.mem_map_of_mem hone), B.nm _ (B.ok.idx _ hone)⟩
  obtain ⟨i, hi, rfl⟩ := List.mem_map.mp hy
  exact B.ok.uni _ (List.mem_map_of_mem (P2.mem_iff.mpr (List.mem_cons_of_mem _ hi)))
section
variable {mg mb : Str → Option Value} {fa : Nat → Addr} {pr : Nat → Nat} {d ra T fK cK bm : Addr} {pt : Array Value} {ta tb tc : Tok} {rows : List (List Pt)} {fuel : Nat} {res : Nat × Wd}
set_option maxHeartbeats 4000000 in
theorem found_c {prog : Program} {w : World} {A : Around} {R : Result → Shared → Prop} {s : Shared} (hg : s.gens = #[]) (r : Rm A 22) (hT : s.heap.get? T = some (tableObj pt)) (KI : KInv s.heap cK T bm pt) (G0 : G mg mb fa (s.heap.hide T)) (GK0 : GK (s.heap.hide T) mg fK cK bm)
    (DD : ∃ o, (s.heap.hide T).get? d = some o ∧ o.IsDictOf (strKind prog w) (prD pr ta tb tc)) (RR : RowsH (s.heap.hide T) ra rows) (hrow : ∀ row ∈ rows, row.length ≤ 1000) (hrl : rows.length ≤ 1000) (hfu : fuel ≤ 2000) (hfound : foundN rows pr fuel [first0 rows] [0] [] = some res)
    (ret : ∀ h' tk' b t u pt', (∀ b o, b ≠ T → s.heap.get? b = some o → h'.get? b = some o) → KInv h' cK T bm pt' → s.heap.get? b = none → h'.get? b = some (W.listOf [.int (res.1 : Int) t, .str (S res.2) u].toArray 0) → R (.ok (.ret (.ref b))) { s with heap := h', toks := tk' }) :
    codeAny (model prog w) A (.call (.ref (fa 20)) ⟨[.ref ra, .ref d], []⟩) R s := by
  refine pEnterCT (i := 20) (n := 21) (binds := [("rows", .ref ra), ("prices", .ref d)]) (mp := [("prices", .ref d), ("rows", .ref ra)]) hT ((G0.fn 20 (by decide)).2.keeps fun b o e => Heap.of_hide e) (G0.nolimit.keeps fun b o e => Heap.of_hide e) r (fun _ _ _ => rfl) (fun n => kindsX rfl n) (by decide) (fun L cd => ?_) (fun cd A' cells r' Y hcT => ?_)
  · rw [show (fun x => List.lookup x ([("prices", .ref d), ("rows", .ref ra)] : Mp)) = fun (y : Str) => if y = "prices" then some (.ref d) else (fun z => List.lookup z ([("rows", .ref ra)] : Mp)) y from cons_lookup, cons_lookup]; rfl
  have Y' : CellsAre _ [("sign", s.heap.objs.size + 2), ("one", s.heap.objs.size + 1)] cells := Y
  obtain ⟨o2, o1, rfl, d2, d1⟩ := Y'.two
  clear Y Y'
  have ret' : ∀ b t u pt' m nw, (b, W.listOf [.int (res.1 : Int) t, .str (S res.2) u].toArray 0) ∈ nw → b ≠ T → HH ⟨prog, w, A', s, s.heap.hide T, s.heap.objs.size⟩ nw (fun h => KInv h cK T bm pt') → endQ ⟨prog, w, A', s, s.heap.hide T, s.heap.objs.size⟩ R (.ret (.ref b)) m nw := fun b t u pt' m nw hb hbT hk h tk I =>
    ret h tk b t u pt' (keep_hide I.F.keep) (hk.here I) ((Heap.hide_ne _ hbT).symm.trans (I.N _ hb).2.2) (I.N _ hb).1
  clear ret
  have KH : HH ⟨prog, w, A', s, s.heap.hide T, s.heap.objs.size⟩ ((T, tableObj pt) :: [(s.heap.objs.size + 2, o2), (s.heap.objs.size + 1, o1)]) (fun h => KInv h cK T bm pt) := HH.ofBase (h₀ := s.heap) (Supp.kinv KI) rfl hT
  generalize hcx : (⟨prog, w, A', s, s.heap.hide T, s.heap.objs.size⟩ : Cx) = c at ret' KH ⊢
  have hc1 : c.A = A' := by rw [← hcx]
  have hc2 : c.b = s.heap.hide T := by rw [← hcx]
  have hc3 : s.heap.objs.size = c.L := by rw [← hcx]
  have hc4 : c.prog = prog := by rw [← hcx]
  have hc5 : c.w = w := by rw [← hcx]
  have hc6 : c.s.gens = #[] := by rw [← hcx]; exact hg
  rw [hc3] at KH d1 d2 hcT ⊢
  rw [← hc2] at G0 GK0 DD RR
  rw [← hc1] at r'
  rw [← hc4, ← hc5] at DD
  clear hcx hc1 hc2 hc3 hc4 hc5 hT KI hg
  have d1' : o1.data = .cell none := d1
  have d2' : o2.data = .cell none := d2
  clear d1 d2
  refine pCons ?_
  refine pSwap (xs := ["key", "heap", "seen"]) r'.hd ?_ rfl rfl (by rfl)
  refine pTuple ?_
  refine pArgs ?_
  refine pCall ?_
  refine pGlobE G0.g GK0.key ?_
  obtain ⟨fo, fpm, fdoc, g1, g2⟩ := GK0.fn
  refine pWithF g1 g2 ?_
  refine pArgs ?_
  refine pFnE 19 G0 ?_
  refine pArgs0 ?_
  refine pKey (bm := bm) (cK := cK) hc6 (r'.mono (by lia)) G0 GK0 KH (fun q hq => hcT q hq) fun K C pt' kl HK ap => ?_
  refine pArgs ?_
  refine pList ?_
  refine pArgs0 ?_
  refine ⟨Nat.le_of_ble_eq_true rfl, fun H fH => ?_⟩
  refine pArgs ?_
  refine pList ?_
  refine pArgs0 ?_
  refine ⟨Nat.le_of_ble_eq_true rfl, fun S0 fS0 => ?_⟩
  refine pArgs0 ?_
  refine ⟨Nat.le_of_ble_eq_true rfl, fun tu ftu => ⟨tu, _, rfl, rfl, .inr (.head _), ?_⟩⟩
  have hH : H ≠ c.L + 1 ∧ H ≠ c.L + 2 := ⟨(fH _ (List.mem_append_right _ (.tail _ (.tail _ (.head _))))).symm, (fH _ (List.mem_append_right _ (.tail _ (.head _)))).symm⟩
  obtain ⟨rest0, hr0⟩ : ∃ rest0 : Nw, rest0 = [(tu, tupOf [.ref K, .ref H, .ref S0]), (S0, W.listOf ([] : List Value).toArray 0)] ++ (kl ++ [(T, tableObj pt')]) := ⟨_, rfl⟩
  have hrest : ∀ q ∈ rest0, q.1 ≠ H ∧ q.1 ≠ c.L + 1 ∧ q.1 ≠ c.L + 2 := fun q hq => by
    rw [hr0] at hq
    rcases List.mem_append.mp hq with hq | hq
    · rcases List.mem_cons.mp hq with rfl | hq
      · exact ⟨(ftu _ (.tail _ (.head _))).symm, (ftu _ (.tail _ (.tail _ (List.mem_append_right _ (.tail _ (.tail _ (.head _))))))).symm, (ftu _ (.tail _ (.tail _ (List.mem_append_right _ (.tail _ (.head _)))))).symm⟩
      · rw [List.mem_singleton.mp hq]
        exact ⟨(fS0 _ (.head _)).symm, (fS0 _ (.tail _ (List.mem_append_right _ (.tail _ (.tail _ (.head _)))))).symm, (fS0 _ (.tail _ (List.mem_append_right _ (.tail _ (.head _))))).symm⟩
    · rcases List.mem_append.mp hq with hq | hq
      · refine ⟨fH q (List.mem_append_left _ hq), ap q hq _ (.tail _ (.head _)) fun vs e => ?_, ap q hq _ (.head _) fun vs e => ?_⟩
        · rw [d1'] at e; cases e
        · rw [d2'] at e; cases e
      · rw [List.mem_singleton.mp hq]
        exact ⟨fH _ (List.mem_append_right _ (.head _)), (hcT _ (.tail _ (.head _))).symm, (hcT _ (.head _)).symm⟩
  have hTr : (T, tableObj pt') ∈ rest0 := by rw [hr0]; simp
  have hS0 : (S0, W.listOf ([] : List Value).toArray 0) ∈ rest0 := by rw [hr0]; simp
  have HX : HH c rest0 (fun h => KInv h cK T bm pt' ∧ KC c.w mg K C (fa 19) h) := HK.more fun p hp => by rw [hr0]; simp [hp]
  refine pNw (nw' := (H, keyL (fun _ => 0) [] 0) :: (c.L + 1, o1) :: (c.L + 2, o2) :: rest0) ?_ (fun p hp => ?_)
  rotate_left
  · rw [hr0] at hp
    rcases List.mem_cons.mp hp with rfl | hp
    · exact .tail _ (.tail _ (.head _))
    rcases List.mem_cons.mp hp with rfl | hp
    · exact .tail _ (.tail _ (.tail _ (List.mem_append_right _ (.tail _ (.tail _ (.head _))))))
    rcases List.mem_cons.mp hp with rfl | hp
    · exact .tail _ (.tail _ (.tail _ (List.mem_append_right _ (.tail _ (.head _)))))
    rcases List.mem_append.mp hp with hp | hp
    · rcases List.mem_cons.mp hp with rfl | hp
      · exact .head _
      · rw [List.mem_singleton.mp hp]; exact .tail _ (.head _)
    rcases List.mem_append.mp hp with hp | hp
    · exact .tail _ (.tail _ (.tail _ (List.mem_append_left _ hp)))
    · rw [List.mem_singleton.mp hp]; exact .tail _ (.tail _ (.tail _ (List.mem_append_right _ (.head _))))
  clear hr0 HK ap fH fS0 ftu KH hcT
  obtain ⟨rs, rn, R1, R2, R3⟩ := id RR
  refine pCons ?_
  refine pAssign ?_
  refine pList ?_
  refine pArgs ?_
  refine pList ?_
  refine pArgs ?_
  refine pIntC fun _ => ?_
  refine pArgs ?_
  refine pStrC fun _ => ?_
  refine pArgs ?_
  have hrs : (rs.map Value.ref).length = rows.length := by simp [R2]
  refine pComp (xs := ["row"]) (N := (rs.map Value.ref).length) (Pv := fun i vals => ∃ v, vals = [v] ∧ (rs.map Value.ref)[i]? = some v) (p := fun _ => true) (El := fun i y mk => ∃ a ws, y = .ref a ∧ mk = [(a, W.listOf (List.toArray ws) 0)] ∧ ∀ (h : i < rows.length), IA ws (closeF rows[i] [0])) ?_ (by rw [hrs]; lia) (by rfl) (by decide) (by rfl) (by decide) (by decide)
  refine pNameE (v := .ref ra) rfl ⟨(itList (av := []) r'.hd (.inl R1) (fun _ h => nomatch h)).toT _ _, ?_, ?_⟩
  · rintro h1 C1 I1 i vals m0 nw' hi ⟨v, rfl, hv⟩
    rw [hrs] at hi
    obtain ⟨pa, ps, k1, p1, p2, p3⟩ := R3 i hi
    have e1' : v = .ref pa := by simpa [p1] using hv.symm
    subst e1'
    have G1 : G mg mb fa h1 := G0.keeps I1.F.keep
    refine pTests0 ?_
    refine ⟨fun _ h => h, rfl, fun _ => ?_⟩
    refine pCall ?_
    refine pFnE 17 G1 ?_
    refine pWithG (G1.fn 17 (by decide)).2 ?_
    refine pArgs ?_
    refine pNameE rfl ?_
    refine pArgs ?_
    refine pList ?_
    refine pArgs ?_
    refine pIntC fun _ => ?_
    refine pArgs0 ?_
    refine ⟨Nat.le_of_ble_eq_true rfl, fun z fz => ?_⟩
    refine pArgs0 ?_
    refine pClose (r'.mono (by lia)) G1 (.inl (I1.F.keep _ _ p2)) p3 (.inr (.head _)) (ks := [0]) (.cons _ _ .nil) (Nat.le_trans (hrow _ (List.getElem_mem hi)) (by decide)) fun b ws2 fb hw => ?_
    exact ⟨[(b, _)], fun q hq => .tail _ (.tail _ hq), fun q hq => by rw [List.mem_singleton.mp hq]; exact ⟨.head _, fun z hz => fb z (.tail _ hz)⟩, b, ws2, rfl, rfl, fun _ => hw⟩
  · intro D zs n2 hne hap G'
    have hst : (startOn rows).length = rows.length := by simp [startOn]
    have hon : OnAt c (((D, W.listOf (zs.map (·.2.1)).toArray n2) :: zs.flatMap (·.2.2)) ++ rest0) (.ref D) (startOn rows) := by
      refine onAt_of (List.mem_append_left _ (.head _)) (by rw [G'.is, hrs, hst]; simp) fun z hz => ?_
      obtain ⟨b, ws, e1, e2, e3⟩ := G'.el z hz
      refine ⟨b, ws, 0, e1, List.mem_append_left _ (.tail _ (List.mem_flatMap.mpr ⟨z, hz, by rw [e2]; exact .head _⟩)), fun h => ?_⟩
      have := e3 (by lia)
      simpa [startOn] using this
    generalize zs.flatMap (·.2.2) = zn at hne hap hon ⊢
    generalize W.listOf (zs.map (·.2.1)).toArray n2 = oD at hon ⊢
    clear G'
    have new0 : ∀ p ∈ (D, oD) :: zn, ∀ q ∈ (H, keyL (fun _ => 0) [] 0) :: (c.L + 1, o1) :: (c.L + 2, o2) :: rest0, q.1 ≠ p.1 := fun p hp q hq => by
      rcases List.mem_cons.mp hp with rfl | hp
      · exact hne q (List.mem_append_right _ hq)
      · exact hap p hp q hq
    refine pNw (nw' := (H, keyL (fun _ => 0) [] 0) :: (c.L + 1, o1) :: (c.L + 2, o2) :: (((D, oD) :: zn) ++ rest0)) ?_ (front3 (A := (D, oD) :: zn))
    generalize hN0 : ((D, oD) :: zn) = new at new0 hon ⊢
    clear hne hap
    refine pArgs0 ?_
    refine ⟨Nat.le_of_ble_eq_true rfl, fun a1 fa1 => ?_⟩
    generalize hO1 : W.listOf (List.toArray [Value.int 0 _, Value.str (Str.ofString "") _, Value.ref D]) 0 = oI
    obtain ⟨t0, t6, hO1⟩ : ∃ t0 t6, W.listOf (List.toArray [Value.int 0 t0, Value.str (Str.ofString "") t6, Value.ref D]) 0 = oI := ⟨_, _, hO1⟩
    refine pArgs0 ?_
    refine ⟨Nat.le_of_ble_eq_true rfl, fun a2 fa2 => ?_⟩
    refine pStoreE ?_
    refine pCons ?_
    refine pAssign ?_
    refine pList ?_
    refine pArgs ?_
    refine pList ?_
    refine pArgs ?_
    refine pCall ?_
    refine pNameE rfl ?_
    have hKC : HH c rest0 (KC c.w mg K C (fa 19)) := fun h hh => (HX h hh).2
    refine pWithK (mg := mg) (C := C) (fc := fa 19) ?_
    refine pArgs ?_
    refine pSub ?_
    refine pNameE rfl ?_
    refine pIntC fun _ => ?_
    refine pGet (p := 0) (vs := [.ref a1]) (.inr (.head _)) rfl (by decide) ?_
    refine pArgs0 ?_
    refine ⟨hKC.more fun p hp => .tail _ (.tail _ (tail3 (fun p hp => List.mem_append_right _ hp) p hp)), ?_⟩
    refine pMk (fc := fa 19) (r'.mono (by lia)) G0.nolimit (hKC.more fun p hp => .tail _ (.tail _ (tail3 (fun p hp => List.mem_append_right _ hp) p hp))) fun xk dx fxd nxd => ?_
    refine pArgs ?_
    refine pSub ?_
    refine pNameE rfl ?_
    refine pIntC fun _ => ?_
    refine pGet (p := 0) (vs := [.ref a1]) (.inr (.tail _ (.tail _ (.head _)))) rfl (by decide) ?_
    refine pArgs0 ?_
    refine ⟨Nat.le_of_ble_eq_true rfl, fun b1 fb1 => ?_⟩
    refine pArgs0 ?_
    refine ⟨Nat.le_of_ble_eq_true rfl, fun b2 fb2 => ?_⟩
    refine pStoreE ?_
    refine pCons ?_
    refine pExpr ?_
    refine pCall ?_
    refine pFnE 2 G0 ?_
    refine pWithG (G0.fn 2 (by decide)).2 ?_
    refine pArgs ?_
    refine pNameE rfl ?_
    refine pArgs ?_
    refine pSub ?_
    refine pSub ?_
    refine pNameE rfl ?_
    refine pIntC fun _ => ?_
    refine pGet (p := 0) (vs := [.ref b1]) (.inr (.head _)) rfl (by decide) ?_
    refine pIntC fun _ => ?_
    refine pGetR (p := 0) (vs := [.ref xk, .ref a1]) (.inr (.tail _ (.head _))) rfl (by decide) ?_
    refine pArgs0 ?_
    refine pNw (nw' := (H, keyL (fun _ => xk) [] 0) :: (c.L + 1, o1) :: (c.L + 2, o2) :: (([(b2, W.listOf [Value.ref b1].toArray 0), (b1, W.listOf [Value.ref xk, Value.ref a1].toArray 0), (xk, kinst K dx (.ref a1)), (dx, emptyDict), (a2, W.listOf [Value.ref a1].toArray 0), (a1, oI)] ++ new) ++ rest0)) ?_ (fun p hp => front3 (A := [(b2, W.listOf [Value.ref b1].toArray 0), (b1, W.listOf [Value.ref xk, Value.ref a1].toArray 0), (xk, kinst K dx (.ref a1)), (dx, emptyDict), (a2, W.listOf [Value.ref a1].toArray 0), (a1, oI)]) p hp)
    generalize hN7 : ([(b2, W.listOf [Value.ref b1].toArray 0), (b1, W.listOf [Value.ref xk, Value.ref a1].toArray 0), (xk, kinst K dx (.ref a1)), (dx, emptyDict), (a2, W.listOf [Value.ref a1].toArray 0), (a1, oI)] : Nw) = N7
    have fr7 : ∀ p ∈ N7, ∀ q ∈ (H, keyL (fun _ => 0) [] 0) :: (c.L + 1, o1) :: (c.L + 2, o2) :: (new ++ rest0), q.1 ≠ p.1 := fun p hp q hq => by
      rw [← hN7] at hp
      simp only [List.mem_cons, List.not_mem_nil, or_false] at hp
      rcases hp with rfl | rfl | rfl | rfl | rfl | rfl
      · exact fb2 q (.tail _ (.tail _ (.tail _ (.tail _ (.tail _ hq)))))
      · exact fb1 q (.tail _ (.tail _ (.tail _ (.tail _ hq))))
      · exact (fxd q (.tail _ (.tail _ hq))).1
      · exact (fxd q (.tail _ (.tail _ hq))).2
      · exact fa2 q (.tail _ hq)
      · exact fa1 q hq
    have frN : ∀ p ∈ N7 ++ new, p.1 ≠ H ∧ p.1 ≠ c.L + 1 ∧ p.1 ≠ c.L + 2 := fun p hp => by
      rcases List.mem_append.mp hp with hp | hp
      · exact ⟨(fr7 p hp _ (.head _)).symm, (fr7 p hp _ (.tail _ (.head _))).symm, (fr7 p hp _ (.tail _ (.tail _ (.head _)))).symm⟩
      · exact ⟨(new0 p hp _ (.head _)).symm, (new0 p hp _ (.tail _ (.head _))).symm, (new0 p hp _ (.tail _ (.tail _ (.head _)))).symm⟩
    have frR : ∀ q ∈ (N7 ++ new) ++ rest0, q.1 ≠ H ∧ q.1 ≠ c.L + 1 ∧ q.1 ≠ c.L + 2 := fun q hq => (List.mem_append.mp hq).elim (frN q) (hrest q)
    have in7 : ∀ p ∈ N7, p ∈ (N7 ++ new) ++ rest0 := fun p hp => List.mem_append_left _ (List.mem_append_left _ hp)
    have subr : ∀ p ∈ rest0, p ∈ (N7 ++ new) ++ rest0 := fun p hp => List.mem_append_right _ hp
    have g1m : (b2, W.listOf [Value.ref b1].toArray 0) ∈ (N7 ++ new) ++ rest0 := in7 _ (by rw [← hN7]; simp)
    have g2m : (b1, W.listOf [Value.ref xk, Value.ref a1].toArray 0) ∈ (N7 ++ new) ++ rest0 := in7 _ (by rw [← hN7]; simp)
    have g3m : (xk, kinst K dx (.ref a1)) ∈ (N7 ++ new) ++ rest0 := in7 _ (by rw [← hN7]; simp)
    have g4m : (dx, emptyDict) ∈ (N7 ++ new) ++ rest0 := in7 _ (by rw [← hN7]; simp)
    have g5m : (a1, oI) ∈ (N7 ++ new) ++ rest0 := in7 _ (by rw [← hN7]; simp)
    have hon2 : OnAt c ((N7 ++ new) ++ rest0) (.ref D) (startOn rows) := hon.more fun p hp => (List.mem_append.mp hp).elim (fun hp => List.mem_append_left _ (List.mem_append_right _ hp)) fun hp => List.mem_append_right _ hp
    have F0 : FI c (fun h => KInv h cK T bm pt' ∧ KC c.w mg K C (fa 19) h) ra d K H (fun _ => xk) (fun _ => a1) [first0 rows] [] ((Str.ofString "pairs", Value.ref b2) :: (Str.ofString "items", Value.ref a2) :: (Str.ofString "key", Value.ref K) :: (Str.ofString "heap", Value.ref H) :: (Str.ofString "seen", Value.ref S0) :: [(Str.ofString "prices", Value.ref d), (Str.ofString "rows", Value.ref ra)]) ((N7 ++ new) ++ rest0) := by
      refine ⟨rfl, rfl, rfl, rfl, ⟨S0, [], 0, rfl, .inr (subr _ hS0), rfl, fun i hi => absurd hi (Nat.not_lt_zero _)⟩, ⟨b2, [b1], 0, rfl, .inr g1m, rfl, fun i hi => ?_⟩, ⟨fun i hi => ⟨dx, .inr g3m, .inr g4m⟩, fun i hi => ?_, fun i hi => ?_⟩, fun i hi => ⟨_, g3m⟩, fun i j hi hj _ => ?_, HX.more subr⟩
      · have : i = 0 := by simpa using hi
        subst this
        exact ⟨b1, 0, rfl, .inr g2m⟩
      · have : i = 0 := by simpa using hi
        subst this
        refine ⟨t0, t6, .ref D, 0, .inr ?_, hon2⟩
        rw [← hO1] at g5m
        exact g5m
      · have : i = 0 := by simpa using hi
        subst this
        show 0 < 2 ^ 20
        decide
      · simp at hi hj; lia
    clear fr7 frN new0 hN7 in7 fb1 fb2 fxd fa1 fa2 hN0 hon g1m g2m g3m g4m g5m hrest
    generalize ((N7 ++ new) ++ rest0) = rest1 at frR subr F0 hon2 ⊢
    have hT1 := subr _ hTr
    have hP1 : ∀ p ∈ rest1, p ∈ (c.L + 1, o1) :: (c.L + 2, o2) :: rest1 := fun p hp => .tail _ (.tail _ hp)
    refine pPush (mg := mg) (mb := mb) (K := K) (C := C) (ka := fun _ => xk) (ia := fun _ => a1) (pairs := [first0 rows]) (x := 0) (r'.mono (by lia)) G0 (hKC.more fun p hp => hP1 p (subr p hp)) (F0.pr.more hP1) (fun p hp => ?_) (by decide) (fun j hj => nomatch hj) (Nat.lt_succ_self 0) ⟨rfl, ?_⟩
    · rcases List.mem_cons.mp hp with rfl | hp
      · exact hH.1.symm
      rcases List.mem_cons.mp hp with rfl | hp
      · exact hH.2.symm
      · exact (frR p hp).1
    show nxt c _ _ _ _ _ ((H, keyL (fun _ => xk) [0] 1) :: _)
    refine pCons ?_
    refine pWhile (fun k m nw => ∃ nb pairs hs seen, WSt c (fun h => KInv h cK T bm pt' ∧ KC c.w mg K C (fa 19) h) ra d K H T (tableObj pt') pairs hs seen m nw ∧ PB rows nb (1 + 3 * nb) pairs hs ∧ foundN rows pr k pairs hs seen = some res ∧ seen.length ≤ nb ∧ nb + k ≤ fuel) fuel
      ⟨0, [first0 rows], [0], [], ⟨_, _, 1, o1, o2, none, none, rest1, rfl, d1', d2', F0, frR, hT1⟩, ⟨⟨fun i i0 il => by simp at il; lia, fun i hi => by simp at hi; subst hi; simp, fun y hy => by simp [bagOf, itemOf] at hy; subst hy; exact start_univ rows⟩, fun i hi => by
        have : i = 0 := by simpa using hi
        subst this
        exact Nat.le_refl _, Nat.le_refl _, Nat.le_refl _⟩, hfound, Nat.le_refl _, by lia⟩ ?_
    clear F0 hon2 hfound frR subr hT1 hP1 d1' d2' HX hKC hTr hS0 o1 o2
    rintro k m nw ⟨nb, pairs, hs, seen, ⟨ka, ia, n, o1, o2, v1, v2, rest, rfl, d1, d2, F, hrest, hT⟩, B, hf, hs1, hs2⟩
    have f3 := F.mheap
    refine pIsCmp ?_
    refine pNameE (by assumption) ?_
    refine pList ?_
    refine pArgs0 ?_
    refine ⟨Nat.le_of_ble_eq_true rfl, fun e0 fe0 => ?_⟩
    refine pNeNil (vs := keys ka hs) r'.units (.inr (.tail _ (.head _))) (.inr (.head _)) ?_
    refine pTrue ?_
    have hk0 : keys ka hs = [] ↔ hs = [] := by unfold keys; exact List.map_eq_nil_iff
    have hl : ∀ p ∈ rest, p ∈ (e0, W.listOf ([] : List Value).toArray 0) :: (H, keyL ka hs n) :: (c.L + 1, o1) :: (c.L + 2, o2) :: rest := fun p hp => .tail _ (tail3 (fun p h => h) p hp)
    cases k with
    | zero => cases hf
    | succ k =>
      unfold foundN at hf
      by_cases hn : hs = []
      · rw [if_neg (by simpa using hk0.mpr hn)]
        rw [if_pos hn] at hf
        cases hf
        refine pCons ?_
        refine pReturn ?_
        refine pList ?_
        refine pArgs ?_
        refine pIntC fun _ => ?_
        refine pArgs ?_
        refine pStrC fun _ => ?_
        refine pArgs0 ?_
        refine ⟨Nat.le_of_ble_eq_true rfl, fun b fb => ?_⟩
        exact ret' b _ _ pt' _ _ (.head _) (fun e => fb _ (hl _ hT) e.symm) (fun h hh => (F.hk h fun a o e => hh a o (e.more fun p hp => .tail _ (hl p hp))).1)
      · rw [if_pos (decide_eq_true (show keys ka hs ≠ [] from fun h => hn (hk0.mp h)))]
        rw [if_neg hn] at hf
        simp only [] at hf
        obtain ⟨B1, B2, B3⟩ := B.pop hn
        obtain ⟨hxl, _⟩ := univ_len B2
        refine pNw (nw' := (H, keyL ka hs n) :: (c.L + 1, o1) :: (c.L + 2, o2) :: rest) ?_ (fun p hp => .tail _ hp)
        show P c (execs whBody _) _ _ _
        refine wh_turn (pr := pr) (C := C) (mg := mg) (mb := mb) (r'.mono (by lia)) G0 DD RR hrow hrl (fun h hh => hh.2) hH d1 d2 F hrest hT B (by lia) (by lia) (by lia) hn (fun m' nw' b t u hen hb hbT hTn hk => ?_) (fun m' nw' hen hse hw => ?_) (fun m' nw' hen hse hw => ?_)
        · rw [if_pos hen] at hf
          cases hf
          exact ret' b t u pt' m' nw' hb hbT fun h hh => (hk h hh).1
        · rw [if_neg hen, if_pos hse] at hf
          exact ⟨k, Nat.lt_succ_self _, nb + 1, _, _, _, hw, B1.mono (by lia) (by lia), hf, by lia, by lia⟩
        · rw [if_neg hen, if_neg hse] at hf
          exact ⟨k, Nat.lt_succ_self _, nb + 1, _, _, _, hw, ((B1.mono (nb' := nb + 1) (pb' := 1 + 3 * nb) (by lia) (by lia)).kids hxl (by lia) 3 (by lia)).mono (Nat.le_refl _) (by lia), hf, by simp; lia, by lia⟩
end
end
section
open PySem PySem.W PyProof.Rows PySem.Calls PySem.Builtin PySem.W.X
set_option maxRecDepth 100000
/-- `l.append`, bound -/
noncomputable def bndA (a : Addr) : Obj := ⟨.type "builtin_function_or_method", none, .fields #[.builtin "list.append", .ref a], #[]⟩
section
variable {prog : Program} {w : World} {A : Around} {h : Heap} {d : Drawn} {tk : Nat} {os : OsState} {E : Value → Shared → Prop}
local macro_rules | `(tactic| x_close) => `(tactic| (first | (refine ⟨_, _, _, rfl, rfl, by assumption⟩) | (trace_state; fail)))
set_option maxHeartbeats 1000000 in
theorem attr_append {a : Addr} {t : Tok} (ha : h.get? a = some ⟨.type "list", none, .seq #[] 0, #[]⟩) :
    wpAny (model prog w) A (call (.builtin "list.__getattribute__") [.ref a, .str ⟨#[97, 112, 112, 101, 110, 100]⟩ t]) (fun v s' => ∃ u h' tk', s' = ⟨h', #[], d, tk', os⟩ ∧ v = .ref u ∧ Mem h h' [] [(u, ⟨.type "builtin_function_or_method", none, .fields #[.builtin "list.append", .ref a], #[]⟩)]) (fun _ _ => False) ⟨h, #[], d, tk, os⟩ := by
  x_run
theorem last_app : (toString (Bind.lastOf "list") ++ toString "." ++ toString (Bind.lastOf "list.append") : String) = "list.append" := by first | decide +kernel | kernel_rfl
theorem sig_app (a : Addr) (v : Value) : (match Manifest.signature? "list.append" with | some sig => Bind.checkArgs "list.append" { sig with full := "list.append" } ⟨[.ref a, v], []⟩ | none => pure ()) = pure () := by
  rw [signature?_of (id := "list.append") (n := ['d', 'n', 'e', 'p', 'p', 'a']) (o := ['t', 's', 'i', 'l']) (by kernel_rfl) PySem.F.owner_list]; kernel_rfl
theorem kind_app : builtinKind "list.append" = some .method := by kernel_rfl
theorem sub_list_module : isSubtype (.type "list") (.type "module") = pure false := by rw [isSubtype_type]; kernel_rfl
theorem sub_list_type : isSubtype (.type "list") (.type "type") = pure false := by rw [isSubtype_type]; kernel_rfl
theorem check_app {a : Addr} {v : Value} {its : Array Value} {n : Nat} {s : Shared} {K : Unit → Shared → Prop} (ha : s.heap.get? a = some ⟨.type "list", none, .seq its n, #[]⟩) (q : K () s) : wpAny (model prog w) A (checkBoundCall "list.append" ⟨[.ref a, v], []⟩) K E s := by
  have hT : s.TypeIs (.ref a) "list" := ⟨_, ha, rfl⟩
  have f1 := sub_list_module
  have f2 := sub_list_type
  unfold checkBoundCall
  have h := sig_app
  cases hsg : Manifest.signature? "list.append" with
  | none => exact wpAny_pure q
  | some sig =>
    rw [hsg] at h
    simp only [] at h
    rw [kind_app]
    repeat (any_goals (first | assumption | ((with_reducible show wpAny _ _ (Bind.checkArgs _ _ _) _ _ _); rw [last_app]; refine wpAny_of_eq (a := ()) (h _ _) ?_) | wp_step))
    all_goals trace_state
end
section
variable {prog : Program} {w : World} {A : Around} {E : Value → Shared → Prop} {s : Shared}
theorem callWith_bnd {pos : Pos} {u a : Addr} {first : List Value} {args : List (Bool × Sem Value)} {Q : Value → Shared → Prop} {M : Model} (hplain : args.any (·.1) = false)
    (h : wpAny M A (evalArgs (.ref u) true args []) (fun x s₁ => s₁.heap.get? u = some (bndA a) ∧ wpAny M A (call (.ref u) (first ++ x.pos) x.kw) Q E s₁) E s) : wpAny M A (callWith pos (.ref u) first args []) Q E s := by
  unfold callWith
  refine wpAny_bind (wpAny_holding (wpAny_mono h (fun x s₁ h₁ => wpAny_bind (wpAny_standAt ?_)) fun _ _ x => x))
  obtain ⟨ho, hcall⟩ := h₁
  simp only [hplain, List.any_nil, Bool.or_false]
  refine wpAny_bind (m := keeperOf (.ref u)) ?_
  unfold keeperOf
  refine wpAny_bind (wpAny_load ho ?_)
  simp only [bndA, show (Value.type "builtin_function_or_method" != Value.type "method") = true by decide, show (Value.type "builtin_function_or_method" == Value.type "builtin_function_or_method" || Value.type "builtin_function_or_method" == Value.type "method-wrapper") = true by decide, if_true]
  refine wpAny_pure ?_
  exact wpAny_bind (wpAny_mono hcall (fun r s₂ hr => wpAny_bind (wpAny_holding (wpAny_point (wpAny_pure hr)))) fun _ _ x => x)
theorem quiet_app {as : Args} : (Code.builtin "list.append" as).quiet = true := Code.quiet_builtin _ (by decide +kernel)
theorem call_bnd {u a : Addr} {its : Array Value} {n : Nat} {v : Value} {Q : Value → Shared → Prop} (hu : s.heap.get? u = some (bndA a)) (ha : s.heap.get? a = some { cls := .type "list", data := .seq its n }) (hsz : its.size ≤ sizeLine)
    (h : ∀ h', Heap.SameBut a s.heap h' → h'.get? a = some { cls := .type "list", data := .seq (its.push v) (n + 1) } → Q .none { s with heap := h' }) : wpAny (model prog w) A (call (.ref u) [v]) Q E s := by
  refine wpAny_call (codeAny_of_tree ?_)
  show wpAny _ A.in1 (callAny (.ref u) ⟨[v], []⟩) _ _ s
  simp only [callAny]
  refine wpAny_bind (wpAny_load hu ?_)
  simp only [bndA, show (Value.type "builtin_function_or_method" == Value.type "method" || Value.type "builtin_function_or_method" == Value.type "builtin_function_or_method" || Value.type "builtin_function_or_method" == Value.type "method-wrapper") = true by decide, if_true]
  refine KFB.if_so (by decide) ?_
  refine wpAny_bind (check_app ha ?_)
  refine wpAny_bind (wpAny_pure (wpAny_pure ?_))
  refine ⟨quiet_app, codeAny_builtin entry_list_append ?_⟩
  show wpAny _ _ (updateSeq a (·.push v) >>= fun _ => ret .none) _ _ s
  refine wpAny_bind ?_
  refine wpAny_updateSeq ha rfl (wpAny_pure (h _ (Heap.SameBut.update ..) ?_))
  rw [Heap.get?_update_self _ ha (by rw [mapSeq_push]; rfl), mapSeq_push]
theorem getAttr_append {a : Addr} {h : Heap} {d : Drawn} {tk : Nat} {os : OsState} {Q : Value → Shared → Prop} (ha : h.get? a = some ⟨.type "list", none, .seq #[] 0, #[]⟩)
    (q : ∀ u h' tk', (∀ b o, h.get? b = some o → h'.get? b = some o) → h.get? u = none → h'.get? u = some (bndA a) → Q (.ref u) ⟨h', #[], d, tk', os⟩) : wpAny (model prog w) A (getAttr (.ref a) "append" true) Q E ⟨h, #[], d, tk, os⟩ := by
  have hT : ∀ tk', (⟨h, #[], d, tk', os⟩ : Shared).TypeIs (.ref a) "list" := fun _ => ⟨_, ha, rfl⟩
  have f3 := F.slot_list_getattribute.lookup
  have f4 := F.slot_list_getattribute.bind (.ref a)
  have f5 := am_list_getattr_none
  unfold getAttr getAttrBy
  repeat (any_goals (first | assumption | exact hT _ | ((with_reducible show wpAny _ _ (call (Value.builtin "list.__getattribute__") _ _) _ _ _); refine wpAny_mono (attr_append ha) (fun v s' ⟨u, h', tk', e1, e2, D⟩ => ?_) fun _ _ x => x.elim) | wp_step))
  subst e1 e2
  show wpAny _ _ (pure (Value.ref u)) _ _ _
  exact wpAny_pure (q u h' tk' (mem_keep D) (D.nw _ (.head _)).2 (D.nw _ (.head _)).1)
end
section
variable {c : Cx} {m : Mp} {nw : Nw} {env : Env} {Q : Value → Mp → Nw → Prop}
theorem pAttrApp {x : Str} {xp pos : Pos} {a : Addr} (hg : c.s.gens = #[]) (H : P c (eval (.Name x xp) env) (fun v m1 n1 => v = .ref a ∧ (a, W.listOf ([] : List Value).toArray 0) ∈ n1 ∧ ∀ u, (∀ p ∈ n1, p.1 ≠ u) → Q (.ref u) m1 ((u, bndA a) :: n1)) m nw)
    (he : eval (.Attribute (.Name x xp) "append" pos) env = (do
      let o ← eval (.Name x xp) env
      standAt pos.atName
      let r ← holding [o] (getAttr o "append" true)
      letTemporaryGo (.Name x xp) o r
      pure r) := by with_unfolding_all rfl) : P c (eval (.Attribute (.Name x xp) "append" pos) env) Q m nw := fun h tk I => by
  refine Attribute_Name_ (H.seq I fun v m1 n1 h1 tk1 q I1 => ?_) he
  obtain ⟨rfl, ha, q⟩ := q
  rw [st_eq hg]
  refine getAttr_append (I1.N _ ha).1 fun u h' tk' k hn hu => ?_
  obtain ⟨I2, f⟩ := inFresh I1 k hn hu
  exact ⟨h', tk', m1, _, (st_eq hg _ _).symm, I2, q u f⟩
/-- `add(v)` -/
theorem pWithBnd {pos : Pos} {u a : Addr} {e : Expr} {rest : List Expr} (hu : Has c nw u (bndA a)) (H : P c (spliced (backTo pos (starEach (e :: rest) env))) (fun vs m1 n1 => Has c n1 u (bndA a) ∧ P c (call (.ref u) vs) Q m1 n1) m nw)
    (he : starEach (e :: rest) env = (false, eval e env) :: starEach rest env := by rfl) (hp : (backTo pos (starEach rest env)).any (·.1) = false := by rfl) : P c (callWith pos (.ref u) [] (backTo pos (starEach (e :: rest) env)) []) Q m nw := fun h tk I => by
  have h := H.seq (E := fun _ _ => False) (tk := tk) I (K := fun vs s₁ => s₁.heap.get? u = some (bndA a) ∧ wpAny (model c.prog c.w) c.A (call (.ref u) vs) (fun v s' => ∃ h' tk' m' nw', s' = c.st h' tk' ∧ In c m' nw' h' ∧ Q v m' nw') (fun _ _ => False) s₁) fun vs m1 n1 h1 tk1 q I1 => ⟨q.1.get I1, q.2 _ _ I1⟩
  rw [he] at h ⊢
  refine callWith_bnd (a := a) (by show (false || (backTo pos (starEach rest env)).any (·.1)) = false; rw [hp]; rfl) ?_
  exact evalArgs_plain h
theorem pCallBnd {u a : Addr} {its : List Value} {n : Nat} {v : Value} (hu : Has c ((a, W.listOf its.toArray n) :: nw) u (bndA a)) (hne : ∀ q ∈ nw, q.1 ≠ a) (hsz : its.length ≤ 2 ^ 20) (q : Q .none m ((a, W.listOf (its ++ [v]).toArray (n + 1)) :: nw)) : P c (call (.ref u) [v]) Q m ((a, W.listOf its.toArray n) :: nw) := fun h tk I =>
  call_bnd (hu.get I) (I.N _ (.head _)).1 (by rw [List.size_toArray]; exact Nat.le_trans hsz (by decide)) fun h' hs' hH => ⟨_, _, _, _, rfl, inTurn I hne (fun b o hb e => (hs'.2 b hb).trans e) (by rw [hH]; simp), q⟩
theorem pAssert {test : Expr} {msg : Option Expr} {pos : Pos} {QF : Flow → Mp → Nw → Prop} (H : P c (isTrue test env (eval test env)) (fun b m' nw' => b = true ∧ QF .next m' nw') m nw) : P c (exec (.Assert test msg pos) env) QF m nw :=
  fun _ _ I => wpAny_Assert_holds (H.seq I fun b _ _ _ _ q I => ⟨q.1, _, _, _, _, rfl, I, q.2⟩)
theorem pIsNotNone {v : Value} (q : Q (.bool (!(v == .none))) m nw) : P c (compareOp .IsNot v .none) Q m nw := fun _ _ I => isNot_none ⟨_, _, _, _, rfl, I, q⟩
end
end
section
open PySem PySem.W PyProof.Rows PySem.Calls PySem.Builtin PySem.W.X
set_option maxRecDepth 100000


theorem RowA.snoc {vs : List Value} {row : List Pt} {p : Pt} {v : Value} (h : RowA vs row) (hv : PtV p v) : RowA (vs ++ [v]) (row ++ [p]) where
  len := by simp [h.len]
  at' := fun k x hx => by
    by_cases hk : k < vs.length
    · rw [List.getElem?_append_left hk] at hx
      obtain ⟨q, h1, h2⟩ := h.at' k x hx
      exact ⟨q, by rw [List.getElem?_append_left (h.len ▸ hk)]; exact h1, h2⟩
    · have hk2 : k = vs.length := by
        have := (List.getElem?_eq_some_iff.mp hx).1
        simp at this; lia
      subst hk2
      have : x = v := by simpa using hx.symm
      subst this
      exact ⟨p, by rw [h.len]; simp, hv⟩
theorem RowA.last {vs : List Value} {row : List Pt} (h : RowA vs row) (hne : vs ≠ []) : ∃ v, vs.getLast? = some v ∧ ((v == Value.none) = decide (row.getLast? = some .star)) := by
  have hl : vs.length - 1 < vs.length := by cases vs with | nil => exact absurd rfl hne | cons => simp
  obtain ⟨p, h1, h2⟩ := h.at' (vs.length - 1) vs[vs.length - 1] (List.getElem?_eq_getElem hl)
  refine ⟨vs[vs.length - 1], by rw [List.getLast?_eq_getElem?]; exact List.getElem?_eq_getElem hl, ?_⟩
  rw [h2.isNone, List.getLast?_eq_getElem?, ← h.len, h1]
  rw [Bool.eq_iff_iff]; simp
theorem trF_take {p : List Nat} {i : Nat} (h : i < p.length) : trF (p.take (i + 1)) = trStep (trF (p.take i)) p[i] := by
  unfold trF
  rw [List.take_add_one, List.foldl_append, List.getElem?_eq_getElem h]; rfl
section
variable {c : Cx} {m : Mp} {nw : Nw} {Q : Value → Mp → Nw → Prop} {mg mb : Str → Option Value} {fa : Nat → Addr} {d : Addr} {kvs : List (Int × Value)}
theorem pEqI {i j : Int} {t u : Tok} (q : Q (.bool (i == j)) m nw) : P c (compareOp .Eq (.int i t) (.int j u)) Q m nw := fun _ _ I => PyProof.Rows.eq_int ⟨_, _, _, _, rfl, I, q⟩
theorem pEscape {a : Nat} {t : Tok} (r : Rm c.A 2) (T : G mg mb fa c.b) (hg : mg "_special_chars_map" = some (.ref d)) (hm : ∀ m nw h, In c m nw h → h.DictOf (intKind c.prog c.w) d kvs) (lo : (d == sysModules) = false) (ha : a < 128) (hv : valueAt kvs (a : Int) = none) (q : ∀ t, Q (.str (S [a]) t) m nw) :
    P c (call (.ref (fa 9)) [.str (S [a]) t]) Q m nw := fun h tk I =>
  wpAny_call (escape_c r (T.keeps I.F.keep) ((T.fn 9 (by decide)).2.keeps I.F.keep) hg (hm _ _ h I) lo ha hv fun h' tk' t' k => ⟨h', tk', m, nw, rfl, inKeep I k, q t'⟩)
set_option maxHeartbeats 4000000 in
theorem translate_c {prog : Program} {w : World} {A : Around} {R : Result → Shared → Prop} {s : Shared} {p : List Nat} {t0 t1 : Tok} (hgs : s.gens = #[]) (r : Rm A 4) (T : G mg mb fa s.heap) (hg : mg "_special_chars_map" = some (.ref d)) (hm : s.heap.DictOf (intKind prog w) d kvs) (lo : (d == sysModules) = false)
    (hv : ∀ a ∈ [97, 98, 99], valueAt kvs ((a : Nat) : Int) = none) (sp : Sgn p) (hz : p.length ≤ 100)
    (ret : ∀ h' tk' a ws n, (∀ b o, s.heap.get? b = some o → h'.get? b = some o) → s.heap.get? a = none → h'.get? a = some (W.listOf ws.toArray n) → RowA ws (trF p) → R (.ok (.ret (.ref a))) { s with heap := h', toks := tk' }) :
    codeAny (model prog w) A (.call (.ref (fa 11)) ⟨[.str (S p) t0, .none, .str "any" t1], []⟩) R s := by
  refine pEnter (i := 11) (n := 3) (binds := [("pat", .str (S p) t0), ("STAR", .none), ("QUESTION_MARK", .str "any" t1)]) (T.fn 11 (by decide)).2 T.nolimit r (fun _ _ _ => rfl) (locs rfl) (fun cd A' r' => ?_)
  have ret' : ∀ a ws n m nw, (a, W.listOf ws.toArray n) ∈ nw → RowA ws (trF p) → endQ ⟨prog, w, A', s, s.heap, s.heap.objs.size⟩ R (.ret (.ref a)) m nw := fun a ws n m nw ha hw h tk I => ret h tk a ws n I.F.keep (I.N _ ha).2.2 (I.N _ ha).1 hw
  have hm' : ∀ m nw h, In ⟨prog, w, A', s, s.heap, s.heap.objs.size⟩ m nw h → h.DictOf (intKind prog w) d kvs := fun m nw h I => hm.keep I.F.keep
  clear ret
  generalize hcx : (⟨prog, w, A', s, s.heap, s.heap.objs.size⟩ : Cx) = c at ret' hm' ⊢
  have hc1 : c.A = A' := by rw [← hcx]
  have hc2 : c.b = s.heap := by rw [← hcx]
  have hc3 : s.heap.objs.size = c.L := by rw [← hcx]
  have hc4 : c.prog = prog := by rw [← hcx]
  have hc5 : c.w = w := by rw [← hcx]
  have hc6 : c.s.gens = #[] := by rw [← hcx]; exact hgs
  rw [hc3]
  rw [← hc2] at T
  rw [← hc1] at r'
  rw [← hc4, ← hc5] at hm'
  clear hcx hc1 hc2 hc3 hc4 hc5 hgs hm
  refine pCons ?_
  refine pAssign ?_
  refine pList ?_
  refine pArgs0 ?_
  refine ⟨Nat.le_of_ble_eq_true rfl, fun R0 fR0 => ?_⟩
  refine pStoreE ?_
  refine pCons ?_
  refine pAssign ?_
  refine pAttrApp hc6 (pNameE rfl ⟨rfl, .head _, fun u fu => ?_⟩)
  refine pStoreE ?_
  refine pCons ?_
  refine pSwap (xs := ["i", "n"]) r'.hd ?_ rfl rfl (by rfl)
  refine pTuple ?_
  refine pArgs ?_
  refine pIntC fun _ => ?_
  refine pArgs ?_
  refine pCall ?_
  refine pBnFE (by assumption) ?_
  refine pWithB ?_
  refine pArgs ?_
  refine pNameE rfl ?_
  refine pArgs0 ?_
  refine pLenS (by show p.toArray.size < 2 ^ 30; simp; lia) fun tn => ?_
  refine pArgs0 ?_
  refine ⟨Nat.le_of_ble_eq_true rfl, fun tu ftu => ⟨tu, _, rfl, rfl, .inr (.head _), ?_⟩⟩
  have e0 : ((S p).cps.size : Int) = (p.length : Int) := by show (p.toArray.size : Int) = _; simp
  rw [e0]
  clear e0
  refine pNw (nw' := [(R0, W.listOf ([] : List Value).toArray 0), (u, bndA R0)]) ?_ (fun p hp => ?_)
  rotate_left
  · rcases List.mem_cons.mp hp with rfl | hp
    · exact .tail _ (.tail _ (.head _))
    · rw [List.mem_singleton.mp hp]; exact .tail _ (.head _)
  have hRu : u ≠ R0 := fun e => fu _ (.head _) e.symm
  refine pCons ?_
  refine pWhile (fun k m nw => ∃ i vs n' ti, k = p.length - i ∧ i ≤ p.length ∧ nw = [(R0, W.listOf (List.toArray vs) n'), (u, bndA R0)] ∧ RowA vs (trF (p.take i)) ∧ vs.length ≤ i ∧ m.lookup ("pat" : Str) = some (.str (S p) t0) ∧ m.lookup ("STAR" : Str) = some .none ∧ m.lookup ("QUESTION_MARK" : Str) = some (.str "any" t1) ∧
    m.lookup ("res" : Str) = some (.ref R0) ∧ m.lookup ("add" : Str) = some (.ref u) ∧ m.lookup ("i" : Str) = some (.int (i : Int) ti) ∧ m.lookup ("n" : Str) = some (.int (p.length : Int) tn)) p.length
    ⟨0, [], 0, _, rfl, Nat.zero_le _, rfl, ⟨rfl, fun k v h => by simp at h⟩, Nat.le_refl _, rfl, rfl, rfl, rfl, rfl, rfl, rfl⟩ ?_
  clear fR0 fu ftu
  rintro k m nw ⟨i, vs, n', ti, rfl, hi, rfl, hR, hvl, e1, e2, e3, e4, e5, e6, e7⟩
  have hne : ∀ q ∈ ([(u, bndA R0)] : Nw), q.1 ≠ R0 := fun q hq => by rw [List.mem_singleton.mp hq]; exact hRu
  refine pIsCmp ?_
  refine pNameE (by assumption) ?_
  refine pNameE (by assumption) ?_
  refine pLt ?_
  refine pTrue ?_
  by_cases hlt : i < p.length
  · rw [if_pos (decide_eq_true (Int.ofNat_lt.mpr hlt))]
    have hai : p[i]? = some p[i] := List.getElem?_eq_getElem hlt
    have hsg := sp _ (List.getElem_mem hlt)
    have hT := trF_take hlt
    generalize p[i] = a at hai hsg hT
    refine pCons ?_
    refine pAssign ?_
    refine pSub ?_
    refine pNameE (by assumption) ?_
    refine pNameE (by assumption) ?_
    refine pItemS hai (by lia) fun _ => ?_
    refine pStoreE ?_
    refine pCons ?_
    refine pAssign ?_
    refine pBin ?_
    refine pNameE (by assumption) ?_
    refine pIntC fun _ => ?_
    refine pAdd fun _ => ?_
    refine pStoreE ?_
    refine pCons ?_
    refine pIf ?_
    refine pIsCmp ?_
    refine pNameE rfl ?_
    refine pStrC fun _ => ?_
    refine pEqS (p := [a]) (q := [42]) ?_
    have fin : ∀ vs' n'' tc ti' vc, RowA vs' (trStep (trF (p.take i)) a) → vs'.length ≤ i + 1 → turnQ (fun k m nw => ∃ i vs n' ti, k = p.length - i ∧ i ≤ p.length ∧ nw = [(R0, W.listOf (List.toArray vs) n'), (u, bndA R0)] ∧ RowA vs (trF (p.take i)) ∧ vs.length ≤ i ∧ m.lookup ("pat" : Str) = some (.str (S p) t0) ∧ m.lookup ("STAR" : Str) = some .none ∧ m.lookup ("QUESTION_MARK" : Str) = some (.str "any" t1) ∧
        m.lookup ("res" : Str) = some (.ref R0) ∧ m.lookup ("add" : Str) = some (.ref u) ∧ m.lookup ("i" : Str) = some (.int (i : Int) ti) ∧ m.lookup ("n" : Str) = some (.int (p.length : Int) tn)) (p.length - i) tc .next ((Str.ofString "i", Value.int ((i : Int) + 1) ti') :: (Str.ofString "c", vc) :: m) [(R0, W.listOf (List.toArray vs') n''), (u, bndA R0)] := fun vs' n'' tc ti' vc h1 h2 =>
      ⟨p.length - (i + 1), by lia, i + 1, vs', n'', ti', rfl, hlt, rfl, by rw [hT]; exact h1, h2, e1, e2, e3, e4, e5, rfl, e7⟩
    refine pTrue ?_
    have hus : Has c [(R0, W.listOf (List.toArray vs) n'), (u, bndA R0)] u (bndA R0) := .inr (.tail _ (.head _))
    by_cases h42 : a = 42
    · rw [if_pos (by rw [h42]; rfl)]
      subst h42
      have hst : trStep (trF (p.take i)) 42 = if (trF (p.take i)).getLast? = some .star then trF (p.take i) else trF (p.take i) ++ [.star] := rfl
      rw [hst] at fin
      refine pCons ?_
      refine pIf ?_
      refine pIsBool ?_
      refine pOr ?_
      refine pIsNot ?_
      refine pIsVal ?_
      refine pNameE (by assumption) ?_
      refine pTruthL (.head _) (by rw [List.size_toArray]; lia) ?_
      by_cases hv0 : vs = []
      · subst hv0
        have hr0 : trF (p.take i) = [] := List.eq_nil_of_length_eq_zero (by rw [← hR.len]; rfl)
        rw [if_pos (by rfl)]
        rw [if_neg (by rw [hr0]; simp)] at fin
        refine (if_pos rfl).mpr ?_
        refine pCons ?_
        refine pExpr ?_
        refine pCall ?_
        refine pNameE (by assumption) ?_
        refine pWithBnd hus ?_
        refine pArgs ?_
        refine pNameE (by assumption) ?_
        refine pArgs0 ?_
        refine ⟨hus, ?_⟩
        refine pCallBnd (its := []) hus hne (by decide) ⟨rfl, ?_⟩
        repeat (refine pNil ?_)
        exact fin _ _ _ _ _ (hR.snoc rfl) (by simp)
      · rw [if_neg (by rw [List.size_toArray]; simp [hv0])]
        obtain ⟨v, hv1, hv2⟩ := hR.last hv0
        refine pOr ?_
        refine pIsCmp ?_
        refine pSub ?_
        refine pNameE (by assumption) ?_
        refine pUn ?_
        refine pIntC fun _ => ?_
        refine pNeg fun _ => ?_
        refine pGetNeg1 (.inr (.head _)) hv1 ?_
        refine pNameE (by assumption) ?_
        refine pIsNotNone ?_
        refine pTrue ?_
        rw [hv2]
        by_cases hls : (trF (p.take i)).getLast? = some .star
        · rw [if_pos hls] at fin
          rw [if_neg (by simp [hls])]
          refine pOr0 ?_
          rw [if_neg (by decide)]
          repeat (refine pNil ?_)
          exact fin _ _ _ _ _ hR (by lia)
        · rw [if_neg hls] at fin
          rw [if_pos (by simp [hls])]
          refine (if_pos rfl).mpr ?_
          refine pCons ?_
          refine pExpr ?_
          refine pCall ?_
          refine pNameE (by assumption) ?_
          refine pWithBnd hus ?_
          refine pArgs ?_
          refine pNameE (by assumption) ?_
          refine pArgs0 ?_
          refine ⟨hus, ?_⟩
          refine pCallBnd hus hne (by lia) ⟨rfl, ?_⟩
          repeat (refine pNil ?_)
          exact fin _ _ _ _ _ (hR.snoc rfl) (by simp; lia)
    · rw [if_neg (by simpa using h42)]
      refine pCons ?_
      refine pIf ?_
      refine pIsCmp ?_
      refine pNameE rfl ?_
      refine pStrC fun _ => ?_
      refine pEqS (p := [a]) (q := [63]) ?_
      refine pTrue ?_
      by_cases h63 : a = 63
      · rw [if_pos (by rw [h63]; rfl)]
        subst h63
        have hst : trStep (trF (p.take i)) 63 = trF (p.take i) ++ [.any] := rfl
        rw [hst] at fin
        refine pCons ?_
        refine pExpr ?_
        refine pCall ?_
        refine pNameE (by assumption) ?_
        refine pWithBnd hus ?_
        refine pArgs ?_
        refine pNameE (by assumption) ?_
        refine pArgs0 ?_
        refine ⟨hus, ?_⟩
        refine pCallBnd hus hne (by lia) ⟨rfl, ?_⟩
        repeat (refine pNil ?_)
        exact fin _ _ _ _ _ (hR.snoc ⟨_, rfl⟩) (by simp; lia)
      · rw [if_neg (by simpa using h63)]
        have habc : a ∈ [97, 98, 99] := by
          simp only [List.mem_cons, List.not_mem_nil, or_false] at hsg ⊢
          lia
        have h91 : a ≠ 91 := by
          simp only [List.mem_cons, List.not_mem_nil, or_false] at habc
          lia
        have hst : trStep (trF (p.take i)) a = trF (p.take i) ++ [.sg a] := by
          unfold trStep; rw [if_neg h42, if_neg h63]
        rw [hst] at fin
        refine pCons ?_
        refine pIf ?_
        refine pIsCmp ?_
        refine pNameE rfl ?_
        refine pStrC fun _ => ?_
        refine pEqS (p := [a]) (q := [91]) ?_
        refine pTrue ?_
        rw [if_neg (by simpa using h91)]
        refine pCons ?_
        refine pExpr ?_
        refine pCall ?_
        refine pNameE (by assumption) ?_
        refine pWithBnd hus ?_
        refine pArgs ?_
        refine pCall ?_
        refine pFnE 9 T ?_
        refine pWithG (T.fn 9 (by decide)).2 ?_
        refine pArgs ?_
        refine pNameE rfl ?_
        refine pArgs0 ?_
        refine pEscape (r'.mono (by lia)) T hg hm' lo (by simp only [List.mem_cons, List.not_mem_nil, or_false] at habc; lia) (hv a habc) fun _ => ?_
        refine pArgs0 ?_
        refine ⟨hus, ?_⟩
        refine pCallBnd hus hne (by lia) ⟨rfl, ?_⟩
        repeat (refine pNil ?_)
        exact fin _ _ _ _ _ (hR.snoc ⟨_, rfl⟩) (by simp; lia)
  · rw [if_neg (by simpa using hlt)]
    have : i = p.length := by lia
    subst this
    rw [List.take_length] at hR
    refine pCons ?_
    refine pAssert ?_
    refine pIsCmp ?_
    refine pNameE (by assumption) ?_
    refine pNameE (by assumption) ?_
    refine pEqI ?_
    refine pTrue ?_
    refine ⟨by simp, ?_⟩
    refine pCons ?_
    refine pReturn ?_
    refine pNameE (by assumption) ?_
    exact ret' R0 vs n' _ _ (.head _) hR
end
end
section
open PySem PySem.W PyProof.Rows PySem.Calls PySem.Builtin PySem.W.X
set_option maxRecDepth 100000


theorem kind_iter : builtinKind "iter" = none := by kernel_rfl
theorem plain_iter : plainId "iter" = true := by decide +kernel
theorem entry_iter : entryFor table "iter" = some Builtin.«iter» := entryFor_of_tree (by kernel_rfl)
theorem args_iter (x : Value) : argsOk "iter" ⟨[x], []⟩ := by unfold argsOk; kernel_rfl
section
variable {c : Cx} {m : Mp} {nw : Nw} {env : Env} {Q : Value → Mp → Nw → Prop} {QF : Flow → Mp → Nw → Prop}
theorem pIterS {x : Str} {t : Tok} (ha : x.cps.all (· < 128) = true) (q : ∀ I o, (∀ p ∈ nw, p.1 ≠ I) → o = { cls := .type "str_ascii_iterator", data := .fields #[.str x t, .int 0 0] } → Q (.ref I) m ((I, o) :: nw)) : P c (call (.builtin "iter") [.str x t]) Q m nw := fun h tk I => by
  refine call_function_meets kind_iter plain_iter entry_iter (args_iter _) (S := fun _ R s => R (.ok (.ret (.ref s.heap.objs.size))) { s with heap := s.heap.push { cls := .type "str_ascii_iterator", data := .fields #[.str x t, .int 0 0] } }) (Meets.of_wp fun prog w A R s h => ?_) ?_
  · unfold Builtin.«iter»
    refine wpAny_bind (wpAny_of_eq (a := [.str x t]) (by kernel_rfl) ?_)
    refine wpAny_bind (wpAny_pyIter_ascii ha ?_)
    exact wpAny_pure ⟨_, rfl, h⟩
  · obtain ⟨I', f⟩ := inPush (o := { cls := .type "str_ascii_iterator", data := .fields #[.str x t, .int 0 0] }) I rfl
    exact ⟨_, _, _, _, rfl, I', q _ _ f rfl⟩
/-- a for over an iterator that is there -/
theorem pForI {x : Str} {px : Pos} {body : List Stmt} {iter : Expr} {pos : Pos} {N : Nat} {Pv : Nat → Value → Prop} {I0 : Addr} {o0 : Obj} {St : Nat → Heap → Prop} (Iv : Nat → Mp → Nw → Prop) (Wk : Walks c.prog c.w c.A I0 [I0] [I0] N Pv St) (hex : ∀ i g, St i g → ∃ o, g.get? I0 = some o) (h0 : ∀ g, g.get? I0 = some o0 → St 0 g)
    (H : P c (eval iter env) (fun xv m1 n1 => xv = .ref I0 ∧ ∃ n2, n1 = (I0, o0) :: n2 ∧ (∀ p ∈ n2, p.1 ≠ I0) ∧ Iv 0 m1 n2) m nw)
    (turn : ∀ i v m nw ext, i < N → Pv i v → Iv i m nw → P c (storeName env x v) (fun _ => P c (execs body env) (forQ Iv i ext nw QF)) m (ext ++ nw))
    (done : ∀ m nw, Iv N m nw → QF .next m nw) (hs : ∀ x, foldedSetIterable iter env x = pure x := by intro _; rfl) :
    P c (exec (.For (.Name x px) iter body [] pos) env) QF m nw := fun h tk J => by
  refine wpAny_For (H.seq J fun xv m1 n1 h1 tk1 hq J1 => ?_) hs
  obtain ⟨rfl, n2, rfl, off0, hI0⟩ := hq
  have z := J1.N _ (.head _)
  have hst := h0 h1 z.1
  refine Wk.self 0 _ _ _ hst ?_
  have hb : ∀ b ∈ [I0], c.b.get? b = none := fun b q => by rw [List.mem_singleton.mp q]; exact z.2.2
  have hLw : c.L ∉ [I0] := fun q => z.2.1 (List.mem_singleton.mp q).symm
  have Jr : In c m1 n2 h1 := ⟨J1.F, fun p hp => J1.N p (.tail _ hp)⟩
  refine codeAny_forLoop (fun n s' => ∃ i h tk m nw, s' = c.st h tk ∧ In c m nw h ∧ St i h ∧ Iv i m nw ∧ (∀ p ∈ nw, p.1 ∉ [I0]) ∧ i ≤ N ∧ n = N - i) ?_ N
    ⟨0, h1, tk1, m1, n2, rfl, Jr, hst, hI0, fun p hp q => off0 p hp (List.mem_singleton.mp q), Nat.zero_le _, rfl⟩
  rintro n s' ⟨i, h, tk, m, nw, rfl, J, hst, hI, off, hi, rfl⟩
  by_cases hlt : i < N
  · refine Wk.item i _ _ _ hlt hst fun v h' tk' hv hst' kk => ?_
    have J' : In c m nw h' := inOff J hLw hb off kk
    refine wpAny_assign_Name ((turn i v m nw (extOf c.b h' [I0]) hlt hv hI).seq (inExt J' hLw) fun _ m3 n3 h3 tk3 q3 J3 => q3.seq J3 fun f m4 n4 h4 tk4 q4 J4 => ?_)
    have fin : forQ Iv i (extOf c.b h' [I0]) nw QF .next m4 n4 → ∃ k, k < N - i ∧ ∃ i h tk m nw, c.st h4 tk4 = c.st h tk ∧ In c m nw h ∧ St i h ∧ Iv i m nw ∧ (∀ p ∈ nw, p.1 ∉ [I0]) ∧ i ≤ N ∧ k = N - i := fun z => by
      obtain ⟨z1, nw', z2, z3⟩ := z
      refine ⟨N - (i + 1), by lia, i + 1, h4, tk4, m4, nw', rfl, ⟨J4.F, fun p hp => J4.N p (z2 p hp).1⟩, stExt (fun h'' kk' => Wk.frame _ _ _ hst' kk') J' J4 z1, z3, fun p hp hw => ?_, hlt, rfl⟩
      rcases (z2 p hp).2 with q | q
      · exact off p q hw
      · obtain ⟨o, ho⟩ := hex _ _ hst'
        exact q (p.1, o) (mem_extOf.mpr ⟨hw, hb _ hw, by rw [List.mem_singleton.mp hw]; exact ho⟩) rfl
    cases f with
    | next => exact fin q4
    | cont => exact fin q4
    | brk => exact ⟨_, _, _, _, rfl, J4, q4⟩
    | ret v => exact ⟨_, _, _, _, rfl, J4, q4⟩
  · have : i = N := by lia
    subst this
    refine Wk.done _ _ _ hst fun h' tk' kk => wpAny_execs_nil ⟨_, _, _, _, rfl, inOff J hLw hb off kk, done m nw hI⟩
theorem pIsOther {a b : Value} (hp : plainIs a b = true) (hne : a ≠ b) (q : Q (.bool false) m nw) : P c (compareOp .Is a b) Q m nw := fun _ _ I => wpAny_is_other hp hne ⟨_, _, _, _, rfl, I, q⟩
end
/-- reduce's def -/
noncomputable def RedAt (h : Heap) (mg : Str → Option Value) (a : Addr) : Prop :=
  ∃ o pm cd doc td ot im n, h.get? a = some o ∧ o.data = .func { docDef (nameOf (stAt 15)) (prmOf (stAt 15)) (bodOf (stAt 15)) (scpOf (stAt 15)) pm cd doc with defaults := .ref td } ∧ h.CodeRec cd (nameOf (stAt 15)) ∧ h.get? td = some ot ∧ ot.data = .seq #[.ref im] n ∧ mg "_initial_missing" = some (.ref im)
theorem RedAt.keeps {h h' : Heap} {mg : Str → Option Value} {a : Addr} (x : RedAt h mg a) (k : ∀ b o, h.get? b = some o → h'.get? b = some o) : RedAt h' mg a := by
  obtain ⟨o, pm, cd, doc, td, ot, im, n, h1, h2, h3, h4, h5, h6⟩ := x
  exact ⟨o, pm, cd, doc, td, ot, im, n, k _ _ h1, h2, h3.keeps k, k _ _ h4, h5, h6⟩
/-- what the fold's function does: it adds the sign's price -/
noncomputable def AddOk (prog : Program) (w : World) (h₀ : Heap) (pr : Nat → Nat) (fl : Addr) : Prop :=
  (∃ o fd, h₀.get? fl = some o ∧ o.data = .func fd) ∧ ∀ (A : Around) (R : Result → Shared → Prop) (s : Shared) (acc ch : Nat) (ta tb : Tok), Rm A 2 → (∀ b o, h₀.get? b = some o → s.heap.get? b = some o) → ch ∈ abc →
    (∀ h' tk' t, (∀ b o, s.heap.get? b = some o → h'.get? b = some o) → R (.ok (.ret (.int ((acc + pr ch : Nat) : Int) t))) { s with heap := h', toks := tk' }) →
    codeAny (model prog w) A (.call (.ref fl) ⟨[.int (acc : Int) ta, .str (S [ch]) tb], []⟩) R s
section
variable {mg mb : Str → Option Value} {fa : Nat → Addr} {pr : Nat → Nat} {fl fR : Addr}
set_option maxHeartbeats 1000000 in
theorem reduce_c {prog : Program} {w : World} {A : Around} {R : Result → Shared → Prop} {s : Shared} {name : List Nat} {t u : Tok} (r : Rm A 5) (G0 : G mg mb fa s.heap) (X : RedAt s.heap mg fR) (hA : AddOk prog w s.heap pr fl) (ho : Over name) (hz : name.length ≤ 2 ^ 20)
    (ret : ∀ h' tk' t, (∀ b o, s.heap.get? b = some o → h'.get? b = some o) → R (.ok (.ret (.int (cost pr name : Int) t))) { s with heap := h', toks := tk' }) :
    codeAny (model prog w) A (.call (.ref fR) ⟨[.ref fl, .str (S name) t, .int 0 u], []⟩) R s := by
  obtain ⟨o, pm, cd, doc, td, ot, im, n, h1, h2, h3, h4, h5, h6⟩ := X
  refine codeAny_call_def r.room h1 h2 G0.nolimit h3 rfl (BindsTo.of_defaults (binds := [("function", .ref fl), ("sequence", .str (S name) t), ("initial", .int 0 u)]) rfl h4 h5 rfl rfl) (show ∀ x ∈ (scpOf (stAt 15)).names, x.2 ≠ .cell by decide) (locs rfl) (fun h₁ hns k => ?_)
  have r' : Rm (A.deeper (envOf (nameOf (stAt 15)) (scpOf (stAt 15)) s.heap.objs.size fR cd)) 4 := r.deeper
  have J : In ⟨prog, w, A.deeper (envOf (nameOf (stAt 15)) (scpOf (stAt 15)) s.heap.objs.size fR cd), s, s.heap, s.heap.objs.size⟩ ([("function", .ref fl), ("sequence", .str (S name) t), ("initial", .int 0 u)] : Mp).reverse [] h₁ := ⟨⟨hns, k, Nat.le_refl _⟩, News.nil⟩
  have goal : P ⟨prog, w, A.deeper (envOf (nameOf (stAt 15)) (scpOf (stAt 15)) s.heap.objs.size fR cd), s, s.heap, s.heap.objs.size⟩ (execs (bodOf (stAt 15)) (envOf (nameOf (stAt 15)) (scpOf (stAt 15)) s.heap.objs.size fR cd)) (endQ ⟨prog, w, A.deeper (envOf (nameOf (stAt 15)) (scpOf (stAt 15)) s.heap.objs.size fR cd), s, s.heap, s.heap.objs.size⟩ R) ([("function", .ref fl), ("sequence", .str (S name) t), ("initial", .int 0 u)] : Mp).reverse [] := ?_
  · exact goal.seq J fun f m' nw' h' tk' q I => q h' tk' I
  have ret' : ∀ t m nw, endQ ⟨prog, w, A.deeper (envOf (nameOf (stAt 15)) (scpOf (stAt 15)) s.heap.objs.size fR cd), s, s.heap, s.heap.objs.size⟩ R (.ret (.int (cost pr name : Int) t)) m nw := fun t m nw h tk I => ret h tk t I.F.keep
  clear ret J
  generalize hA' : A.deeper (envOf (nameOf (stAt 15)) (scpOf (stAt 15)) s.heap.objs.size fR cd) = A' at *
  generalize hcx : (⟨prog, w, A', s, s.heap, s.heap.objs.size⟩ : Cx) = c at ret' ⊢
  have hc1 : c.A = A' := by rw [← hcx]
  have hc2 : c.b = s.heap := by rw [← hcx]
  have hc3 : s.heap.objs.size = c.L := by rw [← hcx]
  have hc4 : c.prog = prog := by rw [← hcx]
  have hc5 : c.w = w := by rw [← hcx]
  rw [hc3]
  rw [← hc2] at G0 hA h1 h3 h4
  rw [← hc1] at r'
  rw [← hc4, ← hc5] at hA
  clear hcx hc1 hc2 hc3 hc4 hc5 hA' hns k
  obtain ⟨⟨ofl, ffd, a1, a2⟩, a3⟩ := hA
  have hasc : (S name).cps.all (· < 128) = true := by
    show name.toArray.all _ = true
    rw [List.all_toArray, List.all_eq_true]
    intro x hx
    have := ho x hx
    simp only [abc, List.mem_cons, List.not_mem_nil, or_false] at this
    rcases this with rfl | rfl | rfl <;> decide
  refine pCons ?_
  refine pAssign ?_
  refine pCall ?_
  refine pBnFE (by assumption) ?_
  refine pWithB ?_
  refine pArgs ?_
  refine pNameE rfl ?_
  refine pArgs0 ?_
  refine pIterS hasc fun I0 o0 fI ho0 => ?_
  refine pStoreE ?_
  refine pCons ?_
  refine pIf ?_
  refine pIsCmp ?_
  refine pNameE rfl ?_
  refine pGlobE G0.g h6 ?_
  refine pIsOther (by rfl) (fun h => nomatch h) ?_
  refine pTrue ?_
  refine (if_neg Bool.false_ne_true).mpr ?_
  refine pCons ?_
  refine pAssign ?_
  refine pNameE rfl ?_
  refine pStoreE ?_
  refine pNil ?_
  refine pCons ?_
  have hN : (S name).cps.size = name.length := by show name.toArray.size = _; simp
  refine pForI (I0 := I0) (o0 := o0) (fun i m nw => ∃ t, m.lookup ("value" : Str) = some (.int (cost pr (name.take i) : Int) t) ∧ m.lookup ("function" : Str) = some (.ref fl)) (Walks.strAscii r'.hd I0 (S name) t) (fun i g st => let ⟨o, ho, _⟩ := st; ⟨o, ho⟩) (fun g hg => ⟨o0, hg, by rw [ho0], by rw [ho0]; rfl⟩) ?_ ?_ ?_
  · refine pNameE rfl ?_
    exact ⟨rfl, [], rfl, (fun _ h => nomatch h), u, rfl, rfl⟩
  · rintro i v m nw ext hi ⟨ch, ub, e1, rfl⟩ ⟨tv, l1, l2⟩
    rw [hN] at hi
    have e2 : name[i]? = some ch := by
      have : name.toArray[i]? = some ch := e1
      simpa using this
    have hch : ch ∈ abc := ho ch (List.mem_of_getElem? e2)
    refine pStoreE ?_
    refine pCons ?_
    refine pAssign ?_
    refine pCall ?_
    refine pNameE (by assumption) ?_
    refine pWithF a1 a2 ?_
    refine pArgs ?_
    refine pNameE (by assumption) ?_
    refine pArgs ?_
    refine pNameE rfl ?_
    refine pArgs0 ?_
    refine (fun h tk I => wpAny_call (a3 _ _ _ _ ch tv ub (r'.mono (by lia)) I.F.keep hch fun h' tk' t' k => ⟨h', tk', _, _, rfl, inKeep I k, ?_⟩) : P c (call (.ref fl) [.int (cost pr (name.take i) : Int) tv, .str (S [ch]) ub]) _ _ _)
    refine pStoreE ?_
    refine pNil ?_
    refine ⟨fun p hp => List.mem_append_left _ hp, nw, fun p hp => ⟨List.mem_append_right _ hp, .inl hp⟩, t', ?_, l2⟩
    show some _ = some _
    have : cost pr (name.take (i + 1)) = cost pr (name.take i) + pr ch := by
      rw [List.take_add_one, e2]
      simp [cost]
    rw [this]
  · rintro m nw ⟨tv, l1, l2⟩
    rw [hN, List.take_length] at l1
    refine pCons ?_
    refine pReturn ?_
    refine pNameE (by assumption) ?_
    exact ret' tv _ _
end
end
section
open PySem PySem.W PyProof.Rows PySem.Calls PySem.Builtin PySem.W.X
set_option maxRecDepth 100000
section
variable {c : Cx} {m : Mp} {nw : Nw} {env : Env} {Q : Value → Mp → Nw → Prop} {QF : Flow → Mp → Nw → Prop} {QU : Unit → Mp → Nw → Prop} {b : Bool} {mg mb : Str → Option Value} {fa : Nat → Addr}
theorem P.toT {α : Type} {t : Sem α} {Q : α → Mp → Nw → Prop} (H : P c t Q m nw) : PT b c t Q m nw := fun h tk _ I => H h tk I
theorem ptTests0 {env : Env} {QB : Bool → Mp → Nw → Prop} (q : QB true m nw) : PT b c (forIn ([] : List Expr) true fun t r => if r = true then do let ok ← isTrue t env (eval t env); pure (ForInStep.yield ok) else pure (ForInStep.yield r)) QB m nw := fun _ _ _ I => wpAny_tests_nil ⟨_, _, _, _, rfl, I, q⟩
/-- `o.replace('..', '..')` -/
theorem ptReplace {o : Expr} {x y : Str} {k1 k2 : Nat} {apos p1 p2 pos : Pos} {pl : Sem Bool} (H : PT true c (eval o env) (fun ov m1 n1 => ∃ s t, ov = .str s t ∧ s.length ≤ 1048576 ∧ ∀ t, Q (.str (Txt.replace s x y) t) m1 n1) m nw) (hxy : (x == y) = false) (hz : y.length ≤ 14)
    (he : eval (.Call (.Attribute o "replace" apos) [.Constant (.str x) k1 p1, .Constant (.str y) k2 p2] [] pos) env = (do
      let ov ← eval o env
      standAt apos.atName
      let (f, first) ← holding [ov] (getMethod ov "replace" pl)
      callWith pos f first (backTo pos (starEach [.Constant (.str x) k1 p1, .Constant (.str y) k2 p2] env)) []) := by rfl) :
    PT true c (eval (.Call (.Attribute o "replace" apos) [.Constant (.str x) k1 p1, .Constant (.str y) k2 p2] [] pos) env) Q m nw := fun h tk hp I => by
  refine MethodCall_ (H.seq hp I fun ov m1 n1 h1 tk1 hp1 q I1 => ?_) he
  obtain ⟨s, t, rfl, hs, q⟩ := q
  have h0 : tk1 ≠ 0 := Nat.pos_iff_ne_zero.mp (hp1 rfl)
  refine getMethod_builtin (typeIs_str _ s t) PySem.F.plainAttrs_str PySem.F.slot_str_replace PySem.F.type_str_replace (fun b e => nomatch e) ?_
  refine callWith_method1 (args_cons (wpAny_Constant_str (args_cons (wpAny_Constant_str (args_nil ?_)) rfl)) rfl) rfl rfl
  exact SC.replaceW h0 (Nat.succ_ne_zero _) (Nat.ne_of_lt (Nat.lt_succ_self _)) hxy hs hz fun t' k => ⟨h1, k, m1, n1, rfl, I1, q t'⟩
theorem pAssignCompT {elt tgt iter : Expr} {xs : List Str} {ifs : List Expr} {scope : Scope} {pos spos : Pos} {cl : List (Str × Addr)} {N : Nat} {Pv : Nat → List Value → Prop} {p : Nat → Bool} {El : Nat → Value → Nw → Prop} {y : Str} {py : Pos}
    (H : P c (eval iter env) (fun xv m1 n1 => ItT c tgt xs N Pv [] xv m1 n1 ∧ TurnsT true c cl scope env elt ifs xs N Pv p El m1 n1 ∧ Ends N p El m1 n1 (fun v m2 n2 => QF .next ((y, v) :: m2) n2)) m nw) (hxs : xs ≠ []) (hvs : ∀ i vals, Pv i vals → vals ≠ [])
    (hsw : swapsWith (.ListComp elt [⟨tgt, iter, ifs, 0⟩] scope pos) (some (.Name y py)) spos.line env = pure true) (hL : env.locals = c.L) (hy : env.kindOf y = some .local) (hk : env.scope.kind = .function)
    (hN : N ≤ 2 ^ 20) (hclos : closureFor scope env = pure cl) (hcell : ∀ y ∈ scope.names, y.2 ≠ .cell) (hkind : scope.kind = .function)
    (hnames : ∀ y ∈ scope.names, y.2 = .local → scope.names.lookup y.1 = some .local) (hx : ∀ x ∈ xs, scope.names.lookup x = some .local) (hs : ∀ x, foldedSetIterable iter env x = pure x := by intro _; rfl) :
    P c (exec (.Assign [.Name y py] (.ListComp elt [⟨tgt, iter, ifs, 0⟩] scope pos) spos) env) QF m nw := fun h tk J => by
  rw [exec_Assign_Name_used _ _ _ _ hsw]
  refine wpAny_bind (wpAny_standAt (wpAny_bind ?_))
  show wpAny _ c.A (do let _ ← comprehension (.ListComp elt [⟨tgt, iter, ifs, 0⟩] scope pos) scope env _ (newList []) false (eval iter env) (some (assign (.Name y py) env))) _ _ _
  refine wpAny_bind (wpAny_mono (wpAny_comprehension_free (use := some (assign (.Name y py) env)) (Q := fun _ s' => ∃ h' tk' m' nw', s' = c.st h' tk' ∧ In c m' nw' h' ∧ QF .next m' nw') rfl hs hclos hkind hnames
    (H.seq J fun xv m1 n1 h1 tk1 hq J1 => hq.1 h1 tk1 _ _ J1 fun I wr fp St h2 tk2 Wk hL2 hwr _ hfp hz12 hst k2 => ?_)) (fun _ s' hq => wpAny_pure (wpAny_pure hq)) fun _ _ e => e)
  obtain ⟨_, hturn, hQ⟩ := hq
  refine comp_core (RR := fun acc C => compPost (model c.prog c.w) c.A (fun _ _ => False) (some (assign (.Name y py) env)) (fun _ s' => ∃ h' tk' m' nw', s' = c.st h' tk' ∧ In c m' nw' h' ∧ QF .next m' nw') acc C) Wk hwr hfp hz12 hst k2 J1 hturn (fun _ => ⟨hxs, hvs⟩) hN hcell hkind hx
    fun D C h' tk zs k I' ⟨mC, hC⟩ c1 c2 c3 d1 d2 G' => ?_
  show wpAny _ c.A (assign (.Name y py) env (.ref D)) _ _ _
  have hn : (c.st h' tk).heap.Ns env.locals (fun y => m1.lookup y) := by rw [hL]; exact I'.F.ns
  refine wpAny_assign_Name (wpAny_storeName_local hy hn (fun h3 hn3 hs3 => ?_) (by rw [hk]; rfl))
  rw [hL] at hn3 hs3
  have I3 : In c ((y, .ref D) :: m1) ((D, PySem.W.listOf (zs.map (·.2.1)).toArray k) :: (zs.flatMap (·.2.2) ++ n1)) h3 := by
    refine ⟨?_, fun p hp => ⟨(hs3.2 _ (I'.N p hp).2.1).trans (I'.N p hp).1, (I'.N p hp).2⟩⟩
    rw [cons_lookup]
    exact I'.F.set hn3 hs3
  exact ⟨mC, hC.sameBut hs3 c1, fun h4 hs4 => ⟨h4, _, _, _, rfl, inSame I3 hs4 c1 c2 c3, hQ D zs k d1 d2 G'⟩⟩
theorem pPairs0 {pos : Pos} {QP : List (Value × Value) → Mp → Nw → Prop} (q : QP [] m nw) : P c (evalPairs (pairTrees [] [] env pos)) QP m nw := fun _ _ I => pairTrees_nil_walk ⟨_, _, _, _, rfl, I, q⟩
theorem pPairs {k v : Expr} {ks : List (Option Expr)} {vs : List Expr} {pos : Pos} {QP : List (Value × Value) → Mp → Nw → Prop} (H : P c (eval k env) (fun kv m1 n1 => P c (eval v env) (fun vv m2 n2 => P c (evalPairs (pairTrees ks vs env pos)) (fun r => QP ((kv, vv) :: r)) m2 n2) m1 n1) m nw) :
    P c (evalPairs (pairTrees (some k :: ks) (v :: vs) env pos)) QP m nw := fun _ _ I => pairTrees_cons_walk (H.seq I fun _ _ _ _ _ q I => q.seq I fun _ _ _ _ _ q I => q _ _ I)
/-- a dict of texts, from its display -/
theorem pDictS {keys : List (Option Expr)} {values : List Expr} {pos : Pos} (H : ∀ D, (∀ p ∈ nw, p.1 ≠ D) → P c (evalPairs (pairTrees keys values env pos)) (fun vs m1 n1 => n1 = (D, emptyDict) :: nw ∧ ∃ kvs, Carries (strKind c.prog c.w) vs kvs ∧ ∀ o, o.IsDictOf (strKind c.prog c.w) (merged [] kvs) → Q (.ref D) m1 ((D, o) :: nw)) m ((D, emptyDict) :: nw))
    (hall : keys.all (·.isSome) = true := by rfl) (hl : keys.length = values.length := by rfl) (h0 : keys ≠ [] := by decide) (hlen : keys.length ≤ 15 := by decide) : P c (eval (.Dict keys values pos) env) Q m nw := fun h tk I => by
  obtain ⟨I', f⟩ := inPush (o := emptyDict) I rfl
  refine wpAny_Dict_walk (knd := strKind c.prog c.w) hall hl h0 hlen ((H _ f).seq I' fun vs m1 n1 h1 tk1 q I1 => ?_)
  obtain ⟨rfl, kvs, hc, q⟩ := q
  have hD0 := (I1.N _ (.head _)).1
  refine ⟨kvs, hc, ?_, fun h' hd hs => ?_⟩
  · exact Heap.dictOf_iff.mpr ⟨_, hD0, #[], 0, ⟨rfl, rfl, rfl⟩, rfl, by first | exact fun _ h => nomatch h | (intro e he; simp at he), by first | trivial | exact .nil, List.nodup_nil⟩
  · obtain ⟨o, ho, hd'⟩ := Heap.dictOf_iff.mp hd
    exact ⟨h', _, m1, _, rfl, inTurn I1 f (fun b x hb e => (hs.2 b hb).trans e) ho, q o hd'⟩
theorem pGet2 {a : Addr} {kvs : List (Str × Value)} {k : Str} {t : Tok} {v : Value} (hd : DictA c nw a kvs) (lo : (a == sysModules) = false) (q : Q ((valueAt kvs k).getD v) m nw) : P c (call (.builtin "dict.get") [.ref a, .str k t, v]) Q m nw := fun h tk I =>
  call_meetsIn PySem.F.slot_dict_get ((hd.at I).typeIs (s := c.st h tk)) PySem.F.entry_dict_get (PySem.F.args_dict_get_3 _ _ _) (meets_dict_get_default (strKind c.prog c.w) a (strKind_is c.prog c.w k t) lo v) ⟨_, (hd.at I).mapOf, _, _, _, _, rfl, I, q⟩
theorem pIn2 {x y : Str} {px py : Pos} {u v : Value} (q : QU () ((y, v) :: (x, u) :: m) nw) (hL : env.locals = c.L) (hk : env.scope.kind = .function) (hx : env.kindOf x = some .local) (hy : env.kindOf y = some .local) :
    P c (assignInOrder [assign (.Name x px) env, assign (.Name y py) env] [u, v]) QU m nw := fun h tk I => by
  refine PyProof.Rows.assignInOrder_cons (wpAny_assign_Name ?_)
  refine (pStoreE (QU := fun _ => P c (assignInOrder [assign (.Name y py) env] [v]) QU) ?_ hL hk hx).seq I fun _ _ _ _ _ q I => q _ _ I
  intro h tk I
  refine PyProof.Rows.assignInOrder_cons (wpAny_assign_Name ?_)
  refine (pStoreE (QU := fun _ => P c (assignInOrder [] []) QU) ?_ hL hk hy).seq I fun _ _ _ _ _ q I => q _ _ I
  intro h tk I
  exact PyProof.Rows.assignInOrder_nil ⟨_, _, _, _, rfl, I, q⟩
theorem pUn2 {x y : Str} {px py tpos pos : Pos} {k : Nat} {value : Expr} (hh : c.A.handled = none)
    (H : P c (eval value env) (fun v m1 n1 => ∃ a u v1 n, v = .ref a ∧ Has c n1 a (W.listOf [u, v1].toArray n) ∧ QF .next ((y, v1) :: (x, u) :: m1) n1) m nw)
    (hL : env.locals = c.L := by rfl) (hk : env.scope.kind = .function := by rfl) (hx : env.kindOf x = some .local := by rfl) (hy : env.kindOf y = some .local := by rfl)
    (hs : swapsWithSole [.Tuple [.Name x px, .Name y py] k tpos] value pos.line env = pure false := by rfl) (hw : swappedStores [.Tuple [.Name x px, .Name y py] k tpos] value env = pure none := by rfl) :
    P c (exec (.Assign [.Tuple [.Name x px, .Name y py] k tpos] value pos) env) QF m nw := fun h tk I => by
  refine PyProof.Rows.Assign_Tuple (H.seq I fun v m1 n1 h1 tk1 q I1 => ?_) hs hw
  obtain ⟨a, u, v1, n, rfl, ha, q⟩ := q
  refine assign_Tuple_list (items := [u, v1].toArray) hh (PySem.IsL.isList (n := n) (ha.get I1)) rfl rfl fun h2 k2 => ?_
  exact (pIn2 (QU := fun _ => QF .next) q hL hk hx hy).seq (inKeep I1 k2) fun _ _ _ _ _ q I => ⟨_, _, _, _, rfl, I, q⟩
theorem pOr2 {x y : Expr} {pos : Pos} (H : P c (eval x env) (fun v m1 n1 => P c (truthy v) (fun t m2 n2 => if t then Q v m2 n2 else P c (eval y env) Q m2 n2) m1 n1) m nw) : P c (eval (.BoolOp .Or [x, y] pos) env) Q m nw :=
  fun _ _ I => wpAny_Or2 (H.seq I fun _ _ _ _ _ q I => q.seq I fun t _ _ _ _ q I => by
    cases t with
    | true => exact ⟨_, _, _, _, rfl, I, q⟩
    | false => exact q _ _ I)
theorem pAnd2 {x y : Expr} {pos : Pos} (H : P c (eval x env) (fun v m1 n1 => P c (truthy v) (fun t m2 n2 => if t then P c (eval y env) Q m2 n2 else Q v m2 n2) m1 n1) m nw) : P c (eval (.BoolOp .And [x, y] pos) env) Q m nw :=
  fun _ _ I => wpAny_And2 (H.seq I fun _ _ _ _ _ q I => q.seq I fun t _ _ _ _ q I => by
    cases t with
    | false => exact ⟨_, _, _, _, rfl, I, q⟩
    | true => exact q _ _ I)
theorem pNeI {i j : Int} {t u : Tok} (q : Q (.bool (i != j)) m nw) : P c (compareOp .NotEq (.int i t) (.int j u)) Q m nw := fun _ _ I => PyProof.Rows.ne_int ⟨_, _, _, _, rfl, I, q⟩
end
end
section
open PySem PySem.W PyProof.Rows PySem.Calls PySem.Builtin PySem.W.X
set_option maxRecDepth 100000
/-- the lambda of _law_right: its parts -/
noncomputable def lamX : Option (Arguments × Expr × Scope × Pos) := match (bodOf (stAt 22))[4]? with
  | some (Stmt.Assign _ (Expr.Call _ (Expr.Lambda a b s p :: _) _ _) _) => some (a, b, s, p)
  | _ => none
noncomputable def lamP : Arguments := (lamX.getD default).1
noncomputable def lamB : Expr := (lamX.getD default).2.1
noncomputable def lamS : Scope := (lamX.getD default).2.2.1
noncomputable def lamPos : Pos := (lamX.getD default).2.2.2
noncomputable def lamQ : Str := (nameOf (stAt 22) ++ ".<locals>.") ++ "<lambda>"
/-- the table of _law_right's code: its lambda's code is not made yet, or made -/
structure RInv (h : Heap) (cR TR : Addr) (pr : Array Value) : Prop where
  hd : CodeHd h cR TR
  tb : h.get? TR = some (tabObj pr)
  st : pr = #[] ∨ ∃ c', pr = #[rawInt lamPos.line, rawInt lamPos.col, .ref c'] ∧ h.CodeRec (.ref c') lamQ
theorem Supp.hd {h₀ h : Heap} {c P : Addr} (x : CodeHd h c P) : Supp h₀ (fun h => CodeHd h c P) h := by
  obtain ⟨o, vs, file, tf, flags, tg, inF, text, tt, e, e1, e2, r⟩ := x
  exact (Supp.rec (h₀ := h₀) e e2).map fun h' e => ⟨o, vs, file, tf, flags, tg, inF, text, tt, e, e1, e2, r⟩
theorem Supp.rinv {h₀ h : Heap} {cR TR : Addr} {pr : Array Value} (x : RInv h cR TR pr) : Supp h₀ (fun h => RInv h cR TR pr) h := by
  obtain ⟨a, b, s⟩ := x
  rcases s with s | ⟨c', s1, s2⟩
  · exact ((Supp.hd (h₀ := h₀) a).and (Supp.rec b rfl)).map fun h' e => ⟨e.1, e.2, .inl s⟩
  · exact ((Supp.hd (h₀ := h₀) a).and ((Supp.rec b rfl).and (Supp.code s2))).map fun h' e => ⟨e.1, e.2.1, .inr ⟨c', s1, e.2.2⟩⟩
/-- a lambda that is there -/
noncomputable def LamAt (h : Heap) (f : Addr) (cl : List (Str × Addr)) : Prop := ∃ pm c' ctv, h.get? f = some (kla_obj "<lambda>" lamQ lamP lamB lamS cl pm c' ctv) ∧ h.CodeRec (.ref c') lamQ
section
variable {c : Cx} {m : Mp} {nw cs : Nw} {env : Env} {Q : Value → Mp → Nw → Prop} {mg mb : Str → Option Value} {fa : Nat → Addr} {fK cK bm T cR TR : Addr} {pr : Array Value}
theorem pFreeE {x : Str} {pos : Pos} {v : Value} {a : Addr} (hc : env.cells.lookup x = some a) (hv : CellA c nw a v) (q : Q v m nw) (hk : env.scope.kind = .function := by rfl) (hl : env.kindOf x = some .free := by rfl)
    (hd : (x == ("__debug__" : Str)) = false := by decide) (hn : (x == ("__classdict__" : Str)) = false := by decide) : P c (eval (.Name x pos) env) Q m nw := fun h tk I => by
  obtain ⟨o, ho, hd'⟩ := hv
  exact wpAny_Name (wpAny_loadName_free hk hl hc ⟨o, ho.get I, hd'⟩ ⟨_, _, _, _, rfl, I, q⟩ hn) hd
theorem pLam {name : Str} {scope : Scope} {a : Addr} {clos : List (Str × Addr)} (G0 : G mg mb fa c.b) (hmk : ∃ ob, Mk c.b mg bm ob) (hTR : c.b.get? TR = none) (hR : HH c ((TR, tabObj pr) :: cs) (fun h => RInv h cR TR pr)) (hne : ∀ q ∈ cs, q.1 ≠ TR) (hn : name = nameOf (stAt 22))
    (hcl : closureFor lamS (envOfC name scope c.L a (.ref cR)) = pure clos)
    (q : ∀ f pr' kl, HH c (kl ++ (TR, tabObj pr') :: cs) (fun h => RInv h cR TR pr' ∧ LamAt h f clos) → (∀ p ∈ kl, ∀ q ∈ cs, (∀ vs, q.2.data ≠ .fields vs) → p.1 ≠ q.1) → Q (.ref f) m (kl ++ (TR, tabObj pr') :: cs)) :
    P c (eval (.Lambda lamP lamB lamS lamPos) (envOfC name scope c.L a (.ref cR))) Q m ((TR, tabObj pr) :: cs) := fun h tk I => by
  subst hn
  obtain ⟨ob, M⟩ := hmk
  have R0 := hR.here I
  have hg := G0.g.keeps I.F.keep
  have hgP : mainGlobals ≠ TR := fun e => by
    obtain ⟨o, es, ep, e1, _⟩ := G0.g
    rw [e, hTR] at e1; cases e1
  have hbT : bm ≠ TR := fun e => by have := M.o; rw [e, hTR] at this; cases this
  have hbG : bm ≠ mainGlobals := fun e => by
    obtain ⟨o, es, ep, e1, hd, _⟩ := M.g
    have := M.o
    rw [e, e1] at this
    cases this
    rw [M.ol] at hd
    cases hd
  have hb : h.BuiltinsAt mg TR := ⟨bm, ob, M.hm, M.bn, hbG, hbT, I.F.keep _ _ M.o, M.oc, M.od, M.ol⟩
  refine kla_eval (by rfl) ?_
  -- what both roads hand on
  have fin : ∀ (c' : Addr) (ctv : Value) (h' : Heap) (tk' : Tok) (pr' : Array Value), (∀ b o, b ≠ TR → h.get? b = some o → h'.get? b = some o) → c.L < h'.objs.size → h.objs.size ≤ h'.objs.size → h'.get? TR = some (tabObj pr') → h'.CodeRec (.ref c') lamQ →
      (pr' = #[] ∨ ∃ c', pr' = #[rawInt lamPos.line, rawInt lamPos.col, .ref c'] ∧ h'.CodeRec (.ref c') lamQ) →
      ∃ h₂ tk₂ m₂ nw₂, (({ c.s with heap := h'.push (kla_obj "<lambda>" lamQ lamP lamB lamS clos ((mg "__name__").getD .none) c' ctv), toks := tk' } : Shared) = c.st h₂ tk₂) ∧ In c m₂ nw₂ h₂ ∧ Q (.ref h'.objs.size) m₂ nw₂ := fun c' ctv h' tk' pr' k hL hsz htb hrec hst => by
    have I1 : In c m ((TR, tabObj pr') :: cs) h' := inTurn I hne k htb
    obtain ⟨I2, f2⟩ := inPush (o := kla_obj "<lambda>" lamQ lamP lamB lamS clos ((mg "__name__").getD .none) c' ctv) I1 rfl
    have kp : ∀ b o, h'.get? b = some o → (h'.push (kla_obj "<lambda>" lamQ lamP lamB lamS clos ((mg "__name__").getD .none) c' ctv)).get? b = some o := fun b o e => Heap.get?_push_of_some _ e
    have R1 : RInv (h'.push (kla_obj "<lambda>" lamQ lamP lamB lamS clos ((mg "__name__").getD .none) c' ctv)) cR TR pr' := by
      have hcR : cR ≠ TR := by obtain ⟨_, _, _, _, _, _, _, _, _, _, _, _, _, _, _, _, _, _, r⟩ := R0.hd; exact r
      refine ⟨?_, kp _ _ htb, hst.imp id fun ⟨c'', e1, e2⟩ => ⟨c'', e1, e2.keeps kp⟩⟩
      obtain ⟨o, vs, file, tf, flags, tg, inF, text, tt, e, r⟩ := R0.hd
      exact ⟨o, vs, file, tf, flags, tg, inF, text, tt, kp _ _ (k _ _ hcR e), r⟩
    have hfn : h.get? h'.objs.size = none := Heap.get?_none_of_le hsz
    have hfo := (I2.N _ (.head _)).1
    obtain ⟨kl, J, hh, ap⟩ := HH.of I ⟨I2.F, fun p hp => I2.N p (.tail _ hp)⟩ ((Supp.rinv (h₀ := h) R1).and ((Supp.new hfo hfn).and (Supp.code (hrec.keeps kp))))
    refine ⟨_, _, m, _, rfl, J, q _ pr' kl (fun g hg' => ?_) fun p hp z hz => ap p hp z (.tail _ hz) (.tail _ hz)⟩
    have := hh g fun b o e => hg' b o (e.more fun p hp => List.mem_append_left _ hp)
    exact ⟨this.1, _, c', ctv, this.2.1, this.2.2⟩
  rcases R0.st with rfl | ⟨c0, rfl, hc0⟩
  · refine kla_makeFunction (P := TR) (c := cR) (ps := #[]) hcl rfl hg rfl R0.hd R0.tb trivial rfl hgP hb fun c' ctv h' tk' hx hge hlt hrec htb => ?_
    exact fin c' ctv h' tk' _ hx (Nat.lt_of_lt_of_le I.F.ns.lt (Nat.le_trans hge (Nat.le_of_lt hlt))) (Nat.le_trans hge (Nat.le_of_lt hlt)) htb hrec (.inr ⟨c', by simp, hrec⟩)
  · refine kla_makeFunctionHit (P := TR) (c := cR) (cv := .ref c0) hcl rfl hg rfl R0.hd R0.tb trivial (by rfl) hb fun ctv h' tk' k hsz => ?_
    exact fin c0 ctv h' tk' _ (fun b o _ e => k b o e) (Nat.lt_of_lt_of_le I.F.ns.lt hsz) hsz (k _ _ R0.tb) (hc0.keeps k) (.inr ⟨c0, rfl, hc0.keeps k⟩)
end
end
section
open PySem PySem.W PyProof.Rows PySem.Calls PySem.Builtin PySem.W.X
set_option maxRecDepth 100000


theorem lam_bind {acc : Nat} {ta tb : Tok} {ch : Nat} {clos : List (Str × Addr)} {pm cv ctv : Value} : bindArgs (kla_fn "<lambda>" lamQ lamP lamB lamS clos pm cv ctv) ⟨[.int (acc : Int) ta, .str (S [ch]) tb], []⟩ = pure ([("so_far", .int (acc : Int) ta), ("sign", .str (S [ch]) tb)] : List (Str × Value)) := by rfl
theorem lam_add {prog : Program} {w : World} {h₀ : Heap} {pr : Nat → Nat} {f ca d : Addr} {ta tb tc : Tok} (X : LamAt h₀ f [(Str.ofString "prices", ca)]) (lim : h₀.NoLimit) (hc : ∃ o, h₀.get? ca = some o ∧ o.data = .cell (some (.ref d))) (DD : ∃ o, h₀.get? d = some o ∧ o.IsDictOf (strKind prog w) (prD pr ta tb tc)) : AddOk prog w h₀ pr f := by
  obtain ⟨pm, c', ctv, hX, hcd⟩ := X
  refine ⟨⟨_, _, hX, rfl⟩, fun A R s acc ch t1 t2 r k hch ret => ?_⟩
  refine kla_callFunE r.room (k _ _ hX) rfl (by rfl) (by rfl) rfl (hcd.keeps k) ?_
  rw [lam_bind]
  refine wpAny_pure (wpAny_newFunctionEnv (show ∀ x ∈ lamS.names, x.2 ≠ .cell by decide) (locs (by rfl)) (fun h₁ hns hsb => ⟨(lim.keeps k).fresh _ hsb, ?_⟩) (by rfl))
  show codeAny _ _ (.expr lamB (envX lamQ lamS s.heap.objs.size f (.ref c') [(Str.ofString "prices", ca)])) _ _
  have hk₁ : ∀ b o, s.heap.get? b = some o → h₁.get? b = some o := fun b o e => hsb.extBut b o (Nat.ne_of_lt (Heap.lt_size e)) (Heap.get?_push_of_some _ e)
  have J : In ⟨prog, w, A.deeper (envX lamQ lamS s.heap.objs.size f (.ref c') [(Str.ofString "prices", ca)]), s, s.heap, s.heap.objs.size⟩ ([("so_far", .int (acc : Int) t1), ("sign", .str (S [ch]) t2)] : Mp).reverse [] h₁ := ⟨⟨hns, hk₁, Nat.le_refl _⟩, News.nil⟩
  obtain ⟨oc, hc1, hc2⟩ := hc
  have cP : ∀ nw, CellA ⟨prog, w, A.deeper (envX lamQ lamS s.heap.objs.size f (.ref c') [(Str.ofString "prices", ca)]), s, s.heap, s.heap.objs.size⟩ nw ca (.ref d) := fun _ => ⟨oc, .inl (k _ _ hc1), hc2⟩
  obtain ⟨t5, h5⟩ := prD_get (pr := pr) (ta := ta) (tb := tb) (tc := tc) hch
  have DA : ∀ nw, DictA ⟨prog, w, A.deeper (envX lamQ lamS s.heap.objs.size f (.ref c') [(Str.ofString "prices", ca)]), s, s.heap, s.heap.objs.size⟩ nw d (prD pr ta tb tc) := fun _ => let ⟨o, z1, z2⟩ := DD; ⟨o, .inl (k _ _ z1), z2⟩
  have goal : P ⟨prog, w, A.deeper (envX lamQ lamS s.heap.objs.size f (.ref c') [(Str.ofString "prices", ca)]), s, s.heap, s.heap.objs.size⟩ (eval lamB (envX lamQ lamS s.heap.objs.size f (.ref c') [(Str.ofString "prices", ca)])) (fun v _ _ => ∃ t, v = .int ((acc + pr ch : Nat) : Int) t) ([("so_far", .int (acc : Int) t1), ("sign", .str (S [ch]) t2)] : Mp).reverse [] := by
    refine pBin ?_
    refine pNameE (v := .int (acc : Int) t1) rfl ?_
    refine pSub ?_
    refine pFreeE (by rfl) (cP _) ?_
    refine pNameE (v := .str (S [ch]) t2) rfl ?_
    refine pDictGet (kvs := prD pr ta tb tc) (DA _) h5 ?_
    exact pAdd fun t => ⟨t, rfl⟩
  refine kla_codeExpr (goal.seq J fun v m nw h tk ⟨t, e⟩ I => ?_)
  subst e
  exact ret h tk t I.F.keep
theorem pEnterCTT {prog : Program} {w : World} {A : Around} {R : Result → Shared → Prop} {s : Shared} {a T TR cR : Addr} {oT oR : Obj} {i n : Nat} {args : List Value} {binds : List (Str × Value)} {mp : Mp} (hT : s.heap.get? T = some oT) (hR : s.heap.get? TR = some oR) (hTR : TR ≠ T)
    (X : ∃ o pm doc, s.heap.get? a = some o ∧ o.data = .func (docDef (nameOf (stAt i)) (prmOf (stAt i)) (bodOf (stAt i)) (scpOf (stAt i)) pm (.ref cR) doc) ∧ s.heap.CodeRec (.ref cR) (nameOf (stAt i))) (hl : s.heap.NoLimit) (r : Rm A (n + 1))
    (hbind : ∀ pm cd doc, bindArgs (docDef (nameOf (stAt i)) (prmOf (stAt i)) (bodOf (stAt i)) (scpOf (stAt i)) pm cd doc) ⟨args, []⟩ = pure binds)
    (hkind : ∀ n, ∀ x ∈ binds, (scpOf (stAt i)).names.lookup x.1 = some .local ∨ ((scpOf (stAt i)).names.lookup x.1 = some .cell ∧ ((cellsFrom n (scpOf (stAt i)).names []).lookup x.1).isSome = true))
    (hnd : ((cellsFrom 0 (scpOf (stAt i)).names []).map (·.1)).Nodup)
    (hm : ∀ L cd, bindL (envOfC (nameOf (stAt i)) (scpOf (stAt i)) L a cd).kindOf binds (fun _ => none) = fun x => mp.lookup x)
    (h : ∀ A' cells, Rm A' n → CellsAre (bindC (envOfC (nameOf (stAt i)) (scpOf (stAt i)) s.heap.objs.size a (.ref cR)).kindOf binds fun _ => none) (cellsFrom (s.heap.objs.size + 1) (scpOf (stAt i)).names []) cells → (∀ p ∈ cells, p.1 ≠ T ∧ p.1 ≠ TR) →
      P ⟨prog, w, A', s, (s.heap.hide T).hide TR, s.heap.objs.size⟩ (execs (bodOf (stAt i)) (envOfC (nameOf (stAt i)) (scpOf (stAt i)) s.heap.objs.size a (.ref cR))) (endQ ⟨prog, w, A', s, (s.heap.hide T).hide TR, s.heap.objs.size⟩ R) mp ((TR, oR) :: (T, oT) :: cells))
    (hco : (scpOf (stAt i)).isCoroutine = false := by rfl) (hgen : (scpOf (stAt i)).isGenerator = false := by rfl) (hk : (scpOf (stAt i)).kind = .function := by rfl) : codeAny (model prog w) A (.call (.ref a) ⟨args, []⟩) R s := by
  obtain ⟨o, pm, doc, h1, h2, h3⟩ := X
  refine call_cellsN_ret r.room h1 h2 hl h3 (hbind pm _ doc) (hkind _) hnd (fun h₁ tk cells F N Y => ?_) hco hgen hk
  rw [hm] at F
  obtain ⟨F', N'⟩ := frH F hT
  obtain ⟨F'', N''⟩ := frH F' ((Heap.hide_ne _ hTR).trans hR)
  have hc : ∀ p ∈ cells, p.1 ≠ T ∧ p.1 ≠ TR := fun p hp => ⟨fun e => (by have := (N p hp).2.2; rw [e, hT] at this; cases this), fun e => (by have := (N p hp).2.2; rw [e, hR] at this; cases this)⟩
  refine (h _ cells r.deeper Y hc).seq (c := ⟨prog, w, _, s, (s.heap.hide T).hide TR, s.heap.objs.size⟩) ⟨F'', fun p hp => ?_⟩ fun f m' nw' h' tk' q I => q h' tk' I
  rcases List.mem_cons.mp hp with rfl | hp
  · exact N'' _ (.head _)
  rcases List.mem_cons.mp hp with rfl | hp
  · have := N' _ (.head _)
    exact ⟨this.1, this.2.1, (Heap.hide_ne _ hTR.symm).trans this.2.2⟩
  · exact ⟨(N p hp).1, (N p hp).2.1, (Heap.hide_ne _ (hc p hp).2).trans ((Heap.hide_ne _ (hc p hp).1).trans (N p hp).2.2)⟩
/-- a list of rows -/
noncomputable def RowsAt (c : Cx) (nw : Nw) (v : Value) (rows : List (List Pt)) : Prop :=
  ∃ (a : Addr) (rs : List Addr) (n : Nat), v = .ref a ∧ Has c nw a (W.listOf (rs.map Value.ref).toArray n) ∧ rs.length = rows.length ∧ ∀ (i : Nat) (hi : i < rows.length), ∃ r ps k, rs[i]? = some r ∧ Has c nw r (W.listOf (List.toArray ps) k) ∧ RowA ps rows[i]
theorem RowsAt.more {c : Cx} {nw nw' : Nw} {v : Value} {rows : List (List Pt)} (x : RowsAt c nw v rows) (h : ∀ p ∈ nw, p ∈ nw') : RowsAt c nw' v rows := by
  obtain ⟨a, rs, n, e, ha, hl, hr⟩ := x
  exact ⟨a, rs, n, e, ha.more h, hl, fun i hi => let ⟨r, ws, k, a, b, d⟩ := hr i hi; ⟨r, ws, k, a, b.more h, d⟩⟩
/-- the list of rows that a comprehension has made -/
theorem rowsAt_of {c : Cx} {nw : Nw} {D : Addr} {n : Nat} {zs : List (Nat × Value × Nw)} {on : List (List Pt)} (hD : (D, W.listOf (zs.map (·.2.1)).toArray n) ∈ nw) (hi : zs.map (·.1) = List.range on.length)
    (hz : ∀ z ∈ zs, ∃ a ws k, z.2.1 = .ref a ∧ (a, W.listOf (List.toArray ws) k) ∈ nw ∧ ∀ (h : z.1 < on.length), RowA ws on[z.1]) : RowsAt c nw (.ref D) on := by
  have hl : zs.length = on.length := by simpa using congrArg List.length hi
  have hget : ∀ (i : Nat) (h : i < zs.length), (zs[i]).1 = i := fun i h => by
    have := congrArg (·[i]?) hi
    simp [h, hl ▸ h] at this
    exact this
  refine ⟨D, zs.map (fun z => match z.2.1 with | .ref a => a | _ => 0), n, rfl, ?_, by simpa using hl, fun i h => ?_⟩
  · have e : (zs.map fun z => z.2.1) = (zs.map (fun z => match z.2.1 with | .ref a => a | _ => 0)).map Value.ref := by
      rw [List.map_map]
      refine List.map_congr_left fun z hz' => ?_
      obtain ⟨a, _, _, e, _⟩ := hz z hz'
      show z.2.1 = Value.ref (match z.2.1 with | .ref a => a | _ => 0)
      rw [e]
    rw [← e]
    exact .inr hD
  · have h' : i < zs.length := hl ▸ h
    obtain ⟨a, ws, k, e, e2, e3⟩ := hz _ (List.getElem_mem h')
    refine ⟨a, ws, k, by simp [h', e], .inr e2, ?_⟩
    have := e3 (by rw [hget i h']; exact h)
    simpa [hget i h'] using this
theorem PtV.eq {p : Pt} {v u : Value} (h : PtV p v) (k : PtV p u) : eqV v u = true := by
  cases p with
  | star => rw [show v = .none from h, show u = .none from k]; rfl
  | any => obtain ⟨t, rfl⟩ := h; obtain ⟨s, rfl⟩ := k; rfl
  | sg a => obtain ⟨t, rfl⟩ := h; obtain ⟨s, rfl⟩ := k; exact beq_self_eq_true _
theorem all_true {n : Nat} : ((List.range n).all fun _ => true) = true := by simp
theorem eqRow {A : Around} {s : Shared} {l b : Addr} {xs ys : List Value} {row : List Pt} (hu : A.units + 1 < cLine) (hl : s.heap.IsList l xs.toArray) (hb : s.heap.IsList b ys.toArray) (hx : RowA xs row) (hy : RowA ys row) : PySem.SeqAt.EqAt A s (.ref l) (.ref b) true := by
  by_cases e : l = b
  · subst e; exact PySem.SeqAt.EqAt.same _
  · refine PySem.SeqAt.EqAt.of_refs e ?_
    have := PySem.SeqAt.RcAt.lists (A := A) (e := fun _ => true) hl hb (by simp [hx.len, hy.len]) (by lia) fun j h1 h2 => ?_
    · rw [all_true] at this; exact this
    · have h1' : j < row.length := by rw [← hx.len]; simpa using h1
      obtain ⟨v, q1, q2⟩ := hx.get h1'
      obtain ⟨u, q3, q4⟩ := hy.get h1'
      have e1 : xs.toArray[j] = v := by
        have : xs[j]? = some xs[j] := List.getElem?_eq_getElem _
        rw [q1] at this; simpa using (Option.some.inj this).symm
      have e2 : ys.toArray[j] = u := by
        have : ys[j]? = some ys[j] := List.getElem?_eq_getElem _
        rw [q3] at this; simpa using (Option.some.inj this).symm
      rw [e1, e2]
      have := (eqV_ok q2.kind q4.kind).at A.in1 s
      rw [q2.eq q4] at this
      exact this
section
variable {c : Cx} {m : Mp} {nw cs : Nw} {Q : Value → Mp → Nw → Prop} {mg mb : Str → Option Value} {fa : Nat → Addr} {fK cK bm T : Addr} {pt : Array Value}
/-- `rows != rows` of equal rows -/
theorem pNeRows {u v : Value} {rows : List (List Pt)} (hu : c.A.units + 4 < cLine) (h1 : RowsAt c nw u rows) (h2 : RowsAt c nw v rows) (q : Q (.bool false) m nw) : P c (compareOp .NotEq u v) Q m nw := fun g tk I => by
  obtain ⟨a, rs, n, rfl, a1, a2, a3⟩ := h1
  obtain ⟨b, rs', k, rfl, b1, b2, b3⟩ := h2
  show wpAny _ _ (richCompare .NotEq (.ref a) (.ref b)) _ _ _
  refine richCompare_meets_room (op := .NotEq) ⟨_, a1.get I, rfl⟩ ⟨_, b1.get I, rfl⟩ PySem.F.slot_list_ne PySem.F.entry_list_ne (PySem.F.args_list_ne_2 _ _) (PySem.SeqAt.list_neAt a b _ _ n k _ _ _ _ (by simp [a2, b2]) (fun _ => true))
    ⟨a1.get I, b1.get I, fun j h1 h2 => ?_, (fun x => nomatch x), ?_⟩ (by lia)
  · have h1' : j < rows.length := by rw [← a2]; simpa using h1
    obtain ⟨r, ps, k1, p1, p2, p3⟩ := a3 j h1'
    obtain ⟨r', ps', k2, q1, q2, q3⟩ := b3 j h1'
    have e1 : (rs.map Value.ref).toArray[j] = .ref r := by
      have : rs[j]? = some rs[j] := List.getElem?_eq_getElem _
      rw [p1] at this; simpa using (Option.some.inj this).symm
    have e2 : (rs'.map Value.ref).toArray[j] = .ref r' := by
      have : rs'[j]? = some rs'[j] := List.getElem?_eq_getElem _
      rw [q1] at this; simpa using (Option.some.inj this).symm
    rw [e1, e2]
    exact eqRow (by show c.A.units + 1 + 1 < 9900; have : c.A.units + 4 < 9900 := hu; lia) (PySem.IsL.isList (n := k1) (p2.get I)) (PySem.IsL.isList (n := k2) (q2.get I)) p3 q3
  · rw [all_true]
    exact ⟨_, _, _, _, rfl, I, q⟩
theorem pTransl {p : List Nat} {t0 t1 : Tok} {d : Addr} {kvs : List (Int × Value)} (hgs : c.s.gens = #[]) (r : Rm c.A 4) (T : G mg mb fa c.b) (hg : mg "_special_chars_map" = some (.ref d)) (hm : c.b.DictOf (intKind c.prog c.w) d kvs) (lo : (d == sysModules) = false)
    (hv : ∀ a ∈ [97, 98, 99], valueAt kvs ((a : Nat) : Int) = none) (sp : Sgn p) (hz : p.length ≤ 100) (q : ∀ a ws n, (∀ p ∈ nw, p.1 ≠ a) → RowA ws (trF p) → Q (.ref a) m ((a, W.listOf ws.toArray n) :: nw)) : P c (call (.ref (fa 11)) [.str (S p) t0, .none, .str "any" t1]) Q m nw := fun h tk I =>
  wpAny_call (translate_c hgs r (T.keeps I.F.keep) hg (hm.keep I.F.keep) lo hv sp hz fun h' tk' a ws n k hn hg hw =>
    let ⟨I', f⟩ := inFresh I k hn hg
    ⟨_, _, _, _, rfl, I', q a ws n f hw⟩)
theorem pFound {pr : Nat → Nat} {d ra : Addr} {ta tb tc : Tok} {rows : List (List Pt)} {fuel : Nat} {res : Nat × Wd} (hg : c.s.gens = #[]) (r : Rm c.A 22) (G0 : G mg mb fa c.b) (GK0 : GK c.b mg fK cK bm) (KI : HH c ((T, tableObj pt) :: cs) (fun h => KInv h cK T bm pt)) (hTc : ∀ q ∈ cs, q.1 ≠ T)
    (DD : ∃ o, c.b.get? d = some o ∧ o.IsDictOf (strKind c.prog c.w) (prD pr ta tb tc)) (RR : RowsAt c cs (.ref ra) rows) (hrow : ∀ row ∈ rows, row.length ≤ 1000) (hrl : rows.length ≤ 1000) (hfu : fuel ≤ 2000) (hfound : foundN rows pr fuel [first0 rows] [0] [] = some res)
    (q : ∀ b t u pt' kl, HH c kl (fun h => KInv h cK T bm pt') → (∀ p ∈ kl, ∀ q ∈ cs, (∀ vs, q.2.data ≠ .fields vs) → p.1 ≠ q.1) → (∀ q ∈ cs, q.1 ≠ b) → b ≠ T → Q (.ref b) m (kl ++ (b, W.listOf [.int (res.1 : Int) t, .str (S res.2) u].toArray 0) :: (T, tableObj pt') :: cs)) :
    P c (call (.ref (fa 20)) [.ref ra, .ref d]) Q m ((T, tableObj pt) :: cs) := fun h tk I => by
  have hbT : c.b.get? T = none := (I.N _ (.head _)).2.2
  have kT : ∀ b o, c.b.get? b = some o → (h.hide T).get? b = some o := fun b o e => (Heap.hide_ne _ (fun q => by rw [q, hbT] at e; cases e)).trans (I.F.keep _ _ e)
  have hh : ∀ a o, Has c cs a o → (h.hide T).get? a = some o := fun a o x => by
    rcases x with e | e
    · exact kT _ _ e
    · exact (Heap.hide_ne _ (hTc _ e)).trans (I.N _ (.tail _ e)).1
  obtain ⟨ra', rs, n, e0, R1, R2, R3⟩ := RR
  cases e0
  refine wpAny_call (found_c (s := c.st h tk) (T := T) (fK := fK) (mg := mg) (mb := mb) hg r (I.N _ (.head _)).1 (KI.here I) (G0.keeps kT) (GK0.keeps kT) (let ⟨o, z1, z2⟩ := DD; ⟨o, kT _ _ z1, z2⟩) ⟨rs, n, hh _ _ R1, R2, fun i hi => let ⟨r, ps, k, x1, x2, x3⟩ := R3 i hi; ⟨r, ps, k, x1, hh _ _ x2, x3⟩⟩ hrow hrl hfu hfound fun h' tk' b t u pt' k' inv' nb hb => ?_)
  have k' : ∀ b o, b ≠ T → h.get? b = some o → h'.get? b = some o := k'
  have nb : h.get? b = none := nb
  have hbT' : b ≠ T := fun e => by have := (I.N _ (.head _)).1; rw [show (T, tableObj pt).1 = b from e.symm, nb] at this; cases this
  have I' : In c m ((T, tableObj pt') :: cs) h' := inTurn I hTc k' inv'.t.2
  have fb : ∀ p ∈ (T, tableObj pt') :: cs, p.1 ≠ b := fun p hp e => by
    rcases List.mem_cons.mp hp with rfl | hp
    · exact hbT' e.symm
    · have := (I.N p (.tail _ hp)).1; rw [e, nb] at this; cases this
  have I2 : In c m ((b, W.listOf [.int (res.1 : Int) t, .str (S res.2) u].toArray 0) :: (T, tableObj pt') :: cs) h' := by
    refine ⟨I'.F, fun p hp => ?_⟩
    rcases List.mem_cons.mp hp with rfl | hp
    · refine ⟨hb, fun e => ?_, ?_⟩
      · obtain ⟨oL, _, _, hL, _⟩ := I.F.ns
        rw [show c.L = b from e.symm, nb] at hL; cases hL
      · cases e : c.b.get? b with
        | none => rfl
        | some x => have := I.F.keep _ _ e; rw [nb] at this; cases this
    · exact I'.N p hp
  obtain ⟨kl, J, hk, ap⟩ := HH.of I I2 (Supp.kinv (h₀ := h) inv')
  exact ⟨h', tk', m, _, rfl, J, q b t u pt' kl hk (fun p hp z hz hd => ap p hp z (.tail _ hz) (.tail _ (.tail _ hz)) hd) (fun q hq => fb q (.tail _ hq)) hbT'⟩
theorem pReduce {name : List Nat} {t u : Tok} {pr : Nat → Nat} {fl fR : Addr} (r : Rm c.A 5) (G0 : G mg mb fa c.b) (X : RedAt c.b mg fR) (hA : ∀ h, In c m nw h → AddOk c.prog c.w h pr fl) (ho : Over name) (hz : name.length ≤ 2 ^ 20) (q : ∀ t, Q (.int (cost pr name : Int) t) m nw) :
    P c (call (.ref fR) [.ref fl, .str (S name) t, .int 0 u]) Q m nw := fun h tk I =>
  wpAny_call (reduce_c (s := c.st h tk) r (G0.keeps I.F.keep) (X.keeps I.F.keep) (hA h I) ho hz fun h' tk' t k => ⟨h', tk', m, nw, rfl, inKeep I k, q t⟩)
end
end
section
open PySem PySem.W PyProof.Rows PySem.Calls PySem.Builtin PySem.W.X
set_option maxRecDepth 100000
theorem HH.ofBase2 {c : Cx} {h h₀ : Heap} {X : Heap → Prop} {T TR : Addr} {oT oR : Obj} {cs : Nw} (x : Supp h₀ X h) (hb : c.b = (h.hide T).hide TR) (hT : h.get? T = some oT) (hR : h.get? TR = some oR) : HH c ((TR, oR) :: (T, oT) :: cs) X := fun g k => by
  obtain ⟨l, a, b⟩ := x
  refine b g fun p hp => k p.1 p.2 ?_
  obtain ⟨a1, _⟩ := a p hp
  by_cases e : p.1 = TR
  · rw [e, hR] at a1
    cases a1
    exact .inr (by rw [← e]; exact .head _)
  by_cases e' : p.1 = T
  · rw [e', hT] at a1
    cases a1
    exact .inr (by rw [← e']; exact .tail _ (.head _))
  · refine .inl ?_
    rw [hb]
    exact (Heap.hide_ne _ e).trans ((Heap.hide_ne _ e').trans a1)
/-- one object alone at its address -/
theorem pApart {α : Type} {c : Cx} {m : Mp} {nw : Nw} {t : Sem α} {Q : α → Mp → Nw → Prop} {TR : Addr} {o : Obj} (hm : (TR, o) ∈ nw) (H : (∀ X, HH c nw X → HH c ((TR, o) :: nw.filter fun p => p.1 != TR) X) → P c t Q m ((TR, o) :: nw.filter fun p => p.1 != TR)) : P c t Q m nw := fun h tk I =>
  H (fun X hX g k => hX g fun a o' x => by
    rcases x with x | x
    · exact k _ _ (.inl x)
    · by_cases e : a = TR
      · subst e
        have h1 := (I.N _ x).1
        have h2 := (I.N _ hm).1
        rw [show (a, o').1 = (a, o).1 from rfl, h2] at h1
        cases h1
        exact k _ _ (.inr (.head _))
      · exact k _ _ (.inr (.tail _ (List.mem_filter.mpr ⟨x, by simpa using e⟩)))) h tk ⟨I.F, fun p hp => by
    rcases List.mem_cons.mp hp with rfl | hp
    · exact I.N _ hm
    · exact I.N _ (List.mem_filter.mp hp).1⟩
/-- the object at TR may be another one where X does not mind -/
theorem HH.swap {c : Cx} {cs : Nw} {TR : Addr} {o o' : Obj} {X : Heap → Prop} (hX : HH c ((TR, o) :: cs) X) (hb : c.b.get? TR = none) (hne : ∀ q ∈ cs, q.1 ≠ TR) (hf : o.isFreed = false)
    (inv : ∀ g g', X g → g.get? TR = some o → (∀ b x, b ≠ TR → g.get? b = some x → g'.get? b = some x) → g'.get? TR = some o' → X g') : HH c ((TR, o') :: cs) X := fun g k => by
  have hg := k TR o' (.inr (.head _))
  have e1 : (g.update TR fun _ => o).get? TR = some o := Heap.get?_update_self _ hg hf
  refine inv (g.update TR fun _ => o) g (hX _ fun a x q => ?_) e1 (fun b x hb' e => ?_) hg
  · by_cases e : a = TR
    · subst e
      rcases q with q | q
      · rw [hb] at q; cases q
      · rcases List.mem_cons.mp q with q | q
        · cases q; exact e1
        · exact absurd rfl (hne _ q)
    · rw [Heap.get?_update_ne _ _ _ _ e]
      rcases q with q | q
      · exact k _ _ (.inl q)
      · rcases List.mem_cons.mp q with q | q
        · cases q; exact absurd rfl e
        · exact k _ _ (.inr (.tail _ q))
  · rw [Heap.get?_update_ne _ _ _ _ hb'] at e; exact e
/-- the table of _law_right's code, by its shape -/
noncomputable def TabR (pr : Array Value) : Prop := pr = #[] ∨ ∃ i j v, pr = #[rawInt i, rawInt j, v]
theorem RInv.shape {h : Heap} {cR TR : Addr} {pr : Array Value} (x : RInv h cR TR pr) : TabR pr := x.st.imp id fun ⟨c', e, _⟩ => ⟨_, _, _, e⟩
theorem TabR.nostr {pr : Array Value} (x : TabR pr) (q : Str) (t : Tok) : pr[1]? ≠ some (.str q t) := by
  rcases x with rfl | ⟨i, j, v, rfl⟩
  · simp
  · simp [rawInt]
theorem rec_off {h h' : Heap} {TR : Addr} {pr : Array Value} {cd : Value} {q : Str} (x : h.CodeRec cd q) (hR : h.get? TR = some (tabObj pr)) (hs : ∀ q t, pr[1]? ≠ some (Value.str q t)) (k : ∀ b o, b ≠ TR → h.get? b = some o → h'.get? b = some o) : h'.CodeRec cd q := by
  obtain ⟨c, o, vs, t, e, g, d, r⟩ := x
  refine ⟨c, o, vs, t, e, k _ _ (fun e' => ?_) g, d, r⟩
  subst e'
  rw [hR] at g
  cases g
  cases d
  exact hs _ _ r
theorem KInv.tr {h h' : Heap} {cK T bm TR : Addr} {pt pr : Array Value} (x : KInv h cK T bm pt) (hTR : TR ≠ T) (hR : h.get? TR = some (tabObj pr)) (hs : TabR pr) (k : ∀ b o, b ≠ TR → h.get? b = some o → h'.get? b = some o) : KInv h' cK T bm pt := by
  have cls : ∀ {c : Addr} {o : Obj}, h.get? c = some o → o.cls = .type "code" → c ≠ TR := fun {c o} e1 e2 e3 => by rw [e3, hR] at e1; cases e1; cases e2
  have kt : ∀ {c P : Addr} {ps : Array Value}, P ≠ TR → h.TableAt c P ps → h'.TableAt c P ps := by
    rintro c P ps hP ⟨⟨oc, vc, hoc, hcc, hdc, h11c⟩, hp⟩
    exact ⟨⟨oc, vc, k _ _ (cls hoc hcc) hoc, hcc, hdc, h11c⟩, k _ _ hP hp⟩
  have kc : ∀ {c P : Addr} {ps : Array Value}, P ≠ TR → h.TableAt c P ps → h.IsCode c P ps → h'.IsCode c P ps := by
    rintro c P ps hP ⟨⟨oc, vc, hoc, hcc, _⟩, _⟩ ⟨o, vs, file, tf, flags, tg, inF, text, tt, op, ho, hd, h11, h2, h7, h9, h10, hop, hpd, r⟩
    exact ⟨o, vs, file, tf, flags, tg, inF, text, tt, op, k _ _ (cls hoc hcc) ho, hd, h11, h2, h7, h9, h10, k _ _ hP hop, hpd, r⟩
  refine ⟨kc hTR.symm x.t x.c, kt hTR.symm x.t, x.st.imp id fun ⟨cc, Pc, ps, h1, h2, h3, h4, r⟩ => ?_⟩
  have hP : Pc ≠ TR := fun e => by
    have e1 := h3.2
    rw [e, hR] at e1
    have e2 : pr = ps := by cases e1; rfl
    subst e2
    obtain ⟨c0, a0, _⟩ := h4 0 (by decide)
    obtain ⟨c1, a1, _⟩ := h4 1 (by decide)
    rcases hs with rfl | ⟨i, j, v, rfl⟩
    · cases a0
    · have q0 := kpos_apart 0 (by decide) 1 (by decide) (by decide)
      have l0 : ∀ (p : Pos) (u : Value), codeAmong p [rawInt i, rawInt j, v] = some u → i = p.line := fun p u e => by
        unfold codeAmong rawInt at e
        simp only [] at e
        split at e
        · rename_i hh
          simp only [Bool.and_eq_true, beq_iff_eq] at hh
          exact hh.1
        · cases e
      exact q0 (Int.ofNat.inj ((l0 _ _ a1).symm.trans (l0 _ _ a0)))
  exact ⟨cc, Pc, ps, h1, kc hP h3 h2, kt hP h3, fun j hj => let ⟨c, a, b⟩ := h4 j hj; ⟨c, a, rec_off b hR hs.nostr k⟩, r⟩
theorem triples_nostr {pt : Array Value} (h : TriplesOk pt.toList) (q : Str) (t : Tok) : pt[1]? ≠ some (.str q t) := by
  have e : pt[1]? = pt.toList[1]? := by simp
  rw [e]
  generalize pt.toList = l at h
  match l, h with
  | [], _ => simp
  | .int _ _ :: .int _ _ :: _ :: _, _ => simp
theorem RInv.t {h h' : Heap} {cR TR T : Addr} {pr pt : Array Value} (x : RInv h cR TR pr) (hTR : TR ≠ T) (hT : h.get? T = some (tableObj pt)) (hp : TriplesOk pt.toList) (k : ∀ b o, b ≠ T → h.get? b = some o → h'.get? b = some o) : RInv h' cR TR pr := by
  obtain ⟨⟨o, vs, file, tf, flags, tg, inF, text, tt, e, e1, r⟩, b, s⟩ := x
  refine ⟨⟨o, vs, file, tf, flags, tg, inF, text, tt, k _ _ (fun q => ?_) e, e1, r⟩, k _ _ hTR b, s.imp id fun ⟨c', s1, s2⟩ => ⟨c', s1, rec_off s2 hT (triples_nostr hp) k⟩⟩
  rw [q, hT] at e
  cases e
  cases e1
theorem HH.imp {c : Cx} {nw : Nw} {X Y : Heap → Prop} (x : HH c nw X) (f : ∀ h, X h → Y h) : HH c nw Y := fun g k => f g (x g k)
theorem HH.and {c : Cx} {nw : Nw} {X Y : Heap → Prop} (x : HH c nw X) (y : HH c nw Y) : HH c nw (fun h => X h ∧ Y h) := fun g k => ⟨x g k, y g k⟩
end
section
open PySem PySem.W PyProof.Rows PySem.Calls PySem.Builtin PySem.W.X
set_option maxRecDepth 100000


/-- a pattern of three signs -/
noncomputable def Pat (p : List Nat) : Prop := ∃ a b c, p = [a, b, c] ∧ a ∈ [97, 98, 99, 63, 42] ∧ b ∈ [97, 98, 99, 63, 42] ∧ c ∈ [97, 98, 99, 63, 42]
theorem Pat.len {p : List Nat} (h : Pat p) : p.length = 3 := by obtain ⟨a, b, c, rfl, _⟩ := h; rfl
theorem Pat.sgn {p : List Nat} (h : Pat p) : Sgn p := by
  obtain ⟨a, b, c, rfl, ha, hb, hc⟩ := h
  intro x hx
  rcases List.mem_cons.mp hx with rfl | hx
  · exact ha
  rcases List.mem_cons.mp hx with rfl | hx
  · exact hb
  rw [List.mem_singleton.mp hx]; exact hc
theorem Pat.rep {p : List Nat} (h : Pat p) : Txt.replace (S p) (S [42, 42]) (S [42]) = S (rep p) ∧ Txt.replace (S (rep p)) (S [42, 42]) (S [42]) = S (rep (rep p)) ∧ (rep (rep p)).map ptOf = trF p ∧
    (rep p).length ≤ 3 ∧ (rep (rep p)).length ≤ 3 ∧ (∀ x ∈ rep (rep p), x ∈ [97, 98, 99, 63, 42]) ∧ (trF p).length ≤ 3 := by
  obtain ⟨a, b, c, rfl, ha, hb, hc⟩ := h
  exact rep_ok a ha b hb c hc
theorem ptOf_fine {p : List Nat} (h : Sgn p) : Fine (p.map ptOf) := by
  intro a ha
  obtain ⟨x, hx, e⟩ := List.mem_map.mp ha
  have hx := h x hx
  simp only [List.mem_cons, List.not_mem_nil, or_false] at hx
  rcases hx with rfl | rfl | rfl | rfl | rfl <;> cases e <;> decide
theorem rowA_of {x : List Nat} {zs : List (Nat × Value × Nw)} (hi : zs.map (·.1) = List.range x.length) (hz : ∀ z ∈ zs, ∀ h : z.1 < x.length, PtV (ptOf x[z.1]) z.2.1) : RowA (zs.map (·.2.1)) (x.map ptOf) := by
  have hl : zs.length = x.length := by simpa using congrArg List.length hi
  refine ⟨by simp [hl], fun k v hv => ?_⟩
  rw [List.getElem?_map] at hv
  obtain ⟨z, hz1, rfl⟩ := Option.map_eq_some_iff.mp hv
  obtain ⟨hk, rfl⟩ := List.getElem?_eq_some_iff.mp hz1
  have e : (zs[k]).1 = k := by
    have := congrArg (·[k]?) hi
    simp [hk, hl ▸ hk] at this
    exact this
  have hk' : k < x.length := hl ▸ hk
  have := hz _ (List.getElem_mem hk) (by rw [e]; exact hk')
  simp only [e] at this
  exact ⟨ptOf x[k], by simp [hk'], this⟩
theorem getD_ok {a : Nat} {t u : Tok} (h : a ∈ [97, 98, 99, 63, 42]) : PtV (ptOf a) ((valueAt (merged [] [(S [42], Value.none), (S [63], Value.str "any" u)]) (S [a])).getD (.str (S [a]) t)) := by
  simp only [List.mem_cons, List.not_mem_nil, or_false] at h
  rcases h with rfl | rfl | rfl | rfl | rfl
  · exact ⟨t, rfl⟩
  · exact ⟨t, rfl⟩
  · exact ⟨t, rfl⟩
  · exact ⟨u, rfl⟩
  · rfl
/-- what _law_right reads and no run changes -/
structure Stat (prog : Program) (w : World) (mg mb : Str → Option Value) (fa : Nat → Addr) (fK cK bm cR fR dS : Addr) (kvs : List (Int × Value)) (h : Heap) : Prop where
  g : G mg mb fa h
  k : GK h mg fK cK bm
  x : ∃ o pm doc, h.get? (fa 22) = some o ∧ o.data = .func (docDef (nameOf (stAt 22)) (prmOf (stAt 22)) (bodOf (stAt 22)) (scpOf (stAt 22)) pm (.ref cR) doc) ∧ h.CodeRec (.ref cR) (nameOf (stAt 22))
  red : RedAt h mg fR
  mgr : mg "reduce" = some (.ref fR)
  sm : h.DictOf (intKind prog w) dS kvs
  mgs : mg "_special_chars_map" = some (.ref dS)
  lo : (dS == sysModules) = false
  sv : ∀ a ∈ [97, 98, 99], valueAt kvs ((a : Nat) : Int) = none
theorem Stat.keeps {prog : Program} {w : World} {mg mb : Str → Option Value} {fa : Nat → Addr} {fK cK bm cR fR dS : Addr} {kvs : List (Int × Value)} {h h' : Heap} (x : Stat prog w mg mb fa fK cK bm cR fR dS kvs h) (k : ∀ b o, h.get? b = some o → h'.get? b = some o) : Stat prog w mg mb fa fK cK bm cR fR dS kvs h' :=
  ⟨x.g.keeps k, x.k.keeps k, let ⟨o, pm, doc, a, b, e⟩ := x.x; ⟨o, pm, doc, k _ _ a, b, e.keeps k⟩, x.red.keeps k, x.mgr, x.sm.keep k, x.mgs, x.lo, x.sv⟩
section
variable {c : Cx} {m : Mp} {nw : Nw} {QF : Flow → Mp → Nw → Prop} {mg mb : Str → Option Value} {fa : Nat → Addr} {fK cK bm T cR TR fR dS a : Addr} {kvs : List (Int × Value)} {p q : List Nat} {t1 t2 : Tok}
set_option maxHeartbeats 1000000 in
theorem right0 (hgs : c.s.gens = #[]) (r : Rm c.A 6) (ST : Stat c.prog c.w mg mb fa fK cK bm cR fR dS kvs c.b) (hp : Pat p) (hq : Pat q) (l1 : m.lookup ("one" : Str) = some (.str (S p) t1)) (l2 : m.lookup ("two" : Str) = some (.str (S q) t2))
    (K : ∀ D new, (∀ x ∈ new, ∀ y ∈ nw, y.1 ≠ x.1) → RowsAt c new (.ref D) [trF p, trF q] → P c (execs ((bodOf (stAt 22)).drop 1) (envOfC (nameOf (stAt 22)) (scpOf (stAt 22)) c.L a (.ref cR))) QF (("rows", .ref D) :: m) (new ++ nw)) :
    P c (execs ((bodOf (stAt 22)).drop 0) (envOfC (nameOf (stAt 22)) (scpOf (stAt 22)) c.L a (.ref cR))) QF m nw := by
  refine pCons ?_
  refine pAssignComp (xs := ["pattern"]) (N := 2) (Pv := fun i vals => ∃ v, vals = [v] ∧ [Value.str (S p) t1, .str (S q) t2][i]? = some v) (p := fun _ => true)
    (El := fun i y mk => ∃ a ws k, y = .ref a ∧ mk = [(a, W.listOf (List.toArray ws) k)] ∧ ∀ (h : i < [trF p, trF q].length), RowA ws [trF p, trF q][i]) ?_ (by rfl) rfl (by rfl) (by rfl) (by decide) (by rfl) (by decide) (by rfl) (by decide) (by decide)
  refine pList ?_
  refine pArgs ?_
  refine pNameE (by assumption) ?_
  refine pArgs ?_
  refine pNameE (by assumption) ?_
  refine pArgs0 ?_
  refine ⟨Nat.le_of_ble_eq_true rfl, fun D0 fD0 => ⟨(itList (av := []) r.hd (.inr (.head _)) (fun _ h => nomatch h)).toT _ _, ?_, ?_⟩⟩
  · rintro h1 C1 I1 i vals m0 nw' hi ⟨v, rfl, hv⟩
    obtain ⟨x, t, hx, rfl, he⟩ : ∃ x t, Pat x ∧ v = .str (S x) t ∧ ∀ (h : i < [trF p, trF q].length), trF x = [trF p, trF q][i] := by
      rcases i with _ | _ | i
      · exact ⟨p, t1, hp, by simpa using hv.symm, fun _ => rfl⟩
      · exact ⟨q, t2, hq, by simpa using hv.symm, fun _ => rfl⟩
      · exact absurd hi (by lia)
    have S1 := ST.keeps I1.F.keep
    refine pTests0 ?_
    refine ⟨fun _ h => h, rfl, fun _ => ?_⟩
    refine pCall ?_
    refine pFnE 11 S1.g ?_
    refine pWithG (S1.g.fn 11 (by decide)).2 ?_
    refine pArgs ?_
    refine pNameE rfl ?_
    refine pArgs ?_
    refine pNoneC ?_
    refine pArgs ?_
    refine pStrC fun _ => ?_
    refine pArgs0 ?_
    refine pTransl hgs (r.mono (by lia)) S1.g S1.mgs S1.sm S1.lo S1.sv hx.sgn (by rw [hx.len]; decide) fun b ws k fb hw => ?_
    exact ⟨[(b, _)], fun q hq => .tail _ hq, fun q hq => by rw [List.mem_singleton.mp hq]; exact ⟨.head _, fb⟩, b, ws, k, rfl, rfl, fun h => he h ▸ hw⟩
  · intro D zs n2 hne hap G'
    have hr : RowsAt c ((D, W.listOf (zs.map (·.2.1)).toArray n2) :: zs.flatMap (·.2.2)) (.ref D) [trF p, trF q] := by
      refine rowsAt_of (.head _) (by rw [G'.is]; rfl) fun z hz => ?_
      obtain ⟨b, ws, k, e1, e2, e3⟩ := G'.el z hz
      exact ⟨b, ws, k, e1, .tail _ (List.mem_flatMap.mpr ⟨z, hz, by rw [e2]; exact .head _⟩), e3⟩
    generalize zs.flatMap (·.2.2) = zn at hne hap hr ⊢
    generalize W.listOf (zs.map (·.2.1)).toArray n2 = oD at hr ⊢
    clear G'
    refine pNw (nw' := ((D, oD) :: zn) ++ nw) ?_ (fun x hx => ?_)
    · refine K D ((D, oD) :: zn) (fun x hx y hy => ?_) hr
      rcases List.mem_cons.mp hx with rfl | hx
      · exact hne y (List.mem_append_right _ (.tail _ hy))
      · exact hap x hx y (.tail _ hy)
    · rcases List.mem_cons.mp hx with rfl | hx
      · exact .head _
      · exact .tail _ ((List.mem_append.mp hx).elim (List.mem_append_left _) fun h => List.mem_append_right _ (.tail _ h))
set_option maxHeartbeats 1000000 in
theorem right1 {pt : Array Value} {cs : Nw} {pr : Nat → Nat} {d D : Addr} {ta tb tc : Tok} {res : Nat × Wd} {fuel : Nat} (hgs : c.s.gens = #[]) (r : Rm c.A 23) (ST : Stat c.prog c.w mg mb fa fK cK bm cR fR dS kvs c.b) (hp : Pat p) (hq : Pat q)
    (KI : HH c ((T, tableObj pt) :: cs) (fun h => KInv h cK T bm pt)) (hT : ∀ q ∈ cs, q.1 ≠ T) (DD : ∃ o, c.b.get? d = some o ∧ o.IsDictOf (strKind c.prog c.w) (prD pr ta tb tc)) (RR : RowsAt c cs (.ref D) [trF p, trF q])
    (hfu : fuel ≤ 2000) (hf : foundN [trF p, trF q] pr fuel [first0 [trF p, trF q]] [0] [] = some res) (l1 : m.lookup ("rows" : Str) = some (.ref D)) (cell : ∀ nw, (∀ x ∈ cs, x ∈ nw) → CellA c nw (c.L + 1) (.ref d))
    (K : ∀ b t u pt' kl, HH c kl (fun h => KInv h cK T bm pt') → (∀ p ∈ kl, ∀ q ∈ cs, (∀ vs, q.2.data ≠ .fields vs) → p.1 ≠ q.1) → (∀ q ∈ cs, q.1 ≠ b) → b ≠ T →
      P c (execs ((bodOf (stAt 22)).drop 2) (envOfC (nameOf (stAt 22)) (scpOf (stAt 22)) c.L a (.ref cR))) QF (("name", .str (S res.2) u) :: ("price", .int (res.1 : Int) t) :: m) (kl ++ (b, W.listOf [.int (res.1 : Int) t, .str (S res.2) u].toArray 0) :: (T, tableObj pt') :: cs)) :
    P c (execs ((bodOf (stAt 22)).drop 1) (envOfC (nameOf (stAt 22)) (scpOf (stAt 22)) c.L a (.ref cR))) QF m ((T, tableObj pt) :: cs) := by
  refine pCons ?_
  refine pUn2 r.hd ?_
  refine pCall ?_
  refine pFnE 20 ST.g ?_
  refine pWithG (ST.g.fn 20 (by decide)).2 ?_
  refine pArgs ?_
  refine pNameE (by assumption) ?_
  refine pArgs ?_
  refine pCellE rfl (by first | assumption | (apply_assumption; done) | (apply_assumption; assumption) | (apply_assumption; intro p hp; (repeat (first | assumption | refine List.mem_cons_of_mem _ ?_)); done)) ?_
  refine pArgs0 ?_
  refine pFound hgs (r.mono (by lia)) ST.g ST.k KI hT DD RR (fun row hr => ?_) (Nat.le_of_ble_eq_true rfl) hfu hf fun b t u pt' kl hk ap fb hb => ⟨b, _, _, 0, rfl, .inr (List.mem_append_right _ (.head _)), K b t u pt' kl hk ap fb hb⟩
  rcases List.mem_cons.mp hr with rfl | hr
  · exact Nat.le_trans hp.rep.2.2.2.2.2.2 (by decide)
  · rw [List.mem_singleton.mp hr]; exact Nat.le_trans hq.rep.2.2.2.2.2.2 (by decide)
set_option maxHeartbeats 1000000 in
theorem right2 (r : Rm c.A 6) (hp : Pat p) (hq : Pat q) (l1 : m.lookup ("one" : Str) = some (.str (S p) t1)) (l2 : m.lookup ("two" : Str) = some (.str (S q) t2))
    (K : ∀ D n u1 u2, (∀ y ∈ nw, y.1 ≠ D) → P c (execs ((bodOf (stAt 22)).drop 3) (envOfC (nameOf (stAt 22)) (scpOf (stAt 22)) c.L a (.ref cR))) QF (("single", .ref D) :: m) ((D, W.listOf [Value.str (S (rep (rep p))) u1, .str (S (rep (rep q))) u2].toArray n) :: nw)) :
    P c (execs ((bodOf (stAt 22)).drop 2) (envOfC (nameOf (stAt 22)) (scpOf (stAt 22)) c.L a (.ref cR))) QF m nw := by
  refine pCons ?_
  refine pAssignCompT (xs := ["pattern"]) (N := 2) (Pv := fun i vals => ∃ v, vals = [v] ∧ [Value.str (S p) t1, .str (S q) t2][i]? = some v) (p := fun _ => true)
    (El := fun i y mk => mk = [] ∧ ∃ u, y = .str (S (rep (rep (if i = 0 then p else q)))) u) ?_ (by decide) (by rintro i vals ⟨v, rfl, _⟩; exact List.cons_ne_nil _ _) (by rfl) rfl (by rfl) (by rfl) (by decide) (by rfl) (by decide) (by rfl) (by decide) (by decide)
  refine pList ?_
  refine pArgs ?_
  refine pNameE (by assumption) ?_
  refine pArgs ?_
  refine pNameE (by assumption) ?_
  refine pArgs0 ?_
  refine ⟨Nat.le_of_ble_eq_true rfl, fun D0 fD0 => ⟨(itList (av := []) r.hd (.inr (.head _)) (fun _ h => nomatch h)).toT _ _, ?_, ?_⟩⟩
  · rintro h1 C1 I1 i vals m0 nw' hi ⟨v, rfl, hv⟩
    obtain ⟨x, t, hx, rfl, he⟩ : ∃ x t, Pat x ∧ v = .str (S x) t ∧ (if i = 0 then p else q) = x := by
      rcases i with _ | _ | i
      · exact ⟨p, t1, hp, by simpa using hv.symm, rfl⟩
      · exact ⟨q, t2, hq, by simpa using hv.symm, rfl⟩
      · exact absurd hi (by lia)
    obtain ⟨e1, e2, e3, e4, e5, e6, e7⟩ := hx.rep
    refine ptTests0 ?_
    refine ⟨fun _ h => h, rfl, fun _ => ?_⟩
    refine ptReplace (x := S [42, 42]) (y := S [42]) ?_ (by decide) (by decide)
    refine ptReplace (x := S [42, 42]) (y := S [42]) ?_ (by decide) (by decide)
    refine P.toT (pNameE (v := .str (S x) t) rfl ?_)
    refine ⟨_, _, rfl, ?_, fun _ => ⟨_, _, rfl, ?_, fun u => ⟨[], fun _ h => h, (fun _ h => nomatch h), rfl, u, ?_⟩⟩⟩
    · show x.toArray.size ≤ _
      rw [List.size_toArray, hx.len]; decide
    · rw [e1]
      show (rep x).toArray.size ≤ _
      rw [List.size_toArray]; lia
    · rw [e1, e2, he]
  · intro D zs n2 hne hap G'
    obtain ⟨hzi, hze⟩ := G'
    rcases zs with _ | ⟨z0, _ | ⟨z1, _ | ⟨z2, zs⟩⟩⟩
    · exact nomatch hzi
    · exact nomatch (List.cons.inj hzi).2
    · have i0 : z0.1 = 0 := (List.cons.inj hzi).1
      have i1 : z1.1 = 1 := (List.cons.inj (List.cons.inj hzi).2).1
      obtain ⟨a1, u1, b1⟩ := hze z0 (.head _)
      obtain ⟨a2, u2, b2⟩ := hze z1 (.tail _ (.head _))
      rw [i0] at b1
      rw [i1] at b2
      refine pNw (nw' := (D, W.listOf [z0.2.1, z1.2.1].toArray n2) :: nw) ?_ (fun x hx => ?_)
      · rw [b1, b2]
        exact K D n2 u1 u2 fun y hy => hne y (List.mem_append_right _ (.tail _ hy))
      · rcases List.mem_cons.mp hx with rfl | hx
        · exact .head _
        · exact .tail _ (List.mem_append_right _ (.tail _ hx))
    · exact nomatch (List.cons.inj (List.cons.inj hzi).2).2
end
end
section
open PySem PySem.W PyProof.Rows PySem.Calls PySem.Builtin PySem.W.X
set_option maxRecDepth 100000


section
variable {c : Cx} {m : Mp} {nw : Nw} {QF : Flow → Mp → Nw → Prop} {mg mb : Str → Option Value} {fa : Nat → Addr} {fK cK bm T cR TR fR dS a : Addr} {kvs : List (Int × Value)} {p q : List Nat} {t1 t2 : Tok}
set_option maxHeartbeats 1000000 in
theorem right3 {pr : Nat → Nat} {d D E : Addr} {n : Nat} {u1 u2 t : Tok} {ta tb tc : Tok} {k : Nat} (r : Rm c.A 23) (ST : Stat c.prog c.w mg mb fa fK cK bm cR fR dS kvs c.b) (hp : Pat p) (hq : Pat q)
    (lo : (d == sysModules) = false) (DD : ∃ o, c.b.get? d = some o ∧ o.IsDictOf (strKind c.prog c.w) (prD pr ta tb tc)) (hk : k = leastN pr 7 (p.map ptOf) (q.map ptOf)) (RR : RowsAt c nw (.ref D) [trF p, trF q])
    (hE : (E, W.listOf [Value.str (S (rep (rep p))) u1, .str (S (rep (rep q))) u2].toArray n) ∈ nw) (l0 : m.lookup ("price" : Str) = some (.int (k : Int) t)) (l1 : m.lookup ("one" : Str) = some (.str (S p) t1)) (l2 : m.lookup ("two" : Str) = some (.str (S q) t2)) (l3 : m.lookup ("rows" : Str) = some (.ref D)) (l4 : m.lookup ("single" : Str) = some (.ref E))
    (cell : ∀ nw', (∀ x ∈ nw, x ∈ nw') → CellA c nw' (c.L + 1) (.ref d)) (K : P c (execs ((bodOf (stAt 22)).drop 4) (envOfC (nameOf (stAt 22)) (scpOf (stAt 22)) c.L a (.ref cR))) QF m nw) :
    P c (execs ((bodOf (stAt 22)).drop 3) (envOfC (nameOf (stAt 22)) (scpOf (stAt 22)) c.L a (.ref cR))) QF m nw := by
  refine pCons ?_
  refine pIf ?_
  refine pIsBool ?_
  refine pOr ?_
  refine pIsCmp ?_
  refine pNameE (by assumption) ?_
  refine pCall ?_
  refine pFnE 21 ST.g ?_
  refine pWithG (ST.g.fn 21 (by decide)).2 ?_
  refine pArgs ?_
  refine pNameE (by assumption) ?_
  refine pArgs ?_
  refine pNameE (by assumption) ?_
  refine pArgs ?_
  refine pCellE rfl (by first | assumption | (apply_assumption; done) | (apply_assumption; assumption) | (apply_assumption; intro p hp; (repeat (first | assumption | refine List.mem_cons_of_mem _ ?_)); done)) ?_
  refine pArgs0 ?_
  refine pLeast (k := 7) (least_ok lo 7 (by decide)) (by rw [hp.len, hq.len]; decide) hp.sgn hq.sgn (r.mono (by lia)) ST.g DD fun _ => ?_
  refine pNeI ?_
  rw [← hk]
  refine pTrue ?_
  rw [if_neg (by simp)]
  refine pOr ?_
  refine pIsCmp ?_
  refine pNameE (by assumption) ?_
  refine pComp (xs := ["pattern"]) (N := 2) (Pv := fun i vals => ∃ v, vals = [v] ∧ [Value.str (S (rep (rep p))) u1, .str (S (rep (rep q))) u2][i]? = some v) (p := fun _ => true)
    (El := fun i y mk => ∃ a ws k, y = .ref a ∧ mk = [(a, W.listOf (List.toArray ws) k)] ∧ ∀ (h : i < [trF p, trF q].length), RowA ws [trF p, trF q][i]) ?_ (by decide) (by rfl) (by decide) (by rfl) (by decide) (by decide)
  refine pNameE (v := .ref E) l4 ⟨(itList (av := []) r.hd (.inr hE) (fun _ h => nomatch h)).toT _ _, ?_, ?_⟩
  · rintro h1 C1 I1 i vals m0 nw' hi ⟨v, rfl, hv⟩
    obtain ⟨x, t, hx, rfl, he⟩ : ∃ x t, Pat x ∧ v = .str (S (rep (rep x))) t ∧ ∀ (h : i < [trF p, trF q].length), trF x = [trF p, trF q][i] := by
      rcases i with _ | _ | i
      · exact ⟨p, u1, hp, by simpa using hv.symm, fun _ => rfl⟩
      · exact ⟨q, u2, hq, by simpa using hv.symm, fun _ => rfl⟩
      · exact absurd hi (by lia)
    obtain ⟨-, -, e3, -, e5, e6, -⟩ := hx.rep
    generalize rep (rep x) = z at e3 e5 e6
    have hasc : (S z).cps.all (· < 128) = true := by
      show z.toArray.all _ = true
      rw [List.all_toArray, List.all_eq_true]
      intro x hx
      have := e6 x hx
      simp only [List.mem_cons, List.not_mem_nil, or_false] at this
      rcases this with rfl | rfl | rfl | rfl | rfl <;> decide
    refine pTests0 ?_
    refine ⟨fun _ h => h, rfl, fun _ => ?_⟩
    refine pComp (xs := ["sign"]) (N := (S z).cps.size) (Pv := fun i vals => ∃ v, vals = [v] ∧ SignAt (S z) i v) (p := fun _ => true)
      (El := fun j y mk => mk = [] ∧ ∀ h : j < z.length, PtV (ptOf z[j]) y) ?_ (by show z.toArray.size ≤ _; rw [List.size_toArray]; lia) (by rfl) (by decide) (by rfl) (by decide) (by decide)
    refine pNameE (v := .str (S z) t) rfl ⟨(itStr (c := { c with b := h1, L := C1 }) (av := []) r.hd hasc (fun _ h => nomatch h)).toT _ _, ?_, ?_⟩
    · rintro h2 C2 I2 j vals m2 nw2 hj ⟨v, rfl, ch, u, hc, rfl⟩
      have hj' : j < z.length := by simpa [S] using hj
      have hch : z[j] = ch := by simpa [S, hj'] using hc
      refine pTests0 ?_
      refine ⟨fun _ h => h, rfl, fun _ => ?_⟩
      refine pMeth ?_
      refine pDictS fun D1 f1 => ?_
      refine pPairs ?_
      refine pStrC fun _ => ?_
      refine pNoneC ?_
      refine pPairs ?_
      refine pStrC fun _ => ?_
      refine pStrC fun _ => ?_
      refine pPairs0 ?_
      refine ⟨rfl, [(S [42], Value.none), (S [63], .str "any" _)], ⟨rfl, rfl, rfl, rfl, trivial⟩, fun o ho => ?_⟩
      refine pGetD ⟨o, .inr (.head _), ho⟩ PySem.F.slot_dict_get (by rfl) ?_
      refine pWithB ?_
      refine pArgs ?_
      refine pNameE rfl ?_
      refine pArgs ?_
      refine pNameE rfl ?_
      refine pArgs0 ?_
      intro g tk I
      have hlo : (D1 == sysModules) = false := by
        obtain ⟨os, hs⟩ := ST.k.sm
        have hs := I2.F.keep _ _ (I1.F.keep _ _ hs)
        have hn := (I.N _ (.head _)).2.2
        refine beq_eq_false_iff_ne.mpr fun e => ?_
        rw [show (D1, o).1 = sysModules from e] at hn
        exact nomatch hn.symm.trans hs
      exact pGet2 ⟨o, .inr (.head _), ho⟩ hlo ⟨[], fun _ h => .tail _ h, (fun _ h => nomatch h), rfl, fun h => hch ▸ getD_ok (e6 _ (List.getElem_mem h))⟩ g tk I
    · intro D2 zs n3 hne hap G'
      have hz0 : zs.flatMap (·.2.2) = [] := by
        rw [List.flatMap_eq_nil_iff]
        exact fun z hz => (G'.el z hz).1
      have hrow : RowA (zs.map (·.2.1)) (z.map ptOf) := rowA_of (by rw [G'.is]; simp [S]) fun y hy => (G'.el y hy).2
      rw [e3] at hrow
      rw [hz0] at hne ⊢
      exact ⟨[(D2, _)], fun q hq => .tail _ hq, fun q hq => by rw [List.mem_singleton.mp hq]; exact ⟨.head _, hne⟩, D2, _, n3, rfl, rfl, fun h => he h ▸ hrow⟩
  · intro D2 zs n3 hne hap G'
    have hr : RowsAt c ((D2, W.listOf (zs.map (·.2.1)).toArray n3) :: (zs.flatMap (·.2.2) ++ nw)) (.ref D2) [trF p, trF q] := by
      refine rowsAt_of (.head _) (by rw [G'.is]; rfl) fun z hz => ?_
      obtain ⟨b, ws, k, e1, e2, e3⟩ := G'.el z hz
      exact ⟨b, ws, k, e1, .tail _ (List.mem_append_left _ (List.mem_flatMap.mpr ⟨z, hz, by rw [e2]; exact .head _⟩)), e3⟩
    refine pNeRows (by have := r.un; show c.A.units + 4 < 9900; lia) (RR.more fun x hx => .tail _ (List.mem_append_right _ hx)) hr ?_
    refine pNw (nw' := nw) ?_ (fun x hx => .tail _ (List.mem_append_right _ hx))
    refine pTrue ?_
    refine (if_neg Bool.false_ne_true).mpr ?_
    refine pOr0 ?_
    refine (if_neg Bool.false_ne_true).mpr ?_
    refine pNil ?_
    exact K
set_option maxHeartbeats 1000000 in
theorem right4 {pr : Nat → Nat} {d : Addr} {u : Tok} {ta tb tc : Tok} {name : List Nat} {cs : Nw} {tR : Array Value} (r : Rm c.A 6) (ST : Stat c.prog c.w mg mb fa fK cK bm cR fR dS kvs c.b)
    (DD : ∃ o, c.b.get? d = some o ∧ o.IsDictOf (strKind c.prog c.w) (prD pr ta tb tc)) (ho : Over name) (hz : name.length ≤ 2 ^ 20) (hTR : c.b.get? TR = none) (hR : HH c ((TR, tabObj tR) :: cs) (fun h => RInv h cR TR tR)) (hne : ∀ q ∈ cs, q.1 ≠ TR)
    (l0 : m.lookup ("name" : Str) = some (.str (S name) u)) (cell : ∀ nw', (∀ x ∈ cs, x ∈ nw') → CellA c nw' (c.L + 1) (.ref d))
    (K : ∀ t tR' kl, HH c (kl ++ (TR, tabObj tR') :: cs) (fun h => RInv h cR TR tR') → (∀ p ∈ kl, ∀ q ∈ cs, (∀ vs, q.2.data ≠ .fields vs) → p.1 ≠ q.1) → P c (execs ((bodOf (stAt 22)).drop 5) (envOfC (nameOf (stAt 22)) (scpOf (stAt 22)) c.L a (.ref cR))) QF (("total", .int (cost pr name : Int) t) :: m) (kl ++ (TR, tabObj tR') :: cs)) :
    P c (execs ((bodOf (stAt 22)).drop 4) (envOfC (nameOf (stAt 22)) (scpOf (stAt 22)) c.L a (.ref cR))) QF m ((TR, tabObj tR) :: cs) := by
  refine pCons ?_
  refine pAssign ?_
  refine pCall ?_
  refine pGlobE ST.g.g ST.mgr ?_
  obtain ⟨of, pm, cd, doc, td, ot, im, n, g1, g2, _⟩ := id ST.red
  refine pWithF g1 g2 ?_
  refine pArgs ?_
  show P c (eval (.Lambda lamP lamB lamS lamPos) _) _ _ _
  refine pLam ST.g ST.k.mk_ hTR hR hne rfl rfl fun f tR' kl hk ap => ?_
  refine pArgs ?_
  refine pNameE (by assumption) ?_
  refine pArgs ?_
  refine pIntC fun _ => ?_
  refine pArgs0 ?_
  refine pReduce (pr := pr) (r.mono (by lia)) ST.g ST.red (fun h I => ?_) ho hz fun t => ?_
  · obtain ⟨oc, hc1, hc2⟩ := cell _ fun x hx => List.mem_append_right _ (.tail _ hx)
    obtain ⟨od, hd1, hd2⟩ := DD
    exact lam_add (hk.here I).2 (ST.g.nolimit.keeps I.F.keep) ⟨oc, hc1.get I, hc2⟩ ⟨od, I.F.keep _ _ hd1, hd2⟩
  · refine pStoreE ?_
    exact K t tR' kl (hk.imp fun h e => e.1) ap
set_option maxHeartbeats 1000000 in
theorem right5 {pr : Nat → Nat} {res : Nat × Wd} {t u s : Tok} (hor : res.1 = 1000 ∧ res.2 = [] ∨ res.1 = cost pr res.2) (l0 : m.lookup ("price" : Str) = some (.int (res.1 : Int) t)) (l1 : m.lookup ("name" : Str) = some (.str (S res.2) u)) (l2 : m.lookup ("total" : Str) = some (.int (cost pr res.2 : Int) s))
    (K : QF (.ret (.bool true)) m nw) :
    P c (execs ((bodOf (stAt 22)).drop 5) (envOfC (nameOf (stAt 22)) (scpOf (stAt 22)) c.L a (.ref cR))) QF m nw := by
  refine pCons ?_
  refine pReturn ?_
  refine pOr2 ?_
  refine pAnd2 ?_
  have fin : ∀ Q : Value → Mp → Nw → Prop, Q (.bool true) m nw → res.1 = cost pr res.2 → P c (compareOp .Eq (.int (res.1 : Int) t) (.int (cost pr res.2 : Int) s)) Q m nw := fun Q q h => pEqI (by rw [h, beq_self_eq_true]; exact q)
  refine pCmp ?_
  refine pNameE (by assumption) ?_
  refine pIntC fun _ => ?_
  refine pEqI ?_
  refine pTrue ?_
  by_cases h1 : res.1 = 1000
  · rw [if_pos (by rw [h1]; rfl)]
    refine pCmp ?_
    refine pNameE (by assumption) ?_
    refine pStrC fun _ => ?_
    refine pEqS (p := res.2) (q := []) ?_
    refine pTrue ?_
    by_cases h2 : res.2 = []
    · rw [if_pos (decide_eq_true h2), decide_eq_true h2]
      exact K
    · rw [if_neg (by simpa using h2)]
      refine pCmp ?_
      refine pNameE (by assumption) ?_
      refine pNameE (by assumption) ?_
      exact fin _ K (hor.resolve_left fun h => h2 h.2)
  · have hb : ((res.1 : Int) == 1000) = false := beq_eq_false_iff_ne.mpr (by lia)
    rw [hb]
    refine (if_neg Bool.false_ne_true).mpr ?_
    refine pTrue ?_
    refine (if_neg Bool.false_ne_true).mpr ?_
    refine pCmp ?_
    refine pNameE (by assumption) ?_
    refine pNameE (by assumption) ?_
    exact fin _ K (hor.resolve_left fun h => h1 h.1)
end
end
section
open PySem PySem.W PyProof.Rows PySem.Calls PySem.Builtin PySem.W.X
set_option maxRecDepth 100000
theorem cost_ge {pr : Nat → Nat} (h : ∀ c ∈ abc, 1 ≤ pr c) : ∀ {w : Wd}, Over w → w.length ≤ cost pr w
  | [], _ => Nat.zero_le _
  | c :: w, o => by
    have h1 := h c (o c List.mem_cons_self)
    have h2 := cost_ge h (w := w) fun x hx => o x (List.mem_cons_of_mem _ hx)
    rw [cost_cons, List.length_cons]; lia
section
variable {mg mb : Str → Option Value} {fa : Nat → Addr} {fK cK bm T cR TR fR dS d : Addr} {kvs : List (Int × Value)} {p q : List Nat} {t1 t2 : Tok} {pr : Nat → Nat} {ta tb tc : Tok} {pt tR : Array Value}
set_option maxHeartbeats 2000000 in
theorem right_c {prog : Program} {w : World} {A : Around} {R : Result → Shared → Prop} {s : Shared} (hgs : s.gens = #[]) (r : Rm A 25) (hTR : TR ≠ T) (KI : KInv s.heap cK T bm pt) (RI : RInv s.heap cR TR tR) (ST : Stat prog w mg mb fa fK cK bm cR fR dS kvs ((s.heap.hide T).hide TR))
    (h1 : ∀ c ∈ abc, 1 ≤ pr c) (h3 : ∀ c ∈ abc, pr c ≤ 3) (hp : Pat p) (hq : Pat q) (lo : (d == sysModules) = false) (DD : ∃ o, ((s.heap.hide T).hide TR).get? d = some o ∧ o.IsDictOf (strKind prog w) (prD pr ta tb tc))
    (ret : ∀ h' tk' pt' tR', (∀ b o, b ≠ T → b ≠ TR → s.heap.get? b = some o → h'.get? b = some o) → KInv h' cK T bm pt' → RInv h' cR TR tR' → R (.ok (.ret (.bool true))) { s with heap := h', toks := tk' }) :
    codeAny (model prog w) A (.call (.ref (fa 22)) ⟨[.str (S p) t1, .str (S q) t2, .ref d], []⟩) R s := by
  have kb : ∀ b o, ((s.heap.hide T).hide TR).get? b = some o → s.heap.get? b = some o := fun b o e => Heap.of_hide (Heap.of_hide e)
  obtain ⟨o22, pm22, doc22, x1, x2, x3⟩ := id ST.x
  obtain ⟨res, hf, hs⟩ := found_startN [trF p, trF q] pr
  have hfu : 4 * (univ [trF p, trF q]).length + 1 + 1 ≤ 2000 := by
    have := univ_le hp.rep.2.2.2.2.2.2 hq.rep.2.2.2.2.2.2
    lia
  obtain ⟨hle, hor⟩ := right_ok (n := 7) h3 (by rw [hp.len, hq.len]; decide) (by rw [hp.len, hq.len]; decide) (ptOf_fine hp.sgn) (ptOf_fine hq.sgn) hs
  have hov : Over res.2 ∧ res.2.length ≤ 2 ^ 20 := by
    have h1000 := leastN_le_top pr 7 (p.map ptOf) (q.map ptOf)
    rw [← hle] at h1000
    rcases hs with ⟨_, e, _⟩ | ⟨e, o, _⟩
    · rw [e]; exact ⟨(fun _ h => nomatch h), by decide⟩
    · have := cost_ge h1 o
      exact ⟨o, by lia⟩
  refine pEnterCTT (i := 22) (n := 24) (binds := [("one", .str (S p) t1), ("two", .str (S q) t2), ("prices", .ref d)]) (mp := [("two", .str (S q) t2), ("one", .str (S p) t1)]) KI.t.2 RI.tb hTR ⟨o22, pm22, doc22, kb _ _ x1, x2, x3.keeps kb⟩ (ST.g.nolimit.keeps kb) r (fun _ _ _ => rfl) (fun n => kindsX rfl n) (by decide) (fun L cd => ?_) (fun A' cells r' Y hcT => ?_)
  · rw [show (fun x => List.lookup x ([("two", .str (S q) t2), ("one", .str (S p) t1)] : Mp)) = fun (y : Str) => if y = "two" then some (.str (S q) t2) else (fun z => List.lookup z ([("one", .str (S p) t1)] : Mp)) y from cons_lookup, cons_lookup]; rfl
  have Y' : CellsAre _ [("prices", s.heap.objs.size + 1)] cells := Y
  obtain ⟨o1, rfl, d1⟩ := Y'.one
  have d1' : o1.data = .cell (some (.ref d)) := by rw [d1]; rfl
  clear d1 Y Y' x1 x2 x3
  have ret' : ∀ pt' tR' m nw, HH ⟨prog, w, A', s, (s.heap.hide T).hide TR, s.heap.objs.size⟩ nw (fun h => KInv h cK T bm pt') → HH ⟨prog, w, A', s, (s.heap.hide T).hide TR, s.heap.objs.size⟩ nw (fun h => RInv h cR TR tR') → endQ ⟨prog, w, A', s, (s.heap.hide T).hide TR, s.heap.objs.size⟩ R (.ret (.bool true)) m nw :=
    fun pt' tR' m nw hk hr h tk I => ret h tk pt' tR' (fun b o b1 b2 e => I.F.keep b o ((Heap.hide_ne _ b2).trans ((Heap.hide_ne _ b1).trans e))) (hk.here I) (hr.here I)
  clear ret kb
  have KH : HH ⟨prog, w, A', s, (s.heap.hide T).hide TR, s.heap.objs.size⟩ [(TR, tabObj tR), (T, tableObj pt)] (fun h => KInv h cK T bm pt) := HH.ofBase2 (h₀ := s.heap) (Supp.kinv KI) rfl KI.t.2 RI.tb
  have RH : HH ⟨prog, w, A', s, (s.heap.hide T).hide TR, s.heap.objs.size⟩ [(TR, tabObj tR), (T, tableObj pt)] (fun h => RInv h cR TR tR) := HH.ofBase2 (h₀ := s.heap) (Supp.rinv RI) rfl KI.t.2 RI.tb
  have bT : ((s.heap.hide T).hide TR).get? T = none := (Heap.hide_ne _ hTR.symm).trans (Heap.hide_self ..)
  have bTR : ((s.heap.hide T).hide TR).get? TR = none := Heap.hide_self ..
  have trip : TriplesOk pt.toList := by obtain ⟨_, _, _, _, _, _, _, _, _, _, _, _, _, _, _, _, _, _, _, r, _⟩ := KI.c; exact r
  have shp := RI.shape
  generalize hcx : (⟨prog, w, A', s, (s.heap.hide T).hide TR, s.heap.objs.size⟩ : Cx) = c at ret' KH RH ⊢
  have hc1 : c.A = A' := by rw [← hcx]
  have hc2 : c.b = (s.heap.hide T).hide TR := by rw [← hcx]
  have hc3 : s.heap.objs.size = c.L := by rw [← hcx]
  have hc4 : c.prog = prog := by rw [← hcx]
  have hc5 : c.w = w := by rw [← hcx]
  have hc6 : c.s.gens = #[] := by rw [← hcx]; exact hgs
  rw [hc3] at hcT ⊢
  rw [← hc2] at bT bTR
  rw [← hc2, ← hc4, ← hc5] at ST DD
  rw [← hc1] at r'
  clear hcx hc1 hc2 hc3 hc4 hc5 KI RI hgs
  have hcl := hcT _ (.head _)
  refine right0 (p := p) (q := q) hc6 (r'.mono (by lia)) ST hp hq rfl rfl fun D new fr RR => ?_
  -- the table of cmp_to_key in front
  refine pNw (nw' := (T, tableObj pt) :: (TR, tabObj tR) :: (c.L + 1, o1) :: new) ?_ (fun x hx => ?_)
  rotate_left
  · rcases List.mem_cons.mp hx with rfl | hx
    · exact List.mem_append_right _ (.tail _ (.head _))
    rcases List.mem_cons.mp hx with rfl | hx
    · exact List.mem_append_right _ (.head _)
    rcases List.mem_cons.mp hx with rfl | hx
    · exact List.mem_append_right _ (.tail _ (.tail _ (.head _)))
    · exact List.mem_append_left _ hx
  have nT : ∀ q ∈ (TR, tabObj tR) :: (c.L + 1, o1) :: new, q.1 ≠ T := fun q hq => by
    rcases List.mem_cons.mp hq with rfl | hq
    · exact hTR
    rcases List.mem_cons.mp hq with rfl | hq
    · exact hcl.1
    · exact (fr q hq _ (.tail _ (.head _))).symm
  have KH1 : HH c ((T, tableObj pt) :: (TR, tabObj tR) :: (c.L + 1, o1) :: new) (fun h => KInv h cK T bm pt) := KH.more fun x hx => by
    rcases List.mem_cons.mp hx with rfl | hx
    · exact .tail _ (.head _)
    · rw [List.mem_singleton.mp hx]; exact .head _
  have RH1 : HH c ((T, tableObj pt) :: (TR, tabObj tR) :: (c.L + 1, o1) :: new) (fun h => RInv h cR TR tR) := RH.more fun x hx => by
    rcases List.mem_cons.mp hx with rfl | hx
    · exact .tail _ (.head _)
    · rw [List.mem_singleton.mp hx]; exact .head _
  have RR1 : RowsAt c ((TR, tabObj tR) :: (c.L + 1, o1) :: new) (.ref D) [trF p, trF q] := RR.more fun x hx => .tail _ (.tail _ hx)
  clear KH RH RR fr
  have mc : (c.L + 1, o1) ∈ (TR, tabObj tR) :: (c.L + 1, o1) :: new := .tail _ (.head _)
  have mTR : (TR, tabObj tR) ∈ (TR, tabObj tR) :: (c.L + 1, o1) :: new := .head _
  generalize (TR, tabObj tR) :: (c.L + 1, o1) :: new = cs at nT KH1 RH1 RR1 mc mTR ⊢
  refine right1 (p := p) (q := q) hc6 (r'.mono (by lia)) ST hp hq KH1 nT DD RR1 hfu hf rfl (fun nw h => ⟨o1, .inr (h _ mc), d1'⟩) fun b t u pt' kl hk ap fb hbT => ?_
  have RH2 : HH c (kl ++ (b, W.listOf [.int (res.1 : Int) t, .str (S res.2) u].toArray 0) :: (T, tableObj pt') :: cs) (fun h => RInv h cR TR tR) :=
    (HH.swap (o' := tableObj pt') RH1 bT nT rfl fun g g' X e1 k e2 => X.t hTR e1 trip k).more fun x hx => List.mem_append_right _ (.tail _ hx)
  have KH2 : HH c (kl ++ (b, W.listOf [.int (res.1 : Int) t, .str (S res.2) u].toArray 0) :: (T, tableObj pt') :: cs) (fun h => KInv h cK T bm pt') := hk.more fun x hx => List.mem_append_left _ hx
  have RR2 : RowsAt c (kl ++ (b, W.listOf [.int (res.1 : Int) t, .str (S res.2) u].toArray 0) :: (T, tableObj pt') :: cs) (.ref D) [trF p, trF q] := RR1.more fun x hx => List.mem_append_right _ (.tail _ (.tail _ hx))
  have mc2 : (c.L + 1, o1) ∈ kl ++ (b, W.listOf [.int (res.1 : Int) t, .str (S res.2) u].toArray 0) :: (T, tableObj pt') :: cs := List.mem_append_right _ (.tail _ (.tail _ mc))
  have mTR2 : (TR, tabObj tR) ∈ kl ++ (b, W.listOf [.int (res.1 : Int) t, .str (S res.2) u].toArray 0) :: (T, tableObj pt') :: cs := List.mem_append_right _ (.tail _ (.tail _ mTR))
  clear hk ap fb hbT KH1 RH1 RR1 mc mTR nT
  generalize kl ++ (b, W.listOf [.int (res.1 : Int) t, .str (S res.2) u].toArray 0) :: (T, tableObj pt') :: cs = nw at RH2 KH2 RR2 mc2 mTR2 ⊢
  refine right2 (p := p) (q := q) (r'.mono (by lia)) hp hq rfl rfl fun E n u1 u2 fE => ?_
  refine right3 (p := p) (q := q) (pr := pr) (d := d) (r'.mono (by lia)) ST hp hq lo DD hle (RR2.more fun x hx => .tail _ hx) (.head _) rfl rfl rfl rfl rfl (fun nw' h => ⟨o1, .inr (h _ (.tail _ mc2)), d1'⟩) ?_
  refine pNw (nw' := nw) ?_ (fun x hx => .tail _ hx)
  clear RR2 fE
  refine pApart mTR2 fun tr => ?_
  have KH3 := tr _ KH2
  have RH3 := tr _ RH2
  have mc3 : (c.L + 1, o1) ∈ nw.filter fun p => p.1 != TR := List.mem_filter.mpr ⟨mc2, by simpa using hcl.2⟩
  have nTR : ∀ q ∈ nw.filter fun p => p.1 != TR, q.1 ≠ TR := fun q hq => by simpa using (List.mem_filter.mp hq).2
  clear KH2 RH2 tr mc2 mTR2
  generalize nw.filter (fun p => p.1 != TR) = cs4 at KH3 RH3 mc3 nTR ⊢
  refine right4 (d := d) (name := res.2) (r'.mono (by lia)) ST DD hov.1 hov.2 bTR RH3 nTR rfl (fun nw' h => ⟨o1, .inr (h _ mc3), d1'⟩) fun t3 tR' kl4 hk4 ap4 => ?_
  refine right5 (pr := pr) (res := res) hor rfl rfl rfl ?_
  refine ret' pt' tR' _ _ ?_ hk4
  exact (HH.swap (o' := tabObj tR') KH3 bTR nTR rfl fun g g' X e1 k e2 => X.tr hTR e1 shp k).more fun x hx => List.mem_append_right _ hx
end
end
section
open PySem PySem.W PyProof.Rows PySem.Calls PySem.Builtin PySem.W.X
set_option maxRecDepth 100000
section
variable {c : Cx} {m : Mp} {nw : Nw} {env : Env} {Q : Value → Mp → Nw → Prop} {QF : Flow → Mp → Nw → Prop}
theorem pFDiv {i j : Int} {t u : Tok} (h0 : j ≠ 0) (hz : j.natAbs < 1073741824) (q : ∀ t, Q (.int (i.fdiv j) t) m nw) : P c (binaryOp .FloorDiv (.int i t) (.int j u)) Q m nw := fun _ _ I => PyProof.Rows.floordiv_int h0 ⟨_, _, _, _, rfl, I, q _⟩ (Or.inl (PyProof.noPylong_small hz))
theorem pMod {i j : Int} {t u : Tok} (h0 : j ≠ 0) (q : ∀ t, Q (.int (i.fmod j) t) m nw) : P c (binaryOp .Mod (.int i t) (.int j u)) Q m nw := fun _ _ I => PyProof.Rows.mod_int' h0 ⟨_, _, _, _, rfl, I, q _⟩
theorem pPow {i : Int} {k : Nat} {t u : Tok} (hk : k ≤ 1000) (hi : i.natAbs < 2 ^ 64) (q : ∀ t, Q (.int (i ^ k) t) m nw) : P c (binaryOp .Pow (.int i t) (.int (k : Int) u)) Q m nw := fun _ _ I => PyProof.Rows.pow_int_small (Int.natCast_nonneg k) (by lia) hi ⟨_, _, _, _, rfl, I, by rw [Int.toNat_natCast]; exact q _⟩
theorem pSum {a : Addr} {vs : List Value} {ns : List Int} {n : Nat} (hh : c.A.handled = none) (ha : Has c nw a (W.listOf vs.toArray n)) (hi : IntsAre vs ns) (q : ∀ t, Q (.int ns.sum t) m nw) : P c (call (.builtin "sum") [.ref a]) Q m nw := fun h tk I => by
  obtain ⟨xs, e⟩ := hi.allInts.items
  have hl := PySem.IsL.isList (n := n) (ha.get I)
  rw [e] at hl
  refine PySem.sum_intListG hh hl fun h' tk' t' k => ?_
  have hs : preSum (numAt xs) xs.size = ns.sum := by
    rw [preSum_eq, List.take_of_length_le (by simp), ← nums_intItems, ← e]
    show (numsOf vs).sum = _
    rw [hi.numsOf]
  rw [hs]
  exact ⟨_, _, _, _, rfl, inKeep I k, q _⟩
theorem pJoin {D : Addr} {x : Str} {t : Tok} {items : List Value} {ys : List Str} {n : Nat} (ha : Has c nw D (W.listOf items.toArray n)) (hi : StrsAre items ys) (hsep : x.length ≤ 64) (hok : (ys.map (·.length)).sum + ys.length * 64 ≤ 16777216) (q : ∀ t, Q (.str (Txt.join x ys) t) m nw) :
    P c (call (.builtin "str.join") [.str x t, .ref D]) Q m nw := fun h tk I =>
  PyProof.Rows.join_listC (s := c.st h tk) (PySem.IsL.isList (n := n) (ha.get I)) hi hsep hok fun t' k => ⟨h, k, _, _, rfl, I, q t'⟩
/-- `l[:2]` -/
theorem pLTo {v : Expr} {p1 p2 pos : Pos} {k : Nat} (H : P c (eval v env) (fun ov m1 n1 => ∃ a vs, ov = .ref a ∧ (∀ h, In c m1 n1 h → h.IsList a (List.toArray vs)) ∧ vs.length ≤ 2 ^ 20 ∧ ∀ D, (∀ p ∈ n1, p.1 ≠ D) → Q (.ref D) m1 ((D, W.listOf (vs.take 2).toArray 0) :: n1)) m nw) (hg : ∀ o r, letTemporaryGo v o r = pure () := by intro _ _; rfl) :
    P c (eval (.Subscript v (.Slice none (some (.Constant (.int 2) k p1)) none p2) pos) env) Q m nw := fun h tk I =>
  PySem.wpAny_Subscript_list_slice (H.seq I fun ov m1 n1 h1 tk1 q I1 => by
    obtain ⟨a, vs, rfl, ha, hz, q⟩ := q
    rw [evalPart_none]
    refine wpAny_pure ?_
    rw [evalPart_some]
    refine wpAny_Constant_int ?_
    refine ⟨a, vs.toArray, none, some 2, rfl, ha _ I1, by rw [List.size_toArray]; exact Nat.le_trans hz (by decide), .none, .int _ _, ?_⟩
    rw [show slicePick vs.toArray none (some 2) none = (vs.take 2).toArray from slicePick_upto' vs.toArray 2]
    obtain ⟨I2, f2⟩ := inPush (o := { cls := .type "slice", data := .fields #[.none, .int 2 tk1, .none] }) I1 rfl
    obtain ⟨I3, f3⟩ := inPush (o := W.listOf (vs.take 2).toArray 0) I2 rfl
    rw [Heap.size_push] at I3 f3
    exact ⟨_, _, m1, _, rfl, ⟨I3.F, fun p hp => I3.N p ((List.mem_cons.mp hp).elim (fun e => e ▸ .head _) fun e => .tail _ (.tail _ e))⟩, q _ fun p hp => f3 p (.tail _ hp)⟩) hg
/-- `l[j:]` -/
theorem pLFrom {v lo : Expr} {p2 pos : Pos} (H : P c (eval v env) (fun ov m1 n1 => P c (eval lo env) (fun lv m2 n2 => ∃ a vs n j t, ov = .ref a ∧ lv = .int ((j : Nat) : Int) t ∧ Has c n2 a (W.listOf (List.toArray vs) n) ∧ vs.length ≤ 2 ^ 20 ∧ ∀ D, (∀ p ∈ n2, p.1 ≠ D) → Q (.ref D) m2 ((D, W.listOf (vs.drop j).toArray 0) :: n2)) m1 n1) m nw) :
    P c (eval (.Subscript v (.Slice (some lo) none none p2) pos) env) Q m nw := fun h tk I =>
  Subscript_ (H.seq I fun ov m1 n1 h1 tk1 q I1 => by
    refine wpAny_Slice ?_
    rw [evalPart_some]
    refine q.seq I1 fun lv m2 n2 h2 tk2 q I2 => ?_
    obtain ⟨a, vs, n, j, t, rfl, rfl, ha, hz, q⟩ := q
    rw [evalPart_none]
    refine wpAny_pure ?_
    refine wpAny_pure ?_
    refine kba_turn (value' := PySem.Expr.Name "q" ⟨0, 0, 0, 0⟩) (fun _ => rfl) ?_
    refine slice_list (s := c.st h2 tk2) (lo := some (j : Int)) (hi := none) I2.F I2.N (PySem.IsL.isList (n := n) (ha.get I2)) (.int _ _) .none (fun h3 F3 N3 => ?_) (hsz := by rw [List.size_toArray]; exact Nat.le_trans hz (by decide))
    rw [show slicePick vs.toArray (some (j : Int)) none none = (vs.drop j).toArray from slicePick_from' vs.toArray j] at N3
    refine ⟨h3, tk2, m2, _, rfl, ⟨F3, N3⟩, q _ fun p hp e => ?_⟩
    have := (I2.N p hp).1
    have e : p.1 = h2.objs.size + 1 := e
    rw [e, Heap.get?_none_of_le (Nat.le_succ _)] at this
    cases this)
end
section
variable {M : Model} {A : Around} {E : Value → Shared → Prop} {s : Shared}
theorem newEnvCells {scope : Scope} {globals : Addr} {qual : Str} {env : Env} {Q : Env → Shared → Prop} {x : Str} (hk : ∀ k, cellsFrom k scope.names [] = [(x, k)]) (hp : ∀ h, pushCells h scope.names = h.push { cls := .type "cell", data := .cell none })
    (hQ : Q { scope, locals := s.heap.objs.size, globals, cells := [(x, s.heap.objs.size + 1)], qual, func := none, code := env.code, frame := env.frame, builtins := env.builtins } { s with heap := (s.heap.push { cls := .type "dict", data := .dict #[] }).push { cls := .type "cell", data := .cell none } }) :
    wpAny M A (newFunctionEnv scope globals [] [] qual none .none (some env)) Q E s := by
  simp only [newFunctionEnv, Option.isSome_some, if_true]
  refine wpAny_bind (wpAny_alloc ?_)
  refine wpAny_bind (wpAny_layCells _ (fun name kind cells => by cases kind == NameKind.cell <;> simp) _ _ _ _ ?_)
  rw [hk, hp]
  show wpAny _ _ _ _ _ _
  rw [List.forIn_nil]
  refine wpAny_bind (wpAny_pure (wpAny_pure ?_))
  rw [Heap.size_push]
  exact hQ
end
/-- ahead of a turn of a comprehension whose name is a cell -/
noncomputable def cellI (c : Cx) (D xc : Addr) (St : Nat → Heap → Prop) (N : Nat) (El : Nat → Value → Prop) (n : Nat) (s' : Shared) : Prop :=
  ∃ i h tk m' ys k oc v₀, s' = c.st h tk ∧ In c m' [(xc, oc), (D, W.listOf (List.toArray ys) k)] h ∧ oc.data = .cell v₀ ∧ St i h ∧ ys.length = i ∧ (∀ (j : Nat) (hj : j < ys.length), El j ys[j]) ∧ i ≤ N ∧ n = N - i
section
variable {c : Cx} {m : Mp} {nw : Nw} {env : Env} {Q : Value → Mp → Nw → Prop}
set_option maxHeartbeats 1000000 in
theorem pCompCell {elt iter : Expr} {x : Str} {px : Pos} {scope : Scope} {pos : Pos} {N : Nat} {Pv : Nat → List Value → Prop} {El : Nat → Value → Prop}
    (H : P c (eval iter env) (fun xv m1 n1 => ItT c (.Name x px) [x] N Pv [] xv m1 n1 ∧
      (∀ h1 C, In c m1 n1 h1 → ∀ i vals m0 nw' oc, i < N → Pv i vals → ∃ v, vals = [v] ∧ (oc.data = .cell (some v) → (C + 1, oc) ∈ nw' → P { c with b := h1, L := C } (eval elt (compEnvC scope [(x, C + 1)] C env)) (fun y _ n3 => (∀ q ∈ nw', q ∈ n3) ∧ El i y) m0 nw')) ∧
      (∀ D ys n, ys.length = N → (∀ (j : Nat) (hj : j < ys.length), El j ys[j]) → (∀ q ∈ n1, q.1 ≠ D) → Q (.ref D) m1 ((D, W.listOf (List.toArray ys) n) :: n1))) m nw)
    (hN : N ≤ 2 ^ 20) (hclos : closureFor scope env = pure []) (hcf : ∀ k, cellsFrom k scope.names [] = [(x, k)]) (hpc : ∀ h, pushCells h scope.names = h.push { cls := .type "cell", data := .cell none }) (hkind : scope.kind = .function)
    (hnames : ∀ y ∈ scope.names, y.2 = .local → scope.names.lookup y.1 = some .local) (hxk : ∀ C, (compEnvC scope [(x, C + 1)] C env).kindOf x = some .cell) (hs : ∀ x, foldedSetIterable iter env x = pure x := by intro _; rfl) :
    P c (eval (.ListComp elt [⟨.Name x px, iter, [], 0⟩] scope pos) env) Q m nw := fun h tk J => by
  rw [eval_ListComp]
  refine wpAny_comprehension_free (use := none) rfl hs hclos hkind hnames (H.seq J fun xv m1 n1 h1 tk1 hq J1 => hq.1 h1 tk1 _ _ J1 fun I wr fp St h2 tk2 Wk hL hwr _ hfp hz12 hst k2 => ?_)
  obtain ⟨_, hturn, hQ⟩ := hq
  refine wpAny_newObj_type (newEnvCells hcf hpc ?_)
  dsimp only
  generalize hD : h2.objs.size = D
  generalize hH2 : h2.push { cls := .type "list", dict := none, data := .seq ([] : List Value).toArray } = H2
  generalize hC : H2.objs.size = C
  have hCD : C = D + 1 := by rw [← hC, ← hH2, Heap.size_push, hD]
  have hlt1 : h1.objs.size ≤ D := hD ▸ hz12
  generalize hH4 : (H2.push { cls := .type "dict", data := .dict #[] }).push { cls := .type "cell", data := .cell none } = H4
  have k1 : ∀ b o, h2.get? b = some o → H4.get? b = some o := fun b o e => by
    rw [← hH4, ← hH2]
    exact Heap.get?_push_of_some _ (Heap.get?_push_of_some _ (Heap.get?_push_of_some _ e))
  have n1D : ∀ k, h1.get? (D + k) = none := fun k => Heap.get?_none_of_le (Nat.le_trans hlt1 (Nat.le_add_right D k))
  have hDf : ∀ k, D + k ∉ fp := fun k q => by have := hfp _ q; rw [hD] at this; exact Nat.not_lt.mpr (Nat.le_add_right D k) this
  have oD : H4.get? D = some (W.listOf ([] : List Value).toArray 0) := by
    rw [← hH4, ← hD, ← hH2]
    exact Heap.get?_push_of_some _ (Heap.get?_push_of_some _ (Heap.get?_push_size (o := { cls := .type "list", dict := none, data := .seq ([] : List Value).toArray }) _ rfl))
  have oX : H4.get? (C + 1) = some { cls := .type "cell", data := .cell none } := by
    have := Heap.get?_push_size (o := { cls := .type "cell", data := .cell none }) (H2.push { cls := .type "dict", data := .dict #[] }) rfl
    rw [Heap.size_push, hC, hH4] at this
    exact this
  have hns : H4.Ns C (fun y => List.lookup y ([] : Mp)) := by
    rw [← hH4, ← hC]
    exact (Heap.Ns.new H2 (.type "dict")).push _
  have DC : D ≠ C := hCD ▸ Nat.ne_of_lt (Nat.lt_succ_self D)
  have XC : C + 1 ≠ C := Nat.succ_ne_self C
  have XD : C + 1 ≠ D := by rw [hCD]; intro e; simp only [Addr] at *; lia
  have x2 : C + 1 = D + 2 := by rw [hCD]
  have J0 : In { c with b := h1, L := C } [] [(C + 1, { cls := .type "cell", data := .cell none }), (D, W.listOf ([] : List Value).toArray 0)] H4 := by
    refine ⟨⟨hns, fun b o e => k1 b o (k2 b o e), by show h1.objs.size ≤ C; rw [hCD]; exact Nat.le_succ_of_le hlt1⟩, fun q hq => ?_⟩
    rcases List.mem_cons.mp hq with rfl | hq
    · exact ⟨oX, XC, by show h1.get? (C + 1) = none; rw [x2]; exact n1D 2⟩
    · rw [List.mem_singleton.mp hq]; exact ⟨oD, DC, n1D 0⟩
  have hst0 : St 0 H4 := Wk.frame _ _ _ hst fun b _ o e => k1 b o e
  have hCf : C ∉ fp := hCD ▸ hDf 1
  have hXf : C + 1 ∉ fp := x2 ▸ hDf 2
  have off : ∀ ys k oc, ∀ q ∈ ([(C + 1, oc), (D, W.listOf (List.toArray ys) k)] : Nw), q.1 ∉ wr := fun ys k oc q hq hw => by
    rcases List.mem_cons.mp hq with rfl | hq
    · exact hXf (Wk.sub _ hw)
    · rw [List.mem_singleton.mp hq] at hw; exact hDf 0 (Wk.sub _ hw)
  have loop : codeAny (model c.prog c.w) c.A (.compLoop (.ListComp elt [⟨.Name x px, iter, [], 0⟩] scope pos) 0 (.ref I) (.ref D) (compEnvC scope [(x, C + 1)] C env))
      (compPost (model c.prog c.w) c.A (fun _ _ => False) none (fun v s' => ∃ h' tk' m' nw', s' = c.st h' tk' ∧ In c m' nw' h' ∧ Q v m' nw') (.ref D) C) (c.st H4 tk2) := by
    refine codeAny_compLoop_any (cellI { c with b := h1, L := C } D (C + 1) St N El) ?_ N
      ⟨0, H4, tk2, [], [], 0, _, _, rfl, J0, rfl, hst0, rfl, (fun j hj => absurd hj (Nat.not_lt_zero j)), Nat.zero_le _, rfl⟩
    rintro n s' E' ⟨i, h, tk, m', ys, k, oc, v₀, rfl, I', hoc, hst', hl, hEl, hi, rfl⟩
    by_cases hlt : i < N
    · refine wpAny_mono (Wk.item (compEnvC scope [(x, C + 1)] C env) i (c.st h tk) (compK c.prog c.w c.A [] elt (compEnvC scope [(x, C + 1)] C env) (.ref D) (fun s₅ => ∃ m, m < N - i ∧ cellI { c with b := h1, L := C } D (C + 1) St N El m s₅) E') E' hlt hst' fun vals h' tk' hv st' kk => ?_) (fun r s₁ hr => by
        obtain ⟨v, e, hr⟩ := hr
        subst e
        exact hr) fun _ _ e => e
      have J1' : In { c with b := h1, L := C } m' [(C + 1, oc), (D, W.listOf (List.toArray ys) k)] h' := inOff I' (fun q => hCf (Wk.sub _ q)) hwr (off _ _ _) kk
      obtain ⟨v, rfl, _⟩ := hturn h1 C J1 i vals m' [] oc hlt hv
      have J2 := inExt (c := { c with b := h1, L := C }) J1' hCf
      have J3 : In { c with b := h1, L := C } m' ((C + 1, oc) :: (D, W.listOf (List.toArray ys) k) :: extOf h1 h' fp) h' := ⟨J2.F, fun q hq => J2.N q (by
        rcases List.mem_cons.mp hq with rfl | hq
        · exact List.mem_append_right _ (.head _)
        rcases List.mem_cons.mp hq with rfl | hq
        · exact List.mem_append_right _ (.tail _ (.head _))
        · exact List.mem_append_left _ hq)⟩
      show wpAny _ _ (storeName _ x v) _ _ _
      refine (pStoreCell (c := { c with b := h1, L := C }) (QU := fun _ m2 n2 => m2 = m' ∧ ∃ o', o'.data = .cell (some v) ∧ n2 = (C + 1, o') :: (D, W.listOf (List.toArray ys) k) :: extOf h1 h' fp) (a := C + 1) (by show List.lookup x [(x, C + 1)] = _; simp) hoc (fun q hq e => by
        rcases List.mem_cons.mp hq with rfl | hq
        · exact XD e.symm
        · exact hXf (e ▸ (mem_extOf.mp hq).1)) (fun o' ho' => ⟨rfl, o', ho', rfl⟩) hkind (hxk C)).seq J3 fun _ m2 n2 h3 tk3 q3 J4 => ?_
      obtain ⟨rfl, o', ho', rfl⟩ := q3
      have st3 : St (i + 1) h3 := stExt (c := { c with b := h1, L := C }) (fun h'' kk' => Wk.frame _ _ _ st' kk') J2 J4 fun q hq => .tail _ (.tail _ hq)
      obtain ⟨v', e', ht⟩ := hturn h1 C J1 i [v] m2 ((C + 1, o') :: (D, W.listOf (List.toArray ys) k) :: extOf h1 h' fp) o' hlt hv
      have e' : v = v' := by simpa using e'
      subst e'
      show compK _ _ _ _ _ _ _ _ _ _
      unfold compK
      refine wpAny_tests_nil ?_
      simp only [if_true]
      refine (ht ho' (.head _)).seq J4 fun y m6 n6 h6 tk6 q6 J6 => ?_
      obtain ⟨r1, r3⟩ := q6
      have hDn : (D, W.listOf (List.toArray ys) k) ∈ n6 := r1 _ (.tail _ (.head _))
      refine append_at (n := k) (its := ys.toArray) (hsz := by rw [List.size_toArray, hl]; exact Nat.le_trans (Nat.le_of_lt hlt) (Nat.le_trans hN (by decide))) (J6.N _ hDn).1 fun h7 hs7 hD7 => ?_
      have e7 : (ys ++ [y]).toArray = ys.toArray.push y := by simp
      have J7 : In { c with b := h1, L := C } m6 ((D, W.listOf (List.toArray (ys ++ [y])) (k + 1)) :: [(C + 1, o')]) h7 :=
        inTurn (c := { c with b := h1, L := C }) (o := W.listOf (List.toArray ys) k) (h := h6) ⟨J6.F, fun q hq => by
          rcases List.mem_cons.mp hq with rfl | hq
          · exact J6.N _ hDn
          · rw [List.mem_singleton.mp hq]; exact J6.N _ (r1 _ (.head _))⟩ (fun q hq => by rw [List.mem_singleton.mp hq]; exact XD) (fun b x hb e => (hs7.2 b hb).trans e) (by rw [e7]; exact hD7)
      have hN1 : N - (i + 1) < N - i := by lia
      refine ⟨N - (i + 1), hN1, i + 1, h7, tk6, m6, ys ++ [y], k + 1, o', some v, rfl, ⟨J7.F, fun q hq => J7.N q (by
        rcases List.mem_cons.mp hq with rfl | hq
        · exact .tail _ (.head _)
        · rw [List.mem_singleton.mp hq]; exact .head _)⟩, ho', ?_, by simp [hl], fun j hj => ?_, hlt, rfl⟩
      · have st6 : St (i + 1) h6 := stExt (c := { c with b := h1, L := C }) (fun h'' kk' => Wk.frame _ _ _ st' kk') J2 J6 fun q hq => r1 q (.tail _ (.tail _ hq))
        exact Wk.frame _ _ _ st6 fun b hb' o e => (hs7.2 b (fun q => hDf 0 (by rw [show b = D from q] at hb'; exact hb'))).trans e
      · by_cases hj' : j < ys.length
        · rw [List.getElem_append_left hj']; exact hEl j hj'
        · have : j = i := by simp at hj; lia
          subst this
          rw [List.getElem_append_right (by lia)]
          simpa using r3
    · have : i = N := by lia
      subst this
      refine Wk.done _ _ _ hst' fun h' tk' kk => ?_
      have J' : In { c with b := h1, L := C } m' [(C + 1, oc), (D, W.listOf (List.toArray ys) k)] h' := inOff I' (fun q => hCf (Wk.sub _ q)) hwr (off _ _ _) kk
      have kb : ∀ b o, h1.get? b = some o → h'.get? b = some o := J'.F.keep
      obtain ⟨oL, es, ep, hLg, rL⟩ := J1.F.ns
      have ltC : ∀ b o, h1.get? b = some o → b ≠ C := fun b o e => by have := Heap.lt_size e; rw [hCD]; exact Nat.ne_of_lt (Nat.lt_of_lt_of_le this (Nat.le_succ_of_le hlt1))
      have zD := J'.N _ (.tail _ (.head _))
      have zD3 : h1.get? D = none := zD.2.2
      have bD : c.b.get? D = none := by
        cases e : c.b.get? D with
        | none => rfl
        | some o => have := J1.F.keep _ o e; rw [zD3] at this; cases this
      have bC : c.b.get? C = none := by
        cases e : c.b.get? C with
        | none => rfl
        | some o => exact absurd rfl (ltC _ _ (J1.F.keep _ o e))
      have I3 : In c m1 ((D, W.listOf (List.toArray ys) k) :: n1) h' := by
        refine ⟨⟨⟨oL, es, ep, kb _ _ hLg, rL⟩, fun b o e => kb b o (J1.F.keep b o e), J1.F.above⟩, fun q hq => ?_⟩
        rcases List.mem_cons.mp hq with rfl | hq
        · refine ⟨zD.1, fun e => ?_, bD⟩
          have e : D = c.L := e
          rw [← e, zD3] at hLg
          cases hLg
        · have z := J1.N q hq; exact ⟨kb _ _ z.1, z.2⟩
      have nD : ∀ q ∈ n1, q.1 ≠ D := fun q hq e => by have := (J1.N q hq).1; rw [e, zD3] at this; cases this
      refine ⟨_, J'.F.ns, fun h4 hs4 => ⟨h4, _, _, _, rfl, inSame I3 hs4 (ltC _ _ hLg).symm bC (fun q hq => ?_), hQ D ys k hl hEl nD⟩⟩
      rcases List.mem_cons.mp hq with rfl | hq
      · exact DC
      · exact ltC _ _ (J1.N q hq).1
  exact codeAny_compStart_list loop (Wk.self 0 _ _ _ hst0 loop)
end
end
section
open PySem PySem.W PyProof.Rows PySem.Calls PySem.Builtin PySem.W.X
set_option maxRecDepth 100000


noncomputable def sixs : List Nat := [97, 98, 99, 63, 42, 42]
/-- the sign at k of the pattern of x -/
noncomputable def sgAt (x : Int) (k : Nat) : Nat := sixs.getD ((x.fdiv ((6 : Int) ^ k)).fmod 6).toNat 42
noncomputable def patOf (x : Int) : List Nat := [sgAt x 0, sgAt x 1, sgAt x 2]
theorem six_lt (x : Int) : 0 ≤ x.fmod 6 ∧ x.fmod 6 < 6 := by
  rw [Int.fmod_eq_emod_of_nonneg x (by decide)]
  exact ⟨Int.emod_nonneg _ (by decide), Int.emod_lt_of_pos _ (by decide)⟩
theorem sgAt_get (x : Int) (k : Nat) : sixs[((x.fdiv ((6 : Int) ^ k)).fmod 6).toNat]? = some (sgAt x k) := by
  obtain ⟨h1, h2⟩ := six_lt (x.fdiv ((6 : Int) ^ k))
  unfold sgAt
  rw [List.getD_eq_getElem?_getD, List.getElem?_eq_getElem (show _ < sixs.length from by show _ < 6; lia)]
  rfl
theorem sgAt_mem (x : Int) (k : Nat) : sgAt x k ∈ [97, 98, 99, 63, 42] := by
  have := List.mem_of_getElem? (sgAt_get x k)
  simp only [sixs, List.mem_cons, List.not_mem_nil, or_false] at this ⊢
  lia
theorem patOf_pat (x : Int) : Pat (patOf x) := ⟨_, _, _, rfl, sgAt_mem x 0, sgAt_mem x 1, sgAt_mem x 2⟩
/-- the prices -/
noncomputable def prOf (t : Int) (c : Nat) : Nat := if c = 97 then 1 + (t.fmod 3).toNat else if c = 98 then 1 + ((t.fdiv 3).fmod 3).toNat else 1 + ((t.fdiv 9).fmod 3).toNat
theorem three_lt (x : Int) : 0 ≤ x.fmod 3 ∧ x.fmod 3 < 3 := by
  rw [Int.fmod_eq_emod_of_nonneg x (by decide)]
  exact ⟨Int.emod_nonneg _ (by decide), Int.emod_lt_of_pos _ (by decide)⟩
theorem prOf_ge (t : Int) (c : Nat) : 1 ≤ prOf t c := by unfold prOf; split; lia; split <;> lia
theorem prOf_le (t : Int) (c : Nat) : prOf t c ≤ 3 := by
  have h1 := three_lt t
  have h2 := three_lt (t.fdiv 3)
  have h3 := three_lt (t.fdiv 9)
  unfold prOf; split; lia; split <;> lia
theorem one_add {x : Int} (h : 0 ≤ x) : (1 : Int) + x = ((1 + x.toNat : Nat) : Int) := by lia
theorem prOf_dict {prog : Program} {w : World} {o : Obj} {t : Int} {ta tb tc : Tok} (h : o.IsDictOf (strKind prog w) (merged [] [(S [97], .int (1 + t.fmod 3) ta), (S [98], .int (1 + (t.fdiv 3).fmod 3) tb), (S [99], .int (1 + (t.fdiv 9).fmod 3) tc)])) : o.IsDictOf (strKind prog w) (prD (prOf t) ta tb tc) := by
  rw [one_add (three_lt _).1, one_add (three_lt _).1, one_add (three_lt _).1] at h
  exact h
theorem ints_item : ∀ {us : List Value} {xs : List Int}, IntsAre us xs → ∀ (i : Nat) (v : Value), us[i]? = some v → ∃ x t, v = .int x t := by
  intro us xs h
  induction h with
  | nil => intro i v e; cases e
  | cons x t h ih =>
    intro i v e
    cases i with
    | zero => exact ⟨x, t, (Option.some.inj e).symm⟩
    | succ i => exact ih i v e
section
variable {c : Cx} {m : Mp} {nw : Nw} {QF : Flow → Mp → Nw → Prop} {mg mb : Str → Option Value} {fa : Nat → Addr} {a cL : Addr}
set_option maxHeartbeats 1000000 in
theorem law0 {l : Addr} {vs : List Value} (hl : c.b.IsList l vs.toArray) (hz : vs.length ≤ 2 ^ 20) (l0 : m.lookup ("script" : Str) = some (.ref l))
    (K : ∀ D, (∀ p ∈ nw, p.1 ≠ D) → P c (execs ((bodOf (stAt 23)).drop 1) (envOfC (nameOf (stAt 23)) (scpOf (stAt 23)) c.L a (.ref cL))) QF (("cut", .ref D) :: m) ((D, W.listOf (vs.take 2).toArray 0) :: nw)) :
    P c (execs (bodOf (stAt 23)) (envOfC (nameOf (stAt 23)) (scpOf (stAt 23)) c.L a (.ref cL))) QF m nw := by
  refine pCons ?_
  refine pAssign ?_
  refine pLTo ?_
  refine pNameE l0 ⟨l, vs, rfl, fun h I => hl.at fun o e => I.F.keep _ _ e, hz, fun D f => ?_⟩
  refine pStoreE ?_
  exact K D f
set_option maxHeartbeats 1000000 in
theorem law1 {D : Addr} {vs : List Value} {ns : List Int} (r : Rm c.A 6) (T : G mg mb fa c.b) (hD : Has c nw D (W.listOf vs.toArray 0)) (hi : IntsAre vs ns) (hz : vs.length ≤ 2) (l0 : m.lookup ("cut" : Str) = some (.ref D))
    (K : ∀ E us s new, (∀ x ∈ new, ∀ y ∈ nw, y.1 ≠ x.1) → (E, W.listOf (List.toArray us) 0) ∈ new → IntsAre us (ns ++ [132, 153].drop ns.length) →
      P c (execs ((bodOf (stAt 23)).drop 2) (envOfC (nameOf (stAt 23)) (scpOf (stAt 23)) c.L a (.ref cL))) QF (("numbers", .ref E) :: ("total", .int ns.sum s) :: m) (new ++ nw)) :
    P c (execs ((bodOf (stAt 23)).drop 1) (envOfC (nameOf (stAt 23)) (scpOf (stAt 23)) c.L a (.ref cL))) QF m nw := by
  refine pCons ?_
  refine pSwap (xs := ["numbers", "total"]) r.hd ?_ rfl rfl (by rfl)
  refine pTuple ?_
  refine pArgs ?_
  refine pBin ?_
  refine pNameE l0 ?_
  refine pLFrom ?_
  refine pList ?_
  refine pArgs ?_
  refine pIntC fun _ => ?_
  refine pArgs ?_
  refine pIntC fun _ => ?_
  refine pArgs0 ?_
  refine ⟨Nat.le_of_ble_eq_true rfl, fun D1 f1 => ?_⟩
  rename_i u1 u2
  refine pCall ?_
  refine pBnFE (by assumption) ?_
  refine pWithB ?_
  refine pArgs ?_
  refine pNameE (by assumption) ?_
  refine pArgs0 ?_
  refine pLenL (hD.more fun p hp => .tail _ hp) (by lia) fun tl => ?_
  refine ⟨D1, _, 0, vs.length, tl, rfl, rfl, .inr (.head _), Nat.le_of_ble_eq_true rfl, fun D2 f2 => ?_⟩
  refine pAddL (hD.more fun p hp => .tail _ (.tail _ hp)) (.inr (.head _)) (by simp; lia) fun E fE => ?_
  refine pArgs ?_
  refine pCall ?_
  refine pBnFE (by assumption) ?_
  refine pWithB ?_
  refine pArgs ?_
  refine pNameE (by assumption) ?_
  refine pArgs0 ?_
  refine pSum r.hd (hD.more fun p hp => .tail _ (.tail _ (.tail _ hp))) hi fun ts => ?_
  refine pArgs0 ?_
  refine ⟨Nat.le_of_ble_eq_true rfl, fun tu ftu => ⟨tu, _, rfl, rfl, .inr (.head _), ?_⟩⟩
  refine pNw (nw' := [(E, W.listOf (vs ++ List.drop vs.length [Value.int 132 u1, Value.int 153 u2]).toArray 0)] ++ nw) ?_ (fun x hx => ?_)
  · refine K E _ ts [(E, _)] (fun x hx y hy => ?_) (.head _) ?_
    · rw [List.mem_singleton.mp hx]; exact fE y (.tail _ (.tail _ hy))
    · rw [← hi.length]
      exact IntsAre.append hi (IntsAre.drop (.cons _ _ (.cons _ _ .nil)) _)
  · rcases List.mem_cons.mp hx with rfl | hx
    · exact .tail _ (.head _)
    · exact .tail _ (.tail _ (.tail _ (.tail _ hx)))
set_option maxHeartbeats 2000000 in
theorem law2 {E : Addr} {us : List Value} {xs : List Int} (r : Rm c.A 6) (T : G mg mb fa c.b) (hE : Has c nw E (W.listOf us.toArray 0)) (hi : IntsAre us xs) (hx : xs.length = 2) (l0 : m.lookup ("numbers" : Str) = some (.ref E))
    (K : ∀ p q u1 u2, Pat p → Pat q → P c (execs ((bodOf (stAt 23)).drop 3) (envOfC (nameOf (stAt 23)) (scpOf (stAt 23)) c.L a (.ref cL))) QF (("two", .str (S q) u2) :: ("one", .str (S p) u1) :: m) nw) :
    P c (execs ((bodOf (stAt 23)).drop 2) (envOfC (nameOf (stAt 23)) (scpOf (stAt 23)) c.L a (.ref cL))) QF m nw := by
  have hul : us.length = 2 := hi.length.trans hx
  refine pCons ?_
  refine pUn2 r.hd ?_
  refine pCompCell (N := us.length) (Pv := fun i vals => ∃ v, vals = [v] ∧ us[i]? = some v) (El := fun i y => ∃ p u, Pat p ∧ y = .str (S p) u) ?_ (by lia) (by rfl) (fun _ => rfl) (fun _ => rfl) rfl (by decide) (fun _ => rfl)
  refine pNameE l0 ⟨(itList (av := []) r.hd hE (fun _ h => nomatch h)).toT _ _, ?_, ?_⟩
  · rintro h1 C1 I1 i vals m0 nw' oc hi' ⟨v, rfl, hv⟩
    refine ⟨v, rfl, fun hoc hmem => ?_⟩
    have T1 := T.keeps I1.F.keep
    obtain ⟨x, t, rfl⟩ := ints_item hi i v hv
    refine pMeth ?_
    refine pStrC fun _ => ?_
    refine pGetS PySem.F.slot_str_join PySem.F.type_str_join ?_
    refine pWithB ?_
    refine pArgs ?_
    refine pComp (xs := ["k"]) (N := 3) (Pv := fun i vals => ∃ v, vals = [v] ∧ ∃ t, v = .int (i : Int) t) (p := fun _ => true) (El := fun j y mk => mk = [] ∧ ∃ u, y = .str (S [sgAt x j]) u) ?_ (by decide) (by rfl) (by decide) (by rfl) (by decide) (by decide)
    refine pCall ?_
    refine pBnTE T1 ?_
    refine pWithT ?_
    refine pArgs ?_
    refine pIntC fun _ => ?_
    refine pArgs0 ?_
    refine pRange1 fun ra ro fra hro => ⟨(itRange (c := { c with b := h1, L := C1 }) (N := 3) (av := []) r.hd (.head _) hro (by decide) (fun _ h => nomatch h)).toT _ _, ?_, ?_⟩
    · rintro h2 C2 I2 j vals m2 nw2 hj ⟨v, rfl, tj, rfl⟩
      have cx : ∀ nw3, CellA { c with b := h2, L := C2 } nw3 (C1 + 1) (.int x t) := fun _ => ⟨oc, .inl (I2.N _ (.tail _ hmem)).1, hoc⟩
      refine pTests0 ?_
      refine ⟨fun _ h => h, rfl, fun _ => ?_⟩
      refine pSub ?_
      refine pStrC fun _ => ?_
      refine pBin ?_
      refine pBin ?_
      refine pCellE rfl (by first | assumption | (apply_assumption; done) | (apply_assumption; assumption) | (apply_assumption; intro p hp; (repeat (first | assumption | refine List.mem_cons_of_mem _ ?_)); done)) ?_
      refine pBin ?_
      refine pIntC fun _ => ?_
      refine pNameE rfl ?_
      refine pPow (by lia) (by decide) fun _ => ?_
      have hj6 : (6 : Int) ^ j ≠ 0 ∧ ((6 : Int) ^ j).natAbs < 1073741824 := by
        rcases j with _ | _ | _ | j
        · decide
        · decide
        · decide
        · exact absurd hj (by lia)
      refine pFDiv hj6.1 hj6.2 fun _ => ?_
      refine pIntC fun _ => ?_
      refine pMod (by decide) fun tq => ?_
      rw [show (x.fdiv ((6 : Int) ^ j)).fmod 6 = (((x.fdiv ((6 : Int) ^ j)).fmod 6).toNat : Int) from (Int.toNat_of_nonneg (six_lt _).1).symm]
      exact pItemS (p := sixs) (sgAt_get x j) (by decide) fun u => ⟨[], fun _ h => h, (fun _ h => nomatch h), rfl, u, rfl⟩
    · intro D2 zs n3 hne hap G'
      refine pArgs0 ?_
      have hst : StrsAre (zs.map (·.2.1)) [S [sgAt x 0], S [sgAt x 1], S [sgAt x 2]] := by
        obtain ⟨hzi, hze⟩ := G'
        rcases zs with _ | ⟨z0, _ | ⟨z1, _ | ⟨z2, _ | ⟨z3, zs⟩⟩⟩⟩
        · exact nomatch hzi
        · exact nomatch (List.cons.inj hzi).2
        · exact nomatch (List.cons.inj (List.cons.inj hzi).2).2
        · have i0 : z0.1 = 0 := (List.cons.inj hzi).1
          have i1 : z1.1 = 1 := (List.cons.inj (List.cons.inj hzi).2).1
          have i2 : z2.1 = 2 := (List.cons.inj (List.cons.inj (List.cons.inj hzi).2).2).1
          obtain ⟨_, u0, b0⟩ := hze z0 (.head _)
          obtain ⟨_, u1, b1⟩ := hze z1 (.tail _ (.head _))
          obtain ⟨_, u2, b2⟩ := hze z2 (.tail _ (.tail _ (.head _)))
          rw [i0] at b0
          rw [i1] at b1
          rw [i2] at b2
          show StrsAre [z0.2.1, z1.2.1, z2.2.1] _
          rw [b0, b1, b2]
          exact .cons _ _ (.cons _ _ (.cons _ _ .nil))
        · exact nomatch (List.cons.inj (List.cons.inj (List.cons.inj hzi).2).2).2
      refine pJoin (.inr (.head _)) hst (by decide) (by simp [S, Str.length]) fun tj => ?_
      refine ⟨fun q hq => .tail _ (List.mem_append_right _ (.tail _ hq)), patOf x, tj, patOf_pat x, ?_⟩
      rfl
  · intro D ys n hl hEl hne
    rcases ys with _ | ⟨y0, _ | ⟨y1, _ | ⟨y2, ys⟩⟩⟩
    · exact absurd (hl.trans hul) (by simp)
    · exact absurd (hl.trans hul) (by simp)
    · obtain ⟨p, u0, hp, f0⟩ := hEl 0 (by simp)
      obtain ⟨q, u1, hq, f1⟩ := hEl 1 (by simp)
      have f0 : y0 = _ := f0
      have f1 : y1 = _ := f1
      subst f0 f1
      refine ⟨D, _, _, n, rfl, .inr (.head _), ?_⟩
      refine pNw (nw' := nw) ?_ (fun x hx => .tail _ hx)
      exact K p q u0 u1 hp hq
    · exact absurd (hl.trans hul) (by simp)
set_option maxHeartbeats 1000000 in
theorem law3 {tot : Int} {s : Tok} (l0 : m.lookup ("total" : Str) = some (.int tot s))
    (K : ∀ D o ta tb tc, (∀ p ∈ nw, p.1 ≠ D) → o.IsDictOf (strKind c.prog c.w) (prD (prOf tot) ta tb tc) → P c (execs ((bodOf (stAt 23)).drop 4) (envOfC (nameOf (stAt 23)) (scpOf (stAt 23)) c.L a (.ref cL))) QF (("prices", .ref D) :: m) ((D, o) :: nw)) :
    P c (execs ((bodOf (stAt 23)).drop 3) (envOfC (nameOf (stAt 23)) (scpOf (stAt 23)) c.L a (.ref cL))) QF m nw := by
  refine pCons ?_
  refine pAssign ?_
  refine pDictS fun D fD => ?_
  refine pPairs ?_
  refine pStrC fun _ => ?_
  refine pBin ?_
  refine pIntC fun _ => ?_
  refine pBin ?_
  refine pNameE (by assumption) ?_
  refine pIntC fun _ => ?_
  refine pMod (by decide) fun _ => ?_
  refine pAdd fun _ => ?_
  refine pPairs ?_
  refine pStrC fun _ => ?_
  refine pBin ?_
  refine pIntC fun _ => ?_
  refine pBin ?_
  refine pBin ?_
  refine pNameE (by assumption) ?_
  refine pIntC fun _ => ?_
  refine pFDiv (by decide) (by decide) fun _ => ?_
  refine pIntC fun _ => ?_
  refine pMod (by decide) fun _ => ?_
  refine pAdd fun _ => ?_
  refine pPairs ?_
  refine pStrC fun _ => ?_
  refine pBin ?_
  refine pIntC fun _ => ?_
  refine pBin ?_
  refine pBin ?_
  refine pNameE (by assumption) ?_
  refine pIntC fun _ => ?_
  refine pFDiv (by decide) (by decide) fun _ => ?_
  refine pIntC fun _ => ?_
  refine pMod (by decide) fun _ => ?_
  refine pAdd fun _ => ?_
  refine pPairs0 ?_
  refine ⟨rfl, [(S [97], _), (S [98], _), (S [99], _)], ⟨rfl, rfl, rfl, rfl, rfl, rfl, trivial⟩, fun o ho => ?_⟩
  refine pStoreE ?_
  exact K D o _ _ _ fD (prOf_dict ho)
end
end
section
open PySem PySem.W PyProof.Rows PySem.Calls PySem.Builtin PySem.W.X
set_option maxRecDepth 100000


section
variable {c : Cx} {m : Mp} {nw cs : Nw} {Q : Value → Mp → Nw → Prop} {mg mb : Str → Option Value} {fa : Nat → Addr} {fK cK bm T cR TR fR dS d : Addr} {kvs : List (Int × Value)} {p q : List Nat} {t1 t2 : Tok} {pr : Nat → Nat} {ta tb tc : Tok} {pt tR : Array Value}
theorem pRight (hgs : c.s.gens = #[]) (r : Rm c.A 25) (hTR : TR ≠ T) (ST : Stat c.prog c.w mg mb fa fK cK bm cR fR dS kvs c.b) (KH : HH c ((TR, tabObj tR) :: (T, tableObj pt) :: cs) (fun h => KInv h cK T bm pt ∧ RInv h cR TR tR)) (hne : ∀ q ∈ cs, q.1 ≠ T ∧ q.1 ≠ TR)
    (h1 : ∀ c ∈ abc, 1 ≤ pr c) (h3 : ∀ c ∈ abc, pr c ≤ 3) (hp : Pat p) (hq : Pat q) (hd : ∃ o, (d, o) ∈ cs ∧ o.IsDictOf (strKind c.prog c.w) (prD pr ta tb tc))
    (K : ∀ pt' tR' cs', HH c ((TR, tabObj tR') :: (T, tableObj pt') :: cs') (fun h => KInv h cK T bm pt' ∧ RInv h cR TR tR') → (∀ q ∈ cs', q.1 ≠ T ∧ q.1 ≠ TR) → (∀ q ∈ cs, q ∈ cs') → Q (.bool true) m ((TR, tabObj tR') :: (T, tableObj pt') :: cs')) :
    P c (call (.ref (fa 22)) [.str (S p) t1, .str (S q) t2, .ref d]) Q m ((TR, tabObj tR) :: (T, tableObj pt) :: cs) := fun h tk I => by
  have bT : c.b.get? T = none := (I.N _ (.tail _ (.head _))).2.2
  have bTR : c.b.get? TR = none := (I.N _ (.head _)).2.2
  have kT : ∀ b o, c.b.get? b = some o → ((h.hide T).hide TR).get? b = some o := fun b o e =>
    (Heap.hide_ne _ (fun q => by rw [q, bTR] at e; cases e)).trans ((Heap.hide_ne _ (fun q => by rw [q, bT] at e; cases e)).trans (I.F.keep _ _ e))
  obtain ⟨od, hd1, hd2⟩ := hd
  have nd := I.N _ (.tail _ (.tail _ hd1))
  have lo : (d == sysModules) = false := by
    obtain ⟨os, hs⟩ := ST.k.sm
    refine beq_eq_false_iff_ne.mpr fun e => ?_
    have n3 := nd.2.2
    rw [show (d, od).1 = sysModules from e, hs] at n3
    cases n3
  obtain ⟨X1, X2⟩ := KH.here I
  refine wpAny_call (right_c (s := c.st h tk) hgs r hTR X1 X2 (ST.keeps kT) h1 h3 hp hq lo ⟨od, (Heap.hide_ne _ (hne _ hd1).2).trans ((Heap.hide_ne _ (hne _ hd1).1).trans nd.1), hd2⟩ fun h' tk' pt' tR' k k1 k2 => ?_)
  have k : ∀ b o, b ≠ T → b ≠ TR → h.get? b = some o → h'.get? b = some o := k
  have LT : c.L ≠ T := fun e => (I.N _ (.tail _ (.head _))).2.1 e.symm
  have LR : c.L ≠ TR := fun e => (I.N _ (.head _)).2.1 e.symm
  have I' : In c m ((TR, tabObj tR') :: (T, tableObj pt') :: cs) h' := by
    refine ⟨⟨?_, fun b o e => k b o (fun q => by rw [q, bT] at e; cases e) (fun q => by rw [q, bTR] at e; cases e) (I.F.keep _ _ e), I.F.above⟩, fun x hx => ?_⟩
    · obtain ⟨oL, es, ep, e, r⟩ := I.F.ns
      exact ⟨oL, es, ep, k _ _ LT LR e, r⟩
    · rcases List.mem_cons.mp hx with rfl | hx
      · exact ⟨k2.tb, (I.N _ (.head _)).2⟩
      rcases List.mem_cons.mp hx with rfl | hx
      · exact ⟨k1.t.2, (I.N _ (.tail _ (.head _))).2⟩
      · have z := I.N _ (.tail _ (.tail _ hx))
        exact ⟨k _ _ (hne _ hx).1 (hne _ hx).2 z.1, z.2⟩
  obtain ⟨kl, J, hk, -⟩ := HH.of I I' ((Supp.kinv (h₀ := h) k1).and (Supp.rinv k2))
  have mem : ∀ x ∈ kl, x ∈ (TR, tabObj tR') :: (T, tableObj pt') :: (kl.filter (fun x => x.1 != T && x.1 != TR) ++ cs) := fun x hx => by
    have zx := (J.N _ (List.mem_append_left _ hx)).1
    by_cases e1 : x.1 = TR
    · have : x = (TR, tabObj tR') := by
        rw [e1, k2.tb] at zx
        obtain ⟨x1, x2⟩ := x
        cases zx
        subst e1
        rfl
      rw [this]; exact .head _
    by_cases e2 : x.1 = T
    · have : x = (T, tableObj pt') := by
        rw [e2, k1.t.2] at zx
        obtain ⟨x1, x2⟩ := x
        cases zx
        subst e2
        rfl
      rw [this]; exact .tail _ (.head _)
    · exact .tail _ (.tail _ (List.mem_append_left _ (List.mem_filter.mpr ⟨hx, by simp [e1, e2]⟩)))
  refine ⟨h', tk', m, (TR, tabObj tR') :: (T, tableObj pt') :: (kl.filter (fun x => x.1 != T && x.1 != TR) ++ cs), rfl, ⟨J.F, fun x hx => ?_⟩, K pt' tR' _ (hk.more mem) (fun x hx => ?_) fun x hx => List.mem_append_right _ hx⟩
  · refine J.N x ?_
    rcases List.mem_cons.mp hx with rfl | hx
    · exact List.mem_append_right _ (.head _)
    rcases List.mem_cons.mp hx with rfl | hx
    · exact List.mem_append_right _ (.tail _ (.head _))
    rcases List.mem_append.mp hx with hx | hx
    · exact List.mem_append_left _ (List.mem_filter.mp hx).1
    · exact List.mem_append_right _ (.tail _ (.tail _ hx))
  · rcases List.mem_append.mp hx with hx | hx
    · simpa using (List.mem_filter.mp hx).2
    · exact hne x hx
set_option maxHeartbeats 1000000 in
theorem law4 {QF : Flow → Mp → Nw → Prop} {a cL : Addr} (hgs : c.s.gens = #[]) (r : Rm c.A 26) (hTR : TR ≠ T) (ST : Stat c.prog c.w mg mb fa fK cK bm cR fR dS kvs c.b) (KH : HH c ((TR, tabObj tR) :: (T, tableObj pt) :: cs) (fun h => KInv h cK T bm pt ∧ RInv h cR TR tR)) (hne : ∀ q ∈ cs, q.1 ≠ T ∧ q.1 ≠ TR)
    (h1 : ∀ c ∈ abc, 1 ≤ pr c) (h3 : ∀ c ∈ abc, pr c ≤ 3) (hp : Pat p) (hq : Pat q) (hd : ∃ o, (d, o) ∈ cs ∧ o.IsDictOf (strKind c.prog c.w) (prD pr ta tb tc))
    (l0 : m.lookup ("one" : Str) = some (.str (S p) t1)) (l1 : m.lookup ("two" : Str) = some (.str (S q) t2)) (l2 : m.lookup ("prices" : Str) = some (.ref d))
    (K : ∀ pt' tR' cs', HH c ((TR, tabObj tR') :: (T, tableObj pt') :: cs') (fun h => KInv h cK T bm pt' ∧ RInv h cR TR tR') → QF (.ret (.bool true)) m ((TR, tabObj tR') :: (T, tableObj pt') :: cs')) :
    P c (execs ((bodOf (stAt 23)).drop 4) (envOfC (nameOf (stAt 23)) (scpOf (stAt 23)) c.L a (.ref cL))) QF m ((TR, tabObj tR) :: (T, tableObj pt) :: cs) := by
  refine pCons ?_
  refine pReturn ?_
  refine pAnd2 ?_
  refine pCall ?_
  refine pFnE 22 ST.g ?_
  refine pWithG (ST.g.fn 22 (by decide)).2 ?_
  refine pArgs ?_
  refine pNameE (by assumption) ?_
  refine pArgs ?_
  refine pNameE (by assumption) ?_
  refine pArgs ?_
  refine pNameE (by assumption) ?_
  refine pArgs0 ?_
  refine pRight hgs (r.mono (by lia)) hTR ST KH hne h1 h3 hp hq hd fun pt1 tR1 cs1 KH1 hne1 sub1 => ?_
  refine pTrue ?_
  refine (if_pos rfl).mpr ?_
  refine pCall ?_
  refine pFnE 22 ST.g ?_
  refine pWithG (ST.g.fn 22 (by decide)).2 ?_
  refine pArgs ?_
  refine pStrC fun _ => ?_
  refine pArgs ?_
  refine pStrC fun _ => ?_
  refine pArgs ?_
  refine pNameE (by assumption) ?_
  refine pArgs0 ?_
  refine pRight (p := [42, 98, 63]) (q := [97, 42, 99]) hgs (r.mono (by lia)) hTR ST KH1 hne1 h1 h3 ⟨_, _, _, rfl, by decide, by decide, by decide⟩ ⟨_, _, _, rfl, by decide, by decide, by decide⟩ (let ⟨o, a1, a2⟩ := hd; ⟨o, sub1 _ a1, a2⟩) fun pt2 tR2 cs2 KH2 _ _ => ?_
  exact K pt2 tR2 cs2 KH2
set_option maxHeartbeats 2000000 in
theorem law_c {prog : Program} {w : World} {A : Around} {R : Result → Shared → Prop} {s : Shared} {l : Addr} {vs : List Value} {ns : List Int} (hgs : s.gens = #[]) (r : Rm A 30) (hTR : TR ≠ T) (KI : KInv s.heap cK T bm pt) (RI : RInv s.heap cR TR tR) (ST : Stat prog w mg mb fa fK cK bm cR fR dS kvs ((s.heap.hide T).hide TR))
    (hl : ((s.heap.hide T).hide TR).IsList l vs.toArray) (hi : IntsAre vs ns) (hz : vs.length ≤ 2 ^ 20)
    (ret : ∀ h' tk', (∀ b o, b ≠ T → b ≠ TR → s.heap.get? b = some o → h'.get? b = some o) → (∃ pt', KInv h' cK T bm pt') → (∃ tR', RInv h' cR TR tR') → R (.ok (.ret (.bool true))) { s with heap := h', toks := tk' }) :
    codeAny (model prog w) A (.call (.ref (fa 23)) ⟨[.ref l], []⟩) R s := by
  have kb : ∀ b o, ((s.heap.hide T).hide TR).get? b = some o → s.heap.get? b = some o := fun b o e => Heap.of_hide (Heap.of_hide e)
  obtain ⟨oF, pm, cd, doc, x1, x2, x3⟩ := ((ST.g.fn 23 (by decide)).2.keeps kb : FnAt s.heap (fa 23) 23)
  obtain ⟨cL, oc, vc, tq, rfl, x4⟩ := id x3
  clear x4
  refine pEnterCTT (i := 23) (n := 29) (binds := [("script", .ref l)]) (mp := [("script", .ref l)]) KI.t.2 RI.tb hTR ⟨oF, pm, doc, x1, x2, x3⟩ (ST.g.nolimit.keeps kb) r (fun _ _ _ => rfl) (fun n => kindsX rfl n) (by decide) (fun L cd => ?_) (fun A' cells r' Y hcT => ?_)
  · rw [cons_lookup]; rfl
  clear x1 x2 x3
  have Y' : CellsAre _ [] cells := Y
  have hc0 : cells = [] := by cases Y'; rfl
  subst hc0
  clear Y Y' hcT
  have ret' : ∀ pt' tR' m nw, HH ⟨prog, w, A', s, (s.heap.hide T).hide TR, s.heap.objs.size⟩ nw (fun h => KInv h cK T bm pt' ∧ RInv h cR TR tR') → endQ ⟨prog, w, A', s, (s.heap.hide T).hide TR, s.heap.objs.size⟩ R (.ret (.bool true)) m nw :=
    fun pt' tR' m nw hk h tk I => ret h tk (fun b o b1 b2 e => I.F.keep b o ((Heap.hide_ne _ b2).trans ((Heap.hide_ne _ b1).trans e))) ⟨pt', (hk.here I).1⟩ ⟨tR', (hk.here I).2⟩
  clear ret kb
  have KH : HH ⟨prog, w, A', s, (s.heap.hide T).hide TR, s.heap.objs.size⟩ [(TR, tabObj tR), (T, tableObj pt)] (fun h => KInv h cK T bm pt ∧ RInv h cR TR tR) :=
    HH.ofBase2 (h₀ := s.heap) ((Supp.kinv KI).and (Supp.rinv RI)) rfl KI.t.2 RI.tb
  generalize hcx : (⟨prog, w, A', s, (s.heap.hide T).hide TR, s.heap.objs.size⟩ : Cx) = c at ret' KH ⊢
  have hc1 : c.A = A' := by rw [← hcx]
  have hc2 : c.b = (s.heap.hide T).hide TR := by rw [← hcx]
  have hc3 : s.heap.objs.size = c.L := by rw [← hcx]
  have hc4 : c.prog = prog := by rw [← hcx]
  have hc5 : c.w = w := by rw [← hcx]
  have hc6 : c.s.gens = #[] := by rw [← hcx]; exact hgs
  rw [hc3]
  rw [← hc2] at hl
  rw [← hc2, ← hc4, ← hc5] at ST
  rw [← hc1] at r'
  clear hcx hc1 hc2 hc3 hc4 hc5 KI RI hgs
  refine law0 (l := l) (vs := vs) hl hz rfl fun D fD => ?_
  have hv2 : (vs.take 2).length ≤ 2 := by rw [List.length_take]; lia
  refine law1 (D := D) (vs := vs.take 2) (ns := ns.take 2) (r'.mono (by lia)) ST.g (.inr (.head _)) (IntsAre.take hi 2) hv2 rfl fun E us s1 new fr hE hiu => ?_
  have hu2 : (ns.take 2 ++ [132, 153].drop (ns.take 2).length).length = 2 := by simp only [List.length_append, List.length_drop, List.length_cons, List.length_nil, List.length_take]; lia
  refine law2 (E := E) (us := us) (r'.mono (by lia)) ST.g (.inr (List.mem_append_left _ hE)) hiu hu2 rfl fun p q u1 u2 hp hq => ?_
  refine law3 rfl fun d o ta tb tc fd hd => ?_
  refine pNw (nw' := (TR, tabObj tR) :: (T, tableObj pt) :: [(d, o)]) ?_ (fun x hx => ?_)
  · refine law4 hc6 (r'.mono (by lia)) hTR ST (KH.more fun x hx => ?_) (fun x hx => ?_) (fun c _ => prOf_ge _ c) (fun c _ => prOf_le _ c) hp hq ⟨o, .head _, hd⟩ rfl rfl rfl fun pt' tR' cs' hk => ret' pt' tR' _ _ hk
    · rcases List.mem_cons.mp hx with rfl | hx
      · exact .head _
      · rw [List.mem_singleton.mp hx]; exact .tail _ (.head _)
    · rw [List.mem_singleton.mp hx]
      exact ⟨(fd _ (List.mem_append_right _ (.tail _ (.tail _ (.head _))))).symm, (fd _ (List.mem_append_right _ (.tail _ (.head _)))).symm⟩
  · rcases List.mem_cons.mp hx with rfl | hx
    · exact .tail _ (List.mem_append_right _ (.tail _ (.head _)))
    rcases List.mem_cons.mp hx with rfl | hx
    · exact .tail _ (List.mem_append_right _ (.tail _ (.tail _ (.head _))))
    · rw [List.mem_singleton.mp hx]; exact .head _
end
end
section
open PySem PySem.W PyProof.Rows PySem.Calls PySem.Builtin PySem.W.X
set_option maxRecDepth 100000
/-- the table of a function's code stands at P -/
noncomputable def TabAt (h : Heap) (a P : Addr) : Prop := ∃ o fd c oc vs, h.get? a = some o ∧ o.data = .func fd ∧ fd.code = .ref c ∧ h.get? c = some oc ∧ oc.data = .fields vs ∧ vs.getD 11 .none = .ref P
theorem tabAt_of {h : Heap} {a P : Addr} (e : tabOf h a = some (.ref P)) : TabAt h a P := by
  unfold tabOf at e
  obtain ⟨o, h1, e⟩ := Option.bind_eq_some_iff.mp e
  split at e
  · rename_i fd h2
    split at e
    · rename_i c h3
      obtain ⟨oc, h4, e⟩ := Option.bind_eq_some_iff.mp e
      split at e
      · rename_i vs h5
        exact ⟨o, fd, c, oc, vs, h1, h2, h3, h4, h5, Option.some.inj e⟩
      · cases e
    · cases e
  · cases e
/-- what the head's look has told -/
structure HF (h : Heap) : Prop where
  red : ∃ o pm cd doc td ot n, h.get? 99 = some o ∧ o.data = .func { docDef (nameOf (stAt 15)) (prmOf (stAt 15)) (bodOf (stAt 15)) (scpOf (stAt 15)) pm cd doc with defaults := .ref td } ∧ h.CodeRec cd (nameOf (stAt 15)) ∧ h.get? td = some ot ∧ ot.data = .seq #[.ref 91] n
  tk : TabAt h 90 85
  tr : TabAt h 133 130
  st : NoThird h
  sm : ∃ o es ep, h.get? sysModules = some o ∧ o.data = .dict es ep
  dc : ∃ o, h.get? 66 = some o ∧ intsB o = true
theorem TabAt.keeps {h h' : Heap} {a P : Addr} (x : TabAt h a P) (k : ∀ b o, h.get? b = some o → h'.get? b = some o) : TabAt h' a P := by
  obtain ⟨o, fd, c, oc, vs, h1, h2, h3, h4, h5⟩ := x
  exact ⟨o, fd, c, oc, vs, k _ _ h1, h2, h3, k _ _ h4, h5⟩
theorem HF.keeps {h h' : Heap} (x : HF h) (k : ∀ b o, h.get? b = some o → h'.get? b = some o) : HF h' := by
  obtain ⟨⟨o, pm, cd, doc, td, ot, n, h1, h2, h3, h4, h5⟩, x2, x3, x4, ⟨p, es, ep, g1, g2⟩, ⟨q, d1, d2⟩⟩ := x
  exact ⟨⟨o, pm, cd, doc, td, ot, n, k _ _ h1, h2, h3.keeps k, k _ _ h4, h5⟩, x2.keeps k, x3.keeps k, x4.keeps k, ⟨p, es, ep, k _ _ g1, g2⟩, ⟨q, k _ _ d1, d2⟩⟩
theorem HF.of {s : Shared} (e : obsH s = valH) : HF s.heap := by
  have e1 := congrArg (fun x => x.1) e
  have e2 := congrArg (fun x => x.2.1) e
  have e3 := congrArg (fun x => x.2.2.1) e
  have e4 := congrArg (fun x => x.2.2.2.1) e
  have e5 := congrArg (fun x => x.2.2.2.2.1) e
  have e6 : (_ && _) = true := congrArg (fun x => x.2.2.2.2.2) e
  clear e
  have e1 : s.heap.get? 99 = _ := e1
  have e2 : codeNm s.heap 98 = some (.str (nameOf (stAt 15)) 553) := e2
  have e3 : seqOf s.heap 92 = some [.ref 91] := e3
  simp only [Bool.and_eq_true, Option.isNone_iff_eq_none] at e6
  obtain ⟨⟨⟨c1, c2⟩, c3⟩, c4⟩ := e6
  refine ⟨?_, tabAt_of e4, tabAt_of e5, ⟨_, .of_isNs c1, c2⟩, ?_, ?_⟩
  · unfold codeNm at e2
    unfold seqOf at e3
    obtain ⟨oc, h1, e2⟩ := Option.bind_eq_some_iff.mp e2
    obtain ⟨ot, h2, e3⟩ := Option.bind_eq_some_iff.mp e3
    split at e2
    · rename_i vs h3
      split at e3
      · rename_i us n h4
        have h5 : us = #[.ref 91] := by
          have := Option.some.inj e3
          cases us
          simpa using this
        exact ⟨_, _, _, _, 92, ot, n, e1, rfl, ⟨98, oc, vs, 553, rfl, h1, h3, e2⟩, h2, h5 ▸ h4⟩
      · cases e3
    · cases e2
  · unfold dictB at c3
    split at c3
    · rename_i o h1
      split at c3
      · rename_i es ep h2
        exact ⟨o, es, ep, h1, h2⟩
      · cases c3
    · cases c3
  · unfold intsAt at c4
    split at c4
    · rename_i o h1
      exact ⟨o, h1, c4⟩
    · cases c4
theorem pairs_ints {prog : Program} {w : World} : ∀ {es : List DictEntry}, es.all (fun e => (match e.key with | .int k _ => e.hash == hashInt k | _ => false)) = true → PySem.Pairs (intKind prog w) es (es.map fun e => (keyI e.key, e.val))
  | [], _ => .nil
  | e :: es, h => by
    rw [List.all_cons, Bool.and_eq_true] at h
    refine .cons ?_ rfl (pairs_ints h.2)
    have h1 := h.1
    split at h1
    · rename_i k t hk
      show (intKind prog w).is (keyI e.key) e.key = true
      rw [hk]
      exact intKind_is prog w k t
    · cases h1
theorem ints_dict {prog : Program} {w : World} {o : Obj} (e : intsB o = true) : ∃ kvs, o.IsDictOf (intKind prog w) kvs ∧ ∀ a ∈ [97, 98, 99], valueAt kvs ((a : Nat) : Int) = none := by
  unfold intsB at e
  simp only [Bool.and_eq_true] at e
  obtain ⟨⟨⟨h1, h2⟩, h3⟩, e⟩ := e
  split at e
  · rename_i es ep hd
    simp only [Bool.and_eq_true] at e
    obtain ⟨⟨e1, e2⟩, e3⟩ := e
    refine ⟨es.toList.map fun e => (keyI e.key, e.val), ⟨es, ep, ⟨by simpa using h1, by simpa using h2, ?_⟩, hd, fun x hx => ?_, pairs_ints e1, ?_⟩, fun a ha => ?_⟩
    · have := List.isEmpty_iff.mp h3
      simpa using this
    · have := List.all_eq_true.mp e1 x (by simpa using hx)
      split at this
      · rename_i k t hk
        exact ⟨k, by rw [hk]; exact intKind_is prog w k t, by show x.hash = hashInt k; simpa using this⟩
      · cases this
    · rw [List.map_map]
      exact of_decide_eq_true e2
    · unfold valueAt
      rw [Option.map_eq_none_iff, List.find?_eq_none]
      intro kv hkv hc
      obtain ⟨x, hx, rfl⟩ := List.mem_map.mp hkv
      have := List.all_eq_true.mp e3 x hx
      have hc : keyI x.key = (a : Int) := by simpa using hc
      rw [hc] at this
      simp only [List.mem_cons, List.not_mem_nil, or_false] at ha
      rcases ha with rfl | rfl | rfl <;> simp at this
  · cases e
end
section
open PySem PySem.W PyProof.Rows PySem.Calls PySem.Builtin PySem.W.X
set_option maxRecDepth 100000
noncomputable def faOf (mg : Str → Option Value) (i : Nat) : Addr := match mg (nameOf (stAt i)) with | some (.ref a) => a | _ => 0
noncomputable def recOf (i : Nat) : DefRec := ⟨nameOf (stAt i), prmOf (stAt i), bodOf (stAt i), scpOf (stAt i), match stAt i with | .FunctionDef _ _ _ _ _ _ _ _ _ p => p | _ => default⟩
noncomputable abbrev lawDefs : List Nat := [2, 3, 4, 5, 9, 11, 13, 17, 18, 19, 20, 21, 22, 23]
theorem recs_eq : recsOf viewP = lawDefs.map recOf := by kernel_rfl
theorem recs_at {i : Nat} (h : i ∈ lawDefs) : recOf i ∈ recsOf viewP := recs_eq ▸ List.mem_map_of_mem h
/-- names that the top leaves free -/
noncomputable def freeB (x : Str) : Bool := !(startupNames.contains x || (looseW viewP looseN).contains x || ((recsOf viewP).map (·.name)).contains x || ((litsOf viewP).map (·.1)).contains x || ((clssOf viewP (looseW viewP looseN)).map (·.name)).contains x)
theorem freeB_all : (([Str.ofString "len", "range", "min", "int", "sum", "zip", "iter", "isinstance", "str", "object"] : List Str).all freeB) = true := by kernel_rfl
theorem free_of {mean : ExcName → Option Value} {mg mb : Str → Option Value} {h : Heap} (T0 : Top viewP (looseW viewP looseN) mean mg mb h) {x : Str} (hx : x ∈ ([Str.ofString "len", "range", "min", "int", "sum", "zip", "iter", "isinstance", "str", "object"] : List Str)) : mg x = none := by
  have := List.all_eq_true.mp freeB_all x hx
  unfold freeB at this
  rw [Bool.not_eq_true', Bool.or_eq_false_iff, Bool.or_eq_false_iff, Bool.or_eq_false_iff, Bool.or_eq_false_iff] at this
  have no : ∀ {l : List Str}, l.contains x = false → x ∉ l := fun h h' => by rw [List.contains_iff_mem.mpr h'] at h; cases h
  exact T0.free x (no this.1.1.1.1) (no this.1.1.1.2) (no this.1.1.2) (no this.1.2) (no this.2)
theorem base_keep {h : Heap} {T TR : Addr} (hT : h.get? T = some (tableObj #[])) (hR : h.get? TR = some (tabObj #[])) : ∀ b o, h.get? b = some o → o.data ≠ .fields #[] → ((h.hide T).hide TR).get? b = some o := fun b o e hd =>
  (Heap.hide_ne _ (fun q => hd (by rw [q, hR] at e; cases e; rfl))).trans ((Heap.hide_ne _ (fun q => hd (by rw [q, hT] at e; cases e; rfl))).trans e)
section
variable {h : Heap} {T TR : Addr} (kb : ∀ b o, h.get? b = some o → o.data ≠ .fields #[] → ((h.hide T).hide TR).get? b = some o)
include kb
theorem ns_base {a : Addr} {m : Str → Option Value} (x : h.Ns a m) : ((h.hide T).hide TR).Ns a m := by
  obtain ⟨o, es, ep, e, hd, r⟩ := x
  exact ⟨o, es, ep, kb _ _ e (by rw [hd]; intro q; cases q), hd, r⟩
theorem code_base {cd : Value} {q : Str} (x : h.CodeRec cd q) : ((h.hide T).hide TR).CodeRec cd q := by
  obtain ⟨c, o, vs, t, e, g, d, r⟩ := x
  refine ⟨c, o, vs, t, e, kb _ _ g ?_, d, r⟩
  rw [d]
  intro q'
  have : vs = #[] := by injection q'
  rw [this] at r
  cases r
theorem fn_base {a : Addr} {i : Nat} (x : FnAt h a i) : FnAt ((h.hide T).hide TR) a i := by
  obtain ⟨o, pm, cd, doc, h1, h2, h3⟩ := x
  exact ⟨o, pm, cd, doc, kb _ _ h1 (by rw [h2]; intro q; cases q), h2, code_base kb h3⟩
end
section
variable {mean : ExcName → Option Value} {mg mb : Str → Option Value} {h : Heap} (T0 : Top viewP (looseW viewP looseN) mean mg mb h)
include T0
theorem fn_of {i : Nat} (hi : i ∈ lawDefs) : mg (nameOf (stAt i)) = some (.ref (faOf mg i)) ∧ FnAt h (faOf mg i) i := by
  obtain ⟨a, o, pm, code, doc, h1, h2, h3, h4⟩ := T0.fn _ (recs_at hi)
  have ea : faOf mg i = a := by unfold faOf; rw [show mg (nameOf (stAt i)) = some (.ref a) from h1]
  rw [ea]
  exact ⟨h1, o, pm, code, doc, h2, h3, h4⟩
theorem tab_of {i : Nat} {a P : Addr} (hi : i ∈ lawDefs) (ha : mg (nameOf (stAt i)) = some (.ref a)) (hP : TabAt h a P) :
    ∃ c o pm doc, h.get? a = some o ∧ o.data = .func (docDef (nameOf (stAt i)) (prmOf (stAt i)) (bodOf (stAt i)) (scpOf (stAt i)) pm (.ref c) doc) ∧ h.CodeRec (.ref c) (nameOf (stAt i)) ∧ h.IsCode c P #[] ∧ h.TableAt c P #[] := by
  obtain ⟨a1, o, pm, cd, doc, f1, f2, f3, f4⟩ := T0.fn _ (recs_at hi)
  obtain ⟨a', o', fd, c, P', g1, g2, g3, g4, g5, g6⟩ := T0.tab _ (recs_at hi)
  obtain ⟨o2, fd2, c2, oc, vs, k1, k2, k3, k4, k5, k6⟩ := hP
  have e1 : a1 = a := Value.ref.inj (Option.some.inj (f1.symm.trans ha))
  have e2 : a' = a := Value.ref.inj (Option.some.inj (g1.symm.trans ha))
  subst e1 e2
  have e3 := Option.some.inj (f2.symm.trans g2)
  have e4 := Option.some.inj (f2.symm.trans k1)
  subst e3 e4
  have e5 := Data.func.inj (f3.symm.trans g3)
  have e6 := Data.func.inj (f3.symm.trans k2)
  subst e5 e6
  have hcd : cd = .ref c := g4
  have e7 : c = c2 := Value.ref.inj (g4.symm.trans k3)
  subst hcd e7
  have e8 : P' = P := by
    obtain ⟨o3, vs3, _, _, _, _, _, _, _, _, q1, q2, q3, _⟩ := g5
    have z1 := Option.some.inj (k4.symm.trans q1)
    subst z1
    have z2 := Data.fields.inj (k5.symm.trans q2)
    subst z2
    exact Value.ref.inj (q3.symm.trans k6)
  subst e8
  exact ⟨c, o, pm, doc, f2, f3, f4, g5, g6⟩
end
theorem names_of {mg : Str → Option Value} (X : namesB mg = true) : mg "reduce" = some (.ref 99) ∧ mg "_special_chars_map" = some (.ref 66) ∧ mg "_initial_missing" = some (.ref 91) ∧ mg "cmp_to_key" = some (.ref 90) ∧ mg "_law_right" = some (.ref 133) ∧ ∃ v, mg "__name__" = some v := by
  unfold namesB at X
  rw [Bool.and_eq_true, Bool.and_eq_true, Bool.and_eq_true, Bool.and_eq_true, Bool.and_eq_true] at X
  exact ⟨eq_of_beq X.1.1.1.1.1, eq_of_beq X.1.1.1.1.2, eq_of_beq X.1.1.1.2, eq_of_beq X.1.1.2, eq_of_beq X.1.2, Option.isSome_iff_exists.mp X.2⟩
/-- what stands at the call -/
theorem stat_of {prog : Program} {w : World} {mean : ExcName → Option Value} {mg mb : Str → Option Value} {h : Heap} (T0 : Top viewP (looseW viewP looseN) mean mg mb h) (X : namesB mg = true) (Y : HF h) :
    ∃ cK cR bm kvs, KInv h cK 85 bm #[] ∧ RInv h cR 130 #[] ∧ Stat prog w mg mb (faOf mg) 90 cK bm cR 99 66 kvs ((h.hide 85).hide 130) := by
  obtain ⟨X1, X2, X3, X4, X5, X6⟩ := names_of X
  obtain ⟨cK, oK, pmK, docK, K1, K2, K3, K4, K5⟩ := tab_of T0 (i := 13) (by decide) X4 Y.tk
  obtain ⟨cR, oR, pmR, docR, R1, R2, R3, R4, R5⟩ := tab_of T0 (i := 22) (by decide) X5 Y.tr
  obtain ⟨bm, ob, b1, b2, b3, b4, b5, b6⟩ := T0.bmain
  have kb := base_keep K5.2 R5.2
  obtain ⟨oD, d1, d2⟩ := Y.dc
  obtain ⟨kvs, D1, D2⟩ := ints_dict (prog := prog) (w := w) d2
  have mk : ∃ ob, Mk ((h.hide 85).hide 130) mg bm ob := ⟨ob, ns_base kb T0.g, b1, b2, kb _ _ b3 (by rw [b6]; intro q; cases q), b4, b5, b6⟩
  refine ⟨cK, cR, bm, kvs, ⟨K4, K5, .inl rfl⟩, ⟨CodeHd.of R4 R5, R5.2, .inl rfl⟩, ⟨ns_base kb T0.g, ns_base kb T0.b, T0.builtins, ?_, fun i hi => ?_, ?_⟩, ?_, ?_, ?_, X1, ?_, X2, by decide, D2⟩
  · obtain ⟨mc, q1, q2⟩ := T0.nolimit
    exact ⟨mc, ns_base kb q1, q2⟩
  · have hi' : i ∈ lawDefs := (by decide : ∀ i ∈ [2, 3, 4, 5, 9, 11, 17, 18, 19, 20, 21, 22, 23], i ∈ lawDefs) i hi
    exact ⟨(fn_of T0 hi').1, fn_base kb (fn_of T0 hi').2⟩
  · exact fun x hx => free_of T0 (List.mem_append_left [Str.ofString "object"] hx)
  · refine ⟨⟨oK, pmK, docK, kb _ _ K1 (by rw [K2]; intro q; cases q), K2⟩, code_base kb K3, mk, ?_, ?_, ?_, X4, ?_⟩
    · obtain ⟨m, q1, q2⟩ := Y.st
      exact ⟨m, ns_base kb q1, q2⟩
    · obtain ⟨o, es, ep, q1, q2⟩ := Y.sm
      exact ⟨o, kb _ _ q1 (by rw [q2]; intro q; cases q)⟩
    · exact X6
    · exact free_of T0 (List.mem_append_right ([Str.ofString "len", "range", "min", "int", "sum", "zip", "iter", "isinstance", "str"] : List Str) (.head _))
  · obtain ⟨e1, -⟩ := fn_of T0 (i := 22) (by decide)
    have : (133 : Addr) = faOf mg 22 := by
      have e1 := Option.some.inj (X5.symm.trans e1)
      injection e1
    rw [← this]
    exact ⟨oR, pmR, docR, kb _ _ R1 (by rw [R2]; intro q; cases q), R2, code_base kb R3⟩
  · obtain ⟨o, pm, cd, doc, td, ot, n, q1, q2, q3, q4, q5⟩ := Y.red
    exact ⟨o, pm, cd, doc, td, ot, 91, n, kb _ _ q1 (by rw [q2]; intro q; cases q), q2, code_base kb q3, kb _ _ q4 (by rw [q5]; intro q; cases q), q5, X3⟩
  · exact Heap.dictOf_iff.mpr ⟨oD, kb _ _ d1 (by obtain ⟨es, ep, _, q, _⟩ := D1; rw [q]; intro q; cases q), D1⟩
end
section
open PySem PySem.W PyProof.Rows PySem.Calls PySem.Builtin PySem.W.X
set_option maxRecDepth 100000
theorem rm_caller : Rm callerA 30 := ⟨rfl, by decide, by decide⟩
theorem oldK_of {h h' : Heap} {cK cR bm : Addr} {pt tR : Array Value} (h1 : KInv h cK 85 bm #[]) (h2 : RInv h cR 130 #[]) (k : ∀ b o, b ≠ 85 → b ≠ 130 → h.get? b = some o → h'.get? b = some o) (k1 : KInv h' cK 85 bm pt) (k2 : RInv h' cR 130 tR) (t2 : isCodeTable h 130) : OldK h h' := by
  refine ⟨fun b o e => ?_, fun b o e => ?_⟩
  · by_cases e1 : b = 85
    · subst e1
      rw [h1.t.2] at e
      cases e
      exact .inr (.inl ⟨h1.t.isCodeTable, rfl, #[], pt, rfl, by rw [k1.t.2]; simp⟩)
    by_cases e2 : b = 130
    · subst e2
      rw [h2.tb] at e
      cases e
      exact .inr (.inl ⟨t2, rfl, #[], tR, rfl, by rw [k2.tb]; simp [tabObj]⟩)
    · exact .inl (k b o e1 e2 e)
  · by_cases e1 : b = 85
    · subst e1; exact ⟨_, k1.t.2⟩
    by_cases e2 : b = 130
    · subst e2; exact ⟨_, k2.tb⟩
    · exact ⟨o, k b o e1 e2 e⟩
theorem call_law {prog : Program} {w : World} {mean : ExcName → Option Value} {mg mb : Str → Option Value} {s : Shared} {fa l : Addr} {vs : List Value} {ns : List Int} {R : Result → Shared → Prop} (T0 : Top viewP (looseW viewP looseN) mean mg mb s.heap) (X : namesB mg = true) (Y : HF s.heap)
    (hmg : mg (nameOf (stAt 23)) = some (.ref fa)) (hg : s.gens = #[]) (hL : s.heap.IsList l vs.toArray) (hI : IntsAre vs ns) (hz : ns.length ≤ 63)
    (ret : ∀ h' tk', OldK s.heap h' → R (.ok (.ret (.bool true))) { s with heap := h', toks := tk' }) : codeAny (model prog w) callerA (.call (.ref fa) ⟨[.ref l], []⟩) R s := by
  obtain ⟨cK, cR, bm, kvs, h1, h2, ST⟩ := stat_of (prog := prog) (w := w) T0 X Y
  have hfa : fa = faOf mg 23 := by unfold faOf; rw [hmg]
  rw [hfa]
  have t2 : isCodeTable s.heap 130 := by
    obtain ⟨o, vs, file, tf, flags, tg, inF, text, tt, e, e1, e2, e3, _⟩ := h2.hd
    exact ⟨cR, o, vs, e, e1, e2, e3⟩
  obtain ⟨o, q1, q2, n, q3⟩ := hL
  exact law_c hg rm_caller (by decide) h1 h2 ST ⟨o, base_keep h1.t.2 h2.tb _ _ q1 (by rw [q3]; intro q; cases q), q2, n, q3⟩ hI (by rw [hI.length]; lia) fun h' tk' k ⟨pt, k1⟩ ⟨tR, k2⟩ => ret h' tk' (oldK_of h1 h2 k k1 k2 t2)
theorem said_law : PySem.Challenge.rw_in0046_01.wellSaid = true := by kernel_rfl
theorem def_law : defOf viewP "law" = some (recOf 23, []) := by kernel_rfl
theorem the_law : PySem.Challenge.pw_in0046_01.theDef "law" = some (prmOf (stAt 23), bodOf (stAt 23), scpOf (stAt 23)) := by kernel_rfl
theorem ok_law : (chainsOk viewP && opensWell PySem.Challenge.pw_in0046_01 && (frees PySem.Challenge.rw_in0046_01.row.toRowW && PySem.Challenge.rw_in0046_01.row.within.isEmpty)) = true := by kernel_rfl
theorem wit_law : PySem.Challenge.rw_in0046_01.row.toRowW.promised := by w_witness2
theorem bare_law : PySem.Challenge.pw_in0046_01.bare := ⟨rfl, rfl, rfl, rfl, rfl, by decide +kernel⟩
set_option maxHeartbeats 1000000 in
theorem walk_law : WalkO viewP looseN (fun mg _ => namesB mg = true) (fun _ h => HF h) PySem.Challenge.rw_in0046_01.row.toRowW (recOf 23) [] (fun f vs => PySem.call f vs) := by
  w_on
  intro w s₀ s₁ mg mb G Y fa o pm cd doc dV kV ho hd hcd hD hmg hg args vals as hpre hlay hrd hwl hlo
  clear ho hd hcd hD
  wrow_args hpre hlay hrd hwl hlo
  refine enter_call (call_law G.T G.X Y hmg hg (by assumption) (by assumption) (by lia) fun h' tk' old => ?_)
  exact ⟨.inl ⟨.bool true, .bool true, [], rfl, fun cls => by rfl, .bool true, postW_of (by wrow_shape) (by wtm_val) (by str_meet; first | done | w_fin), fun _ => ⟨List.nodup_nil, fun _ h => nomatch h⟩⟩, old, rfl, .of_eq hg⟩
theorem law_holds : PySem.Challenge.rw_in0046_01.Holds :=
  holds_law said_law fun said => PySem.W.holds_open (q := viewP) (loose := looseN) (Xt := fun s => namesB (s.heap.nsMap mainGlobals) && recOk [] s) (XP := fun mg _ => namesB mg = true) (Yf := obsH) (Ya := fun _ => valH) (YP := fun _ h => HF h) (N := 4000) leftG (fun _ _ e => HF.of e) (fun _ _ _ x k => x.keeps k) (fun _ e => (Bool.and_eq_true_iff.mp e).1) (fun _ _ _ e _ => e)
    def_law the_law rfl (fun _ e => recFacts_of (Bool.and_eq_true_iff.mp e).2) rfl said ok_law bare_law wit_law walk_law
end
end Mine
theorem PySem.Challenge.cw_in0046_01_holds : PySem.Challenge.rw_in0046_01.Holds := by
  exact Mine.law_holds
