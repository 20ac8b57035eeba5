import PyProof.Rows.All
import Wide.All
import OpenK.AllK
import Wide.FinOn
import Lean
import PySem.Challenge.RW_jd0022_01
open PySem PySem.W PyProof.Rows
set_option Elab.async false
set_option linter.unusedVariables false
set_option linter.unusedSimpArgs false
set_option maxRecDepth 100000
set_option maxHeartbeats 8000000
set_option genSizeOf false
set_option genSizeOfSpec false
namespace J
/-- the looks at the law, each by itself -/
theorem said : PySem.Challenge.rw_jd0022_01.wellSaid = true := by
  unfold OpenLaw.wellSaid OpenRow.wellSaid OpenRow.partSaid looksOpen
  repeat' (with_reducible refine look_both ?_ ?_)
  all_goals decide +kernel
end J

namespace J
noncomputable def fdQ (o : Obj) : Option (Str × Arguments × FuncBody × Scope × Addr × List (Str × Addr) × Addr) := match o.data with
  | .func fd => some (fd.qualname, fd.params, fd.body, fd.scope, fd.globals, fd.closure, fd.builtins)
  | _ => none
noncomputable def cnm (o : Obj) : Option Str := match o.data with
  | .fields vs => (match vs[(1 : Nat)]? with
    | some (Value.str q _) => some q
    | _ => none)
  | _ => none
noncomputable def quadAt (i : Nat) : Option (Str × Arguments × FuncBody × Scope × Addr × List (Str × Addr) × Addr) := match PySem.Challenge.pw_jd0022_01.main.body[i]? with
  | some (.FunctionDef n a b _ _ _ sc _ _ _) => some (n, a, .stmts b, sc, mainGlobals, [], builtinsNs)
  | _ => none
noncomputable def lkFn (h : Heap) (x : Str) : Option Obj := match h.nsMap mainGlobals x with
  | some (.ref a) => h.get? a
  | _ => none
noncomputable def cdO (h : Heap) (o : Obj) : Option Obj := match o.data with
  | .func fd => (match fd.code with
    | .ref c => h.get? c
    | _ => none)
  | _ => none
noncomputable def dfO (h : Heap) (o : Obj) : Option Obj := match o.data with
  | .func fd => (match fd.defaults with
    | .ref c => h.get? c
    | _ => none)
  | _ => none
noncomputable def intG (h : Heap) (x : Str) : Option Int := match h.nsMap mainGlobals x with
  | some (.int n _) => some n
  | _ => none
noncomputable def lE : List Str := [Str.ofString "_EncodeVarint", Str.ofString "_EncodeSignedVarint"]
noncomputable def lI : List (Str × Int) := [("TAG_TYPE_BITS", 3), ("WIRETYPE_VARINT", 0), ("WIRETYPE_FIXED64", 1), ("WIRETYPE_LENGTH_DELIMITED", 2), ("WIRETYPE_FIXED32", 5), ("_WIRETYPE_MAX", 5), ("UINT64_MAX", 18446744073709551615)]
noncomputable def lN : List Str := ["range", "len", "bytes", "chr", "ord", "abs", "list", "int"]
noncomputable def obsH (h : Heap) := (h.isNs mainGlobals, lE.map (fun x => ((lkFn h x).bind fdQ, ((lkFn h x).bind (cdO h)).bind cnm, (lkFn h x).bind (dfO h))), lI.map (fun x => intG h x.1), lN.map (fun x => (h.nsMap mainGlobals x).isNone))
noncomputable def valH := (true, [(quadAt 52, some (Str.ofString "_EncodeVarint"), some ({ cls := .type "tuple", data := .seq #[.none] } : Obj)), (quadAt 53, some (Str.ofString "_EncodeSignedVarint"), some ({ cls := .type "tuple", data := .seq #[.none] } : Obj))],
  lI.map (fun x => some x.2), lN.map (fun _ => true))

theorem hlC : ∀ w : World, (openEnds treeTable PySem.Challenge.pw_jd0022_01 w 6116).map (fun s => ((openSeen PySem.Challenge.pw_jd0022_01 [Str.ofString "_EncodeVarint", Str.ofString "_EncodeSignedVarint"] (importedModules PySem.Challenge.pw_jd0022_01.main.body) (fun s => xlAt PySem.Challenge.pw_jd0022_01 [] s && recOk [] s) true s).2.2.1, (openSeen PySem.Challenge.pw_jd0022_01 [Str.ofString "_EncodeVarint", Str.ofString "_EncodeSignedVarint"] (importedModules PySem.Challenge.pw_jd0022_01.main.body) (fun s => xlAt PySem.Challenge.pw_jd0022_01 [] s && recOk [] s) true s).2.1, J.obsH s.heap)) = some ((true, bltViewBooted, J.valH)) := by
  intro w
  unfold openEnds fencedOpening topFrom
  rw [PySem.W.Fast.te10274390034422433532, PySem.W.Fast.te14082659384304107361, PySem.W.Fast.te4187177175401517315, PySem.W.Fast.te14289696077712309145, PySem.W.Fast.te14364793385576792824, PySem.W.Fast.te5923862056798008813]
  kernel_rfl

theorem hlH : ∀ w : World, (openEnds treeTable PySem.Challenge.pw_jd0022_01 w 6116).map (fun s => (openSeen PySem.Challenge.pw_jd0022_01 [Str.ofString "_EncodeVarint", Str.ofString "_EncodeSignedVarint"] (importedModules PySem.Challenge.pw_jd0022_01.main.body) (fun s => xlAt PySem.Challenge.pw_jd0022_01 [] s && recOk [] s) true s).2.2.2.2) = some ((pinGoodD (drecsOf PySem.Challenge.pw_jd0022_01), plainGoodE PySem.Challenge.pw_jd0022_01 (looseW PySem.Challenge.pw_jd0022_01 [Str.ofString "_EncodeVarint", Str.ofString "_EncodeSignedVarint"]), plainGoodD PySem.Challenge.pw_jd0022_01 [Str.ofString "_EncodeVarint", Str.ofString "_EncodeSignedVarint"], wideGood PySem.Challenge.pw_jd0022_01, clsGoodW PySem.Challenge.pw_jd0022_01 [Str.ofString "_EncodeVarint", Str.ofString "_EncodeSignedVarint"])) := by
  intro w
  unfold openEnds fencedOpening topFrom
  rw [PySem.W.Fast.te10274390034422433532, PySem.W.Fast.te14082659384304107361, PySem.W.Fast.te4187177175401517315, PySem.W.Fast.te14289696077712309145, PySem.W.Fast.te14364793385576792824, PySem.W.Fast.te5923862056798008813]
  kernel_rfl

theorem hlI : ∀ w : World, (openEnds treeTable PySem.Challenge.pw_jd0022_01 w 6116).map (fun s => (openSeen PySem.Challenge.pw_jd0022_01 [Str.ofString "_EncodeVarint", Str.ofString "_EncodeSignedVarint"] (importedModules PySem.Challenge.pw_jd0022_01.main.body) (fun s => xlAt PySem.Challenge.pw_jd0022_01 [] s && recOk [] s) true s).1) = some (expectedOf PySem.Challenge.pw_jd0022_01) := by
  intro w
  unfold openEnds fencedOpening topFrom
  rw [PySem.W.Fast.te10274390034422433532, PySem.W.Fast.te14082659384304107361, PySem.W.Fast.te4187177175401517315, PySem.W.Fast.te14289696077712309145, PySem.W.Fast.te14364793385576792824, PySem.W.Fast.te5923862056798008813]
  kernel_rfl

theorem hlJ : ∀ w : World, (openEnds treeTable PySem.Challenge.pw_jd0022_01 w 6116).map (fun s => (openSeen PySem.Challenge.pw_jd0022_01 [Str.ofString "_EncodeVarint", Str.ofString "_EncodeSignedVarint"] (importedModules PySem.Challenge.pw_jd0022_01.main.body) (fun s => xlAt PySem.Challenge.pw_jd0022_01 [] s && recOk [] s) true s).2.2.2.1) = some (true) := by
  intro w
  unfold openEnds fencedOpening topFrom
  rw [PySem.W.Fast.te10274390034422433532, PySem.W.Fast.te14082659384304107361, PySem.W.Fast.te4187177175401517315, PySem.W.Fast.te14289696077712309145, PySem.W.Fast.te14364793385576792824, PySem.W.Fast.te5923862056798008813]
  kernel_rfl

end J
set_option maxHeartbeats 4000000
namespace J

/-! heaps -/
noncomputable def nmL : List (Nat × Nat × Str) := [
  (136, 4, Str.ofString "_SimpleSizer.<locals>.SpecificSizer"),
  (141, 12, Str.ofString "_SimpleSizer.<locals>.SpecificSizer.<locals>.PackedFieldSize"),
  (149, 12, Str.ofString "_SimpleSizer.<locals>.SpecificSizer.<locals>.RepeatedFieldSize"),
  (157, 12, Str.ofString "_SimpleSizer.<locals>.SpecificSizer.<locals>.FieldSize"),
  (163, 4, Str.ofString "_ModifiedSizer.<locals>.SpecificSizer"),
  (168, 12, Str.ofString "_ModifiedSizer.<locals>.SpecificSizer.<locals>.PackedFieldSize"),
  (176, 12, Str.ofString "_ModifiedSizer.<locals>.SpecificSizer.<locals>.RepeatedFieldSize"),
  (184, 12, Str.ofString "_ModifiedSizer.<locals>.SpecificSizer.<locals>.FieldSize"),
  (190, 4, Str.ofString "_FixedSizer.<locals>.SpecificSizer"),
  (195, 12, Str.ofString "_FixedSizer.<locals>.SpecificSizer.<locals>.PackedFieldSize"),
  (202, 12, Str.ofString "_FixedSizer.<locals>.SpecificSizer.<locals>.RepeatedFieldSize"),
  (208, 12, Str.ofString "_FixedSizer.<locals>.SpecificSizer.<locals>.FieldSize"),
  (242, 8, Str.ofString "StringSizer.<locals>.RepeatedFieldSize"),
  (251, 8, Str.ofString "StringSizer.<locals>.FieldSize"),
  (261, 8, Str.ofString "BytesSizer.<locals>.RepeatedFieldSize"),
  (270, 8, Str.ofString "BytesSizer.<locals>.FieldSize"),
  (294, 18, Str.ofString "_VarintBytes.<locals>.<lambda>"),
  (300, 4, Str.ofString "_SimpleEncoder.<locals>.SpecificEncoder"),
  (305, 12, Str.ofString "_SimpleEncoder.<locals>.SpecificEncoder.<locals>.EncodePackedField"),
  (317, 12, Str.ofString "_SimpleEncoder.<locals>.SpecificEncoder.<locals>.EncodeRepeatedField"),
  (325, 12, Str.ofString "_SimpleEncoder.<locals>.SpecificEncoder.<locals>.EncodeField"),
  (332, 4, Str.ofString "_ModifiedEncoder.<locals>.SpecificEncoder"),
  (337, 12, Str.ofString "_ModifiedEncoder.<locals>.SpecificEncoder.<locals>.EncodePackedField"),
  (349, 12, Str.ofString "_ModifiedEncoder.<locals>.SpecificEncoder.<locals>.EncodeRepeatedField"),
  (357, 12, Str.ofString "_ModifiedEncoder.<locals>.SpecificEncoder.<locals>.EncodeField"),
  (365, 4, Str.ofString "_StructPackEncoder.<locals>.SpecificEncoder"),
  (371, 12, Str.ofString "_StructPackEncoder.<locals>.SpecificEncoder.<locals>.EncodePackedField"),
  (380, 12, Str.ofString "_StructPackEncoder.<locals>.SpecificEncoder.<locals>.EncodeRepeatedField"),
  (388, 12, Str.ofString "_StructPackEncoder.<locals>.SpecificEncoder.<locals>.EncodeField"),
  (422, 8, Str.ofString "BoolEncoder.<locals>.EncodePackedField"),
  (434, 8, Str.ofString "BoolEncoder.<locals>.EncodeRepeatedField"),
  (445, 8, Str.ofString "BoolEncoder.<locals>.EncodeField"),
  (457, 8, Str.ofString "StringEncoder.<locals>.EncodeRepeatedField"),
  (466, 8, Str.ofString "StringEncoder.<locals>.EncodeField"),
  (478, 8, Str.ofString "BytesEncoder.<locals>.EncodeRepeatedField"),
  (486, 8, Str.ofString "BytesEncoder.<locals>.EncodeField"),
  (597, 12, Str.ofString "_law_written.<locals>.<lambda>")]

/-- the name of the code that stands at a place of the text -/
noncomputable def nmAt (l c : Nat) : Str := ((nmL.find? fun x => x.1 == l && x.2.1 == c).map fun x => x.2.2).getD Str.empty
noncomputable def nm (p : Pos) : Str := nmAt p.line p.col

noncomputable def NotTab (o : Obj) : Prop := o.cls ≠ .none ∨ ∀ vs, o.data ≠ .fields vs
noncomputable def Soft (o : Obj) : Prop := (∀ vs, o.data ≠ .fields vs) ∨ ∃ T, o.cls = .type T ∧ T ≠ "code"
theorem Soft.notTab {o : Obj} (x : Soft o) : NotTab o := by
  rcases x with x | ⟨T, x, _⟩
  · exact .inr x
  · exact .inl (by rw [x]; nofun)

inductive TabOk (B h : Heap) : Addr → Prop
  | mk {P : Addr} (ps : Array Value) (cf pf : Pos → Addr) (hg : h.get? P = some (tabObj ps)) (hB : B.get? P = none) (ht : TriplesOk ps.toList)
      (he : ∀ pos v, codeAmong pos ps.toList = some v → v = .ref (cf pos) ∧ h.CodeRec (.ref (cf pos)) (nm pos) ∧ CodeHd h (cf pos) (pf pos))
      (hs : ∀ pos v, codeAmong pos ps.toList = some v → TabOk B h (pf pos)) : TabOk B h P

theorem soft_code {h : Heap} {c P : Addr} {o : Obj} (x : CodeHd h c P) (e : h.get? c = some o) : ¬ Soft o := by
  obtain ⟨o', vs, _, _, _, _, _, _, _, e1, e2, e3, _⟩ := x
  rw [e] at e1; cases e1
  rintro (s | ⟨T, s, n⟩)
  · exact s _ e3
  · rw [e2] at s; cases s; exact n rfl
theorem soft_tab {ps : Array Value} : ¬ Soft (tabObj ps) := by
  rintro (s | ⟨T, s, n⟩)
  · exact s _ rfl
  · cases s
theorem codeHd_at {h h' : Heap} {c P : Addr} (x : CodeHd h c P) (k : ∀ o, h.get? c = some o → h'.get? c = some o) : CodeHd h' c P := by
  obtain ⟨o, vs, a1, a2, a3, a4, a5, a6, a7, e1, r⟩ := x
  exact ⟨o, vs, a1, a2, a3, a4, a5, a6, a7, k _ e1, r⟩
theorem codeRec_at {h h' : Heap} {c : Addr} {q : Str} (x : h.CodeRec (.ref c) q) (k : ∀ o, h.get? c = some o → h'.get? c = some o) : h'.CodeRec (.ref c) q := by
  obtain ⟨c', o, vs, t, e, g, r⟩ := x
  cases e
  exact ⟨c, o, vs, t, rfl, k _ g, r⟩

theorem TabOk.but {B h h' : Heap} {b P : Addr} (x : TabOk B h P) (k : ∀ a o, a ≠ b → h.get? a = some o → h'.get? a = some o) (hb : ∀ o, h.get? b = some o → Soft o) : TabOk B h' P := by
  induction x with
  | @mk P ps cf pf hg hB ht he hs ih =>
    have hP : P ≠ b := fun q => soft_tab (hb _ (q ▸ hg))
    refine .mk ps cf pf (k _ _ hP hg) hB ht (fun pos v e => ?_) (fun pos v e => ih pos v e)
    obtain ⟨e1, e2, e3⟩ := he pos v e
    have hc : cf pos ≠ b := fun q => by
      obtain ⟨o', vs, _, _, _, _, _, _, _, e4, _⟩ := id e3
      exact soft_code e3 e4 (hb _ (q ▸ e4))
    exact ⟨e1, codeRec_at e2 fun o => k _ _ hc, codeHd_at e3 fun o => k _ _ hc⟩
theorem TabOk.keeps {B h h' : Heap} {P : Addr} (x : TabOk B h P) (k : ∀ a o, h.get? a = some o → h'.get? a = some o) : TabOk B h' P := by
  induction x with
  | @mk P ps cf pf hg hB ht he hs ih =>
    refine .mk ps cf pf (k _ _ hg) hB ht (fun pos v e => ?_) (fun pos v e => ih pos v e)
    obtain ⟨e1, e2, e3⟩ := he pos v e
    exact ⟨e1, codeRec_at e2 fun o => k _ _, codeHd_at e3 fun o => k _ _⟩
theorem TabOk.empty {B h : Heap} {P : Addr} (hg : h.get? P = some (tabObj #[])) (hB : B.get? P = none) : TabOk B h P :=
  .mk #[] (fun _ => 0) (fun _ => 0) hg hB trivial (fun _ _ e => by cases e) (fun _ _ e => by cases e)
theorem TabOk.get {B h : Heap} {P : Addr} (x : TabOk B h P) : ∃ ps, h.get? P = some (tabObj ps) := by cases x with | mk ps _ _ hg => exact ⟨ps, hg⟩

theorem among_snoc {pos q : Pos} {c v : Value} : ∀ (l : List Value), TriplesOk l → codeAmong q (l ++ [rawInt pos.line, rawInt pos.col, c]) = some v →
    codeAmong q l = some v ∨ (codeAmong q l = none ∧ q.line = pos.line ∧ q.col = pos.col ∧ v = c)
  | [], _, e => by
    simp only [List.nil_append, codeAmong, rawInt] at e
    split at e
    · rename_i hb
      rw [Bool.and_eq_true, beq_iff_eq, beq_iff_eq] at hb
      cases e
      exact .inr ⟨rfl, by (first | lia | omega), by (first | lia | omega), rfl⟩
    · cases e
  | .int a t :: .int b u :: x :: r, ht, e => by
    simp only [List.cons_append, codeAmong] at e ⊢
    split at e
    · rename_i hb; rw [if_pos hb]; exact .inl e
    · rename_i hb; rw [if_neg hb]; exact among_snoc r ht e

theorem TabOk.grow {B h h' : Heap} {P₀ c' P' : Addr} {pos : Pos} {ps₀ : Array Value} (hk : Heap.ExtBut P₀ h h') (h0 : h.get? P₀ = some (tabObj ps₀))
    (h1 : h'.get? P₀ = some (tabObj (ps₀ ++ #[rawInt pos.line, rawInt pos.col, .ref c']))) (hr : h'.CodeRec (.ref c') (nm pos)) (hc : CodeHd h' c' P') (hP' : TabOk B h' P')
    {P : Addr} (x : TabOk B h P) : TabOk B h' P := by
  induction x with
  | @mk P ps cf pf hg hB ht he hs ih =>
    have hcode : ∀ q v, codeAmong q ps.toList = some v → cf q ≠ P₀ := fun q v e z => by
      obtain ⟨_, _, e3⟩ := he q v e
      obtain ⟨o', vs, _, _, _, _, _, _, _, e4, e5, _⟩ := id e3
      rw [z, h0] at e4
      cases e4
      cases e5
    have old : ∀ q v, codeAmong q ps.toList = some v → v = .ref (cf q) ∧ h'.CodeRec (.ref (cf q)) (nm q) ∧ CodeHd h' (cf q) (pf q) := fun q v e => by
      obtain ⟨e1, e2, e3⟩ := he q v e
      exact ⟨e1, codeRec_at e2 fun o => hk _ _ (hcode q v e), codeHd_at e3 fun o => hk _ _ (hcode q v e)⟩
    by_cases hP : P = P₀
    · subst hP
      rw [hg] at h0
      cases h0
      have hl : (ps₀ ++ #[rawInt pos.line, rawInt pos.col, Value.ref c']).toList = ps₀.toList ++ [rawInt pos.line, rawInt pos.col, .ref c'] := by simp
      refine .mk _ (fun q => if codeAmong q ps₀.toList = none then c' else cf q) (fun q => if codeAmong q ps₀.toList = none then P' else pf q) h1 hB (by rw [hl]; exact TriplesOk_snoc _ _ _ _ ht) (fun q v e => ?_) (fun q v e => ?_)
      · rw [hl] at e
        rcases among_snoc _ ht e with e9 | ⟨e9, hl9, hc9, rfl⟩
        · have hn : ¬ codeAmong q ps₀.toList = none := by rw [e9]; nofun
          rw [if_neg hn, if_neg hn]
          exact old q v e9
        · rw [if_pos e9, if_pos e9]
          have : nm q = nm pos := by unfold nm; rw [hl9, hc9]
          exact ⟨rfl, this ▸ hr, hc⟩
      · rw [hl] at e
        rcases among_snoc _ ht e with e9 | ⟨e9, _, _, rfl⟩
        · have hn : ¬ codeAmong q ps₀.toList = none := by rw [e9]; nofun
          rw [if_neg hn]
          exact ih q v e9
        · rw [if_pos e9]
          exact hP'
    · exact .mk ps cf pf (hk _ _ hP hg) hB ht old (fun pos v e => ih pos v e)

noncomputable abbrev Sub (B h : Heap) : Prop := ∀ b o, B.get? b = some o → h.get? b = some o

/-- an object that is no namespace -/
noncomputable def NoDict (o : Obj) : Prop := ∀ es ep, o.data ≠ .dict es ep
noncomputable def NoFld (o : Obj) : Prop := ∀ vs, o.data ≠ .fields vs
structure Ext (B : Heap) (X : List Addr) (h h' : Heap) : Prop where
  keep : ∀ b o, h.get? b = some o → b ∉ X → NotTab o → NoDict o → h'.get? b = some o
  nss : ∀ b m, h.Ns b m → b ∉ X → h'.Ns b m
  live : ∀ b o, h.get? b = some o → ∃ o', h'.get? b = some o' ∧ (NoFld o → NoFld o')
  dic : ∀ b m, h.Ns b m → ∃ m', h'.Ns b m'
  tabs : ∀ P, TabOk B h P → TabOk B h' P
  base : Sub B h → Sub B h'
theorem Ext.refl {B : Heap} {X : List Addr} {h : Heap} : Ext B X h h := ⟨fun _ _ e _ _ _ => e, fun _ _ e _ => e, fun _ o e => ⟨o, e, id⟩, fun _ m e => ⟨m, e⟩, fun _ x => x, fun x => x⟩
theorem Ext.trans {B : Heap} {X : List Addr} {h h' h'' : Heap} (x : Ext B X h h') (y : Ext B X h' h'') : Ext B X h h'' :=
  ⟨fun b o e n t d => y.keep b o (x.keep b o e n t d) n t d, fun b m e n => y.nss b m (x.nss b m e n) n, fun b o e => let ⟨_, e', f⟩ := x.live b o e; let ⟨_, e'', f'⟩ := y.live b _ e'; ⟨_, e'', fun z => f' (f z)⟩, fun b m e => let ⟨_, e'⟩ := x.dic b m e; y.dic b _ e', fun P t => y.tabs P (x.tabs P t), fun s => y.base (x.base s)⟩
theorem ns_keeps {h h' : Heap} {b : Addr} {m : Str → Option Value} (k : ∀ o, h.get? b = some o → h'.get? b = some o) (n : h.Ns b m) : h'.Ns b m := let ⟨o, es, ep, e, r⟩ := n; ⟨o, es, ep, k o e, r⟩
theorem Ext.keeps {B : Heap} {X : List Addr} {h h' : Heap} (k : ∀ b o, h.get? b = some o → h'.get? b = some o) : Ext B X h h' :=
  ⟨fun b o e _ _ _ => k b o e, fun b m e _ => ns_keeps (fun o => k b o) e, fun b o e => ⟨o, k b o e, id⟩, fun b m e => ⟨m, ns_keeps (fun o => k b o) e⟩, fun _ x => x.keeps k, fun s b o e => k b o (s b o e)⟩
theorem Ext.fresh {B : Heap} {X : List Addr} {h h' : Heap} {b : Addr} (x : Ext B X h h') (e : h'.get? b = none) : h.get? b = none := by
  cases q : h.get? b with
  | none => rfl
  | some o => obtain ⟨o', e', _⟩ := x.live b o q; rw [e] at e'; cases e'
theorem Ext.mono {B : Heap} {X Y : List Addr} {h h' : Heap} (x : Ext B X h h') (s : ∀ b ∈ X, b ∈ Y) : Ext B Y h h' := ⟨fun b o e n t d => x.keep b o e (fun q => n (s b q)) t d, fun b m e n => x.nss b m e fun q => n (s b q), x.live, x.dic, x.tabs, x.base⟩
theorem Ext.frames {B : Heap} {X : List Addr} {h h' : Heap} (x : Ext B X h h') : ∀ {l : List Env}, h.FunFrames B l → h'.FunFrames B l
  | [], _ => trivial
  | env :: rest, ⟨hk, ⟨L, o, hf, hn, ho, hd⟩, hr⟩ => let ⟨o', e', f⟩ := x.live L o ho; ⟨hk, ⟨L, o', hf, hn, e', f hd⟩, x.frames hr⟩

set_option genCtorIdx false in
inductive K where
  | lst (xs : List Value)
  | cell (v : Option Value)
  | it (l : Addr) (i : Nat)
  | rit (x left step : Int)
  | tup (xs : List Value)
  | ns (l : List (Str × Value))
  | ob (o : Obj)
noncomputable def K.at (h : Heap) (a : Addr) : K → Prop
  | .lst xs => h.PlainList a xs.toArray
  | .cell v => h.IsCell a v
  | .it l i => h.IsListIter a l i
  | .rit x l s => IsRangeIter h a x l s
  | .tup xs => h.get? a = some { cls := .type "tuple", data := .seq xs.toArray }
  | .ns l => h.Ns a (fun y => l.lookup y)
  | .ob o => h.get? a = some o ∧ Soft o ∧ NoDict o
noncomputable def K.sim : K → K → Prop
  | .lst _, .lst _ | .cell _, .cell _ | .it _ _, .it _ _ | .rit _ _ _, .rit _ _ _ | .tup _, .tup _ | .ns _, .ns _ => True
  | .ob o, .ob o' => NoFld o → NoFld o'
  | _, _ => False
theorem K.soft {h : Heap} {a : Addr} : ∀ {k : K}, k.at h a → ∃ o, h.get? a = some o ∧ Soft o
  | .lst _, ⟨_, e⟩ => ⟨_, e, .inl nofun⟩
  | .cell _, ⟨o, e, d⟩ => ⟨o, e, .inl (by rw [d]; nofun)⟩
  | .it _ _, ⟨o, e, c, _⟩ => ⟨o, e, .inr ⟨_, c, by decide⟩⟩
  | .rit _ _ _, e => ⟨_, e, .inr ⟨_, rfl, by decide⟩⟩
  | .tup _, e => ⟨_, e, .inr ⟨_, rfl, by decide⟩⟩
  | .ns _, ⟨o, _, _, e, d, _⟩ => ⟨o, e, .inl (by rw [d]; nofun)⟩
  | .ob _, ⟨e, s, _⟩ => ⟨_, e, s⟩
theorem K.same {h h' : Heap} {a : Addr} (k : ∀ o, h.get? a = some o → h'.get? a = some o) : ∀ {x : K}, x.at h a → x.at h' a
  | .lst _, ⟨n, e⟩ => ⟨n, k _ e⟩
  | .cell _, ⟨o, e, d⟩ => ⟨o, k _ e, d⟩
  | .it _ _, ⟨o, e, c⟩ => ⟨o, k _ e, c⟩
  | .rit _ _ _, e => k _ e
  | .tup _, e => k _ e
  | .ns _, ⟨o, es, ep, e, r⟩ => ⟨o, es, ep, k _ e, r⟩
  | .ob _, ⟨e, s⟩ => ⟨k _ e, s⟩
theorem K.ext {B : Heap} {X : List Addr} {h h' : Heap} {a : Addr} (x : Ext B X h h') (n : a ∉ X) : ∀ {k : K}, k.at h a → k.at h' a
  | .lst _, ⟨c, e⟩ => ⟨c, x.keep _ _ e n (.inr nofun) nofun⟩
  | .cell _, ⟨o, e, d⟩ => ⟨o, x.keep _ _ e n (.inr (by rw [d]; nofun)) (fun _ _ => by rw [d]; nofun), d⟩
  | .it _ _, ⟨o, e, c, d⟩ => ⟨o, x.keep _ _ e n (.inl (by rw [c]; nofun)) (fun _ _ => by rw [d]; nofun), c, d⟩
  | .rit _ _ _, e => x.keep _ _ e n (.inl nofun) nofun
  | .tup _, e => x.keep _ _ e n (.inl nofun) nofun
  | .ns _, e => x.nss _ _ e n
  | .ob _, ⟨e, s, d⟩ => ⟨x.keep _ _ e n s.notTab d, s, d⟩
/-- the data's kind stays -/
theorem K.fld {h h' : Heap} {a : Addr} {k k' : K} (z : k.sim k') (x : k.at h a) (y : k'.at h' a) : ∃ o o', h.get? a = some o ∧ h'.get? a = some o' ∧ (NoFld o → NoFld o') := by
  cases k <;> cases k' <;> first | exact z.elim | skip
  · obtain ⟨_, e⟩ := x; obtain ⟨_, e'⟩ := y; exact ⟨_, _, e, e', fun _ => nofun⟩
  · obtain ⟨_, e, d⟩ := x; obtain ⟨_, e', d'⟩ := y; exact ⟨_, _, e, e', fun _ _ => by rw [d']; nofun⟩
  · obtain ⟨_, e, c, d⟩ := x; obtain ⟨_, e', c', d'⟩ := y; exact ⟨_, _, e, e', fun z => absurd d (z _)⟩
  · exact ⟨_, _, x, y, fun z => absurd rfl (z _)⟩
  · exact ⟨_, _, x, y, fun _ => nofun⟩
  · obtain ⟨_, _, _, e, d, _⟩ := x; obtain ⟨_, _, _, e', d', _⟩ := y; exact ⟨_, _, e, e', fun _ _ => by rw [d']; nofun⟩
  · obtain ⟨e, _⟩ := x; obtain ⟨e', _⟩ := y; exact ⟨_, _, e, e', z⟩

theorem K.dic {h h' : Heap} {a : Addr} {k k' : K} {m : Str → Option Value} (z : k.sim k') (x : k.at h a) (y : k'.at h' a) (n : h.Ns a m) : ∃ m', h'.Ns a m' := by
  obtain ⟨o, es, ep, e, d, _⟩ := n
  cases k <;> cases k' <;> first | exact z.elim | skip
  · obtain ⟨_, e1⟩ := x; rw [e] at e1; cases e1; cases d
  · obtain ⟨_, e1, d1⟩ := x; rw [e] at e1; cases e1; rw [d] at d1; cases d1
  · obtain ⟨_, e1, _, d1⟩ := x; rw [e] at e1; cases e1; rw [d] at d1; cases d1
  · have e1 : h.get? a = _ := x; rw [e] at e1; cases e1; cases d
  · have e1 : h.get? a = _ := x; rw [e] at e1; cases e1; cases d
  · exact ⟨_, y⟩
  · obtain ⟨e1, _, d1⟩ := x; rw [e] at e1; cases e1; exact absurd d (d1 _ _)

structure Bs where
  B : Heap
  fa : Str → Addr
  ts : List Addr
  mg : Str → Option Value
  mb : Str → Option Value

/-- a heap over the base -/
structure Ok (b : Bs) (h : Heap) : Prop where
  sub : Sub b.B h
  tabs : ∀ P ∈ b.ts, TabOk b.B h P
theorem Ok.ext {b : Bs} {X : List Addr} {h h' : Heap} (x : Ok b h) (e : Ext b.B X h h') : Ok b h' := ⟨e.base x.sub, fun P hP => e.tabs P (x.tabs P hP)⟩

/-- a frame's state: h₀ the heap at its start; X what of h₀ it may turn; fz what it knows of h₀ that stays; L its locals, ob what else it knows -/
structure St (b : Bs) (h₀ : Heap) (X : List Addr) (fz : List (Addr × K)) (L : Addr) (l : List (Str × Value)) (ob : List (Addr × K)) (h : Heap) : Prop where
  ok₀ : Ok b h₀
  ext : Ext b.B X h₀ h
  xb : ∀ x ∈ X, b.B.get? x = none
  fz : ∀ p ∈ fz, p.2.at h₀ p.1 ∧ p.1 ∉ X
  ns : h.Ns L (fun y => l.lookup y)
  new : h₀.get? L = none
  obs : ∀ p ∈ ob, p.2.at h p.1
  obn : ∀ p ∈ ob, h₀.get? p.1 = none ∨ p.1 ∈ X
  nd : (L :: ob.map (·.1)).Nodup
theorem St.ok {b : Bs} {h₀ : Heap} {X : List Addr} {fz : List (Addr × K)} {L : Addr} {l : List (Str × Value)} {ob : List (Addr × K)} {h : Heap} (S : St b h₀ X fz L l ob h) : Ok b h := S.ok₀.ext S.ext

theorem Ext.ofBut {b : Bs} {h h' : Heap} {a : Addr} {k k' : K} (e : Heap.ExtBut a h h') (hk : k.at h a) (hk' : k'.at h' a) (hB : b.B.get? a = none) (hs : k.sim k' := by trivial) : Ext b.B [a] h h' := by
  obtain ⟨o, ho, so⟩ := K.soft hk
  obtain ⟨o1, o', ho1, ho', fl⟩ := K.fld hs hk hk'
  rw [ho] at ho1; cases ho1
  refine ⟨fun c oc ec n _ _ => e c oc (fun q => n (by rw [q]; exact List.mem_singleton_self _)) ec, fun c m ec n => ns_keeps (fun oc => e c oc (fun q => n (by rw [q]; exact List.mem_singleton_self _))) ec, fun c oc ec => ?_, fun c m ec => ?_, fun P x => x.but (fun d od nd ed => e d od nd ed) (fun o2 e2 => by rw [ho] at e2; cases e2; exact so), fun s c oc ec => ?_⟩
  · by_cases q : c = a
    · subst q; rw [ho] at ec; cases ec; exact ⟨_, ho', fl⟩
    · exact ⟨_, e c oc q ec, id⟩
  · by_cases q : c = a
    · subst q; exact K.dic hs hk hk' ec
    · exact ⟨m, ns_keeps (fun oc => e c oc q) ec⟩
  · exact e c oc (fun q => by rw [q, hB] at ec; cases ec) (s c oc ec)

section
variable {b : Bs} {h₀ : Heap} {X : List Addr} {fz : List (Addr × K)} {L : Addr} {l : List (Str × Value)} {ob : List (Addr × K)} {h h' : Heap} {a : Addr} {k k' : K} {i : Nat}
theorem St.noB (S : St b h₀ X fz L l ob h) (hp : (a, k) ∈ ob) : b.B.get? a = none := by
  rcases S.obn _ hp with e | e
  · cases q : b.B.get? a with
    | none => rfl
    | some o => have := S.ok₀.sub _ _ q; rw [this] at e; cases e
  · exact S.xb _ e
theorem St.noBL (S : St b h₀ X fz L l ob h) : b.B.get? L = none := by
  cases q : b.B.get? L with
  | none => rfl
  | some o => have := S.ok₀.sub _ _ q; rw [S.new] at this; cases this
theorem St.neL (S : St b h₀ X fz L l ob h) (hp : (a, k) ∈ ob) : a ≠ L := fun q => (List.nodup_cons.mp S.nd).1 (by rw [← q]; exact List.mem_map_of_mem hp)
theorem ext_new {Y : List Addr} (x : Ext b.B X h₀ h) (e : Ext b.B Y h h') (n : ∀ y ∈ Y, h₀.get? y = none ∨ y ∈ X) : Ext b.B X h₀ h' := by
  refine ⟨fun c o ec nx t d => ?_, fun c m ec nx => ?_, fun c o ec => ?_, fun c m ec => let ⟨_, e'⟩ := x.dic c m ec; e.dic c _ e', fun P q => e.tabs P (x.tabs P q), fun s => e.base (x.base s)⟩
  · refine e.keep c o (x.keep c o ec nx t d) (fun q => ?_) t d
    rcases n c q with z | z
    · rw [ec] at z; cases z
    · exact nx z
  · refine e.nss c m (x.nss c m ec nx) (fun q => ?_)
    rcases n c q with z | z
    · obtain ⟨_, _, _, ec, _⟩ := ec; rw [ec] at z; cases z
    · exact nx z
  · obtain ⟨o', e', f⟩ := x.live c o ec
    obtain ⟨o'', e'', f'⟩ := e.live c o' e'
    exact ⟨o'', e'', fun z => f' (f z)⟩
theorem lookup_cons' {x : Str} {v : Value} {l : List (Str × Value)} : (fun y => if y = x then some v else l.lookup y) = fun y => List.lookup y ((x, v) :: l) := by
  funext y
  rw [List.lookup_cons]
  by_cases q : y = x
  · rw [if_pos q, q]; simp
  · rw [if_neg q]
    have : (y == x) = false := by simpa using q
    rw [this]
theorem St.store (S : St b h₀ X fz L l ob h) {x : Str} {v : Value} (hs : Heap.SameBut L h h') (hn : h'.Ns L (fun y => if y = x then some v else l.lookup y)) : St b h₀ X fz L ((x, v) :: l) ob h' where
  ok₀ := S.ok₀
  ext := by
    exact ext_new S.ext (Ext.ofBut (k := .ns l) (k' := .ns ((x, v) :: l)) hs.extBut S.ns (show h'.Ns L _ from by rw [← lookup_cons']; exact hn) S.noBL) fun y hy => by
      rw [List.mem_singleton] at hy; rw [hy]; exact .inl S.new
  xb := S.xb
  fz := S.fz
  ns := by rw [← lookup_cons']; exact hn
  new := S.new
  obs := fun p hp => K.same (fun o e => hs.extBut _ _ (S.neL hp) e) (S.obs p hp)
  obn := S.obn
  nd := S.nd
theorem St.toks (S : St b h₀ X fz L l ob h) : St b h₀ X fz L l ob h := S
theorem St.ext0 (S : St b h₀ X fz L l ob h) (e : Ext b.B [] h h') : St b h₀ X fz L l ob h' where
  ok₀ := S.ok₀
  ext := ext_new S.ext e fun _ hy => nomatch hy
  xb := S.xb
  fz := S.fz
  ns := e.nss _ _ S.ns List.not_mem_nil
  new := S.new
  obs := fun p hp => K.ext e List.not_mem_nil (S.obs p hp)
  obn := S.obn
  nd := S.nd
theorem St.keeps (S : St b h₀ X fz L l ob h) (k : ∀ b o, h.get? b = some o → h'.get? b = some o) : St b h₀ X fz L l ob h' := S.ext0 (.keeps k)
theorem St.ne (S : St b h₀ X fz L l ob h) (hi : ob[i]? = some (a, k)) {p : Addr × K} (hp : p ∈ ob.set i (a, k')) : p = (a, k') ∨ (p ∈ ob ∧ p.1 ≠ a) := by
  have nd := (List.nodup_cons.mp S.nd).2
  obtain ⟨j, hj, rfl⟩ := List.getElem_of_mem hp
  rw [List.length_set] at hj
  by_cases q : i = j
  · subst q; left; rw [List.getElem_set_self]
  · right
    rw [List.getElem_set_ne q]
    refine ⟨List.getElem_mem hj, fun z => q ?_⟩
    obtain ⟨hi', e⟩ := List.getElem?_eq_some_iff.mp hi
    have := (List.getElem_inj (i := i) (j := j) (xs := ob.map (·.1)) (h₀ := by simpa using hi') (h₁ := by simpa using hj) nd).mp (by simp only [List.getElem_map]; rw [e, z])
    exact this
theorem St.updX (S : St b h₀ X fz L l ob h) (hi : ob[i]? = some (a, k)) (e : Ext b.B [a] h h') (hk : k'.at h' a) : St b h₀ X fz L l (ob.set i (a, k')) h' where
  ok₀ := S.ok₀
  ext := ext_new S.ext e fun y hy => by
    rw [List.mem_singleton] at hy
    rw [hy]
    exact S.obn _ (List.mem_of_getElem? hi)
  xb := S.xb
  fz := S.fz
  ns := e.nss _ _ S.ns (fun q => S.neL (List.mem_of_getElem? hi) (List.mem_singleton.mp q).symm)
  new := S.new
  obs := fun p hp => by
    rcases S.ne hi hp with rfl | ⟨h1, h2⟩
    · exact hk
    · exact K.ext e (fun q => h2 (List.mem_singleton.mp q)) (S.obs p h1)
  obn := fun p hp => by
    rcases S.ne hi hp with rfl | ⟨h1, h2⟩
    · exact S.obn (a, k) (List.mem_of_getElem? hi)
    · exact S.obn _ h1
  nd := by
    have : (ob.set i (a, k')).map (·.1) = ob.map (·.1) := by
      rw [List.map_set]
      obtain ⟨hi', e⟩ := List.getElem?_eq_some_iff.mp hi
      refine List.ext_getElem (by simp) fun j h1 h2 => ?_
      rw [List.getElem_set]
      split
      · rename_i q; subst q; rw [List.getElem_map, e]
      · rfl
    rw [this]; exact S.nd
theorem St.upd (S : St b h₀ X fz L l ob h) (hi : ob[i]? = some (a, k)) (e : Heap.ExtBut a h h') (hk : k'.at h' a) (hs : k.sim k' := by trivial) : St b h₀ X fz L l (ob.set i (a, k')) h' :=
  S.updX hi (Ext.ofBut e (S.obs _ (List.mem_of_getElem? hi)) hk (S.noB (k := k) (List.mem_of_getElem? hi)) hs) hk
theorem St.add (S : St b h₀ X fz L l ob h) (e : Ext b.B [] h h') (hf : h.get? a = none) (hk : k.at h' a) : St b h₀ X fz L l ((a, k) :: ob) h' :=
  have S' := S.ext0 e
  { ok₀ := S'.ok₀, ext := S'.ext, xb := S'.xb, fz := S'.fz, ns := S'.ns, new := S'.new
    obs := fun p hp => by
      rcases List.mem_cons.mp hp with rfl | hp
      · exact hk
      · exact S'.obs p hp
    obn := fun p hp => by
      rcases List.mem_cons.mp hp with rfl | hp
      · exact .inl (S.ext.fresh hf)
      · exact S.obn p hp
    nd := by
      have n1 : a ≠ L := fun q => by obtain ⟨o, _, _, e1, _⟩ := S.ns; rw [← q, hf] at e1; cases e1
      have n2 : a ∉ ob.map (·.1) := fun q => by
        obtain ⟨p, hp, rfl⟩ := List.mem_map.mp q
        obtain ⟨o, e1, _⟩ := K.soft (S.obs p hp)
        rw [hf] at e1; cases e1
      have nd := List.nodup_cons.mp S.nd
      refine List.nodup_cons.mpr ⟨fun q => ?_, List.nodup_cons.mpr ⟨n2, nd.2⟩⟩
      rcases List.mem_cons.mp q with q | q
      · exact n1 q.symm
      · exact nd.1 q }
theorem St.push (S : St b h₀ X fz L l ob h) (o : Obj) (ho : o.isFreed = false) (s : Soft o) (d : NoDict o := by nofun) : St b h₀ X fz L l ((h.objs.size, .ob o) :: ob) (h.push o) :=
  S.add (.keeps fun _ _ e => Heap.get?_push_of_some _ e) (Heap.get?_none_of_le (Nat.le_refl _)) ⟨Heap.get?_push_size _ ho, s, d⟩
theorem St.drop {p : Addr × K} (S : St b h₀ X fz L l (p :: ob) h) : St b h₀ X fz L l ob h :=
  { ok₀ := S.ok₀, ext := S.ext, xb := S.xb, fz := S.fz, ns := S.ns, new := S.new, obs := fun q hq => S.obs q (.tail _ hq), obn := fun q hq => S.obn q (.tail _ hq)
    nd := by
      have nd := List.nodup_cons.mp S.nd
      exact List.nodup_cons.mpr ⟨fun q => nd.1 (.tail _ q), (List.nodup_cons.mp nd.2).2⟩ }
/-- an object of the frame's own that may be gone -/
theorem St.dropBut (S : St b h₀ X fz L l ((a, k) :: ob) h) (hn : h₀.get? a = none) (e : Heap.ExtBut a h h') : St b h₀ X fz L l ob h' := by
  obtain ⟨o, ho, so⟩ := K.soft (S.obs _ (.head _))
  have nd := List.nodup_cons.mp S.nd
  have hB : b.B.get? a = none := S.noB (.head _)
  have ne : ∀ p ∈ ob, p.1 ≠ a := fun p hp q => (List.nodup_cons.mp nd.2).1 (by show a ∈ _; rw [← q]; exact List.mem_map_of_mem hp)
  exact { ok₀ := S.ok₀
          ext := ⟨fun c oc ec nx t d => e c oc (fun q => by rw [q, hn] at ec; cases ec) (S.ext.keep c oc ec nx t d),
            fun c m ec nx => ns_keeps (fun oc => e c oc (fun q => by obtain ⟨_, _, _, ec, _⟩ := ec; rw [q, hn] at ec; cases ec)) (S.ext.nss c m ec nx), fun c oc ec => by
              obtain ⟨o', e', f⟩ := S.ext.live c oc ec
              exact ⟨o', e c o' (fun q => by rw [q, hn] at ec; cases ec) e', f⟩,
            fun c m ec => let ⟨m', e'⟩ := S.ext.dic c m ec; ⟨m', ns_keeps (fun oc => e c oc (fun q => by obtain ⟨_, _, _, ec, _⟩ := ec; rw [q, hn] at ec; cases ec)) e'⟩,
            fun P t => (S.ext.tabs P t).but (fun d od nd ed => e d od nd ed) (fun o2 e2 => by rw [ho] at e2; cases e2; exact so),
            fun s c oc ec => e c oc (fun q => by rw [q, hB] at ec; cases ec) (S.ext.base s c oc ec)⟩
          xb := S.xb, fz := S.fz
          ns := let ⟨o, es, ep, e1, r⟩ := S.ns; ⟨o, es, ep, e _ _ (S.neL (.head _)).symm e1, r⟩
          new := S.new
          obs := fun p hp => K.same (fun o e1 => e _ _ (ne p hp) e1) (S.obs p (.tail _ hp))
          obn := fun p hp => S.obn p (.tail _ hp)
          nd := List.nodup_cons.mpr ⟨fun q => nd.1 (.tail _ q), (List.nodup_cons.mp nd.2).2⟩ }
/-- another namespace is the frame's -/
theorem St.swap {C : Addr} {m : List (Str × Value)} (S : St b h₀ X fz L l ((C, .ns m) :: ob) h) (hn : h₀.get? C = none) : St b h₀ X fz C m ((L, .ns l) :: ob) h :=
  { ok₀ := S.ok₀, ext := S.ext, xb := S.xb, fz := S.fz, ns := S.obs _ (.head _), new := hn
    obs := fun p hp => by
      rcases List.mem_cons.mp hp with rfl | hp
      · exact S.ns
      · exact S.obs p (.tail _ hp)
    obn := fun p hp => by
      rcases List.mem_cons.mp hp with rfl | hp
      · exact .inl S.new
      · exact S.obn p (.tail _ hp)
    nd := by
      have n1 := List.nodup_cons.mp S.nd
      have n2 := List.nodup_cons.mp n1.2
      refine List.nodup_cons.mpr ⟨fun q => ?_, List.nodup_cons.mpr ⟨fun q => n1.1 (.tail _ q), n2.2⟩⟩
      rcases List.mem_cons.mp q with q | q
      · have q : C = L := q
        exact n1.1 (by subst q; exact List.mem_map_of_mem (.head _))
      · exact n2.1 q }
theorem St.fzAt (S : St b h₀ X fz L l ob h) {k : K} (hp : (a, k) ∈ fz) : k.at h a := K.ext S.ext (S.fz _ hp).2 (S.fz _ hp).1
/-- an older object that none may turn -/
theorem St.old (S : St b h₀ X fz L l ob h) {o : Obj} (e : h₀.get? a = some o) (n : a ∉ X) (t : NotTab o) (d : NoDict o) : h.get? a = some o := S.ext.keep a o e n t d
end
end J

namespace J

/-- t, from the heap h: it ends in v, h' with Q v h', or raises e with E e h' -/
noncomputable def W (prog : Program) (w : World) (A : Around) {α : Type} (t : Sem α) (Q : α → Heap → Prop) (E : Value → Heap → Prop) (h : Heap) : Prop :=
  ∀ (s : Shared) (Q' : α → Shared → Prop) (E' : Value → Shared → Prop), s.heap = h → (∀ v h' tk, Q v h' → Q' v { s with heap := h', toks := tk }) →
    (∀ v h' tk, E v h' → E' v { s with heap := h', toks := tk }) → wpAny (model prog w) A t Q' E' s
/-- the same of a code -/
noncomputable def WC (prog : Program) (w : World) (A : Around) (c : Code) (Q : Flow → Heap → Prop) (E : Value → Heap → Prop) (h : Heap) : Prop :=
  ∀ (s : Shared) (R : Result → Shared → Prop), s.heap = h → (∀ v h' tk, Q v h' → R (.ok v) { s with heap := h', toks := tk }) →
    (∀ v h' tk, E v h' → R (.error v) { s with heap := h', toks := tk }) → codeAny (model prog w) A c R s

section
variable {prog : Program} {w : World} {A : Around} {α β : Type} {Q : α → Heap → Prop} {E : Value → Heap → Prop} {h : Heap}
theorem W.mono {Q₂ : α → Heap → Prop} {E₂ : Value → Heap → Prop} {t : Sem α} (x : W prog w A t Q E h) (hq : ∀ v h, Q v h → Q₂ v h) (he : ∀ v h, E v h → E₂ v h) : W prog w A t Q₂ E₂ h :=
  fun s Q' E' e q r => x s Q' E' e (fun v h' tk y => q v h' tk (hq _ _ y)) (fun v h' tk y => r v h' tk (he _ _ y))
theorem W.pure {a : α} (x : Q a h) : W prog w A (pure a : Sem α) Q E h := fun s Q' E' e q _ => wpAny_pure (by have := q a h s.toks x; subst e; exact this)
theorem W.bind {m : Sem β} {f : β → Sem α} (x : W prog w A m (fun a h' => W prog w A (f a) Q E h') E h) : W prog w A (m >>= f) Q E h :=
  fun s Q' E' e q r => wpAny_bind (x s _ E' e (fun a h' tk y => y _ Q' E' rfl (fun v h₂ t₂ z => q v h₂ t₂ z) (fun v h₂ t₂ z => r v h₂ t₂ z)) r)
theorem W.of_eq {t t' : Sem α} (e : t = t') (x : W prog w A t' Q E h) : W prog w A t Q E h := e ▸ x
/-- a rule of the library that asks for no heap -/
theorem W.of {t : Sem α} (x : ∀ (s : Shared) (Q' : α → Shared → Prop) (E' : Value → Shared → Prop), s.heap = h → (∀ v h' tk, Q v h' → Q' v { s with heap := h', toks := tk }) → wpAny (model prog w) A t Q' E' s) : W prog w A t Q E h :=
  fun s Q' E' e q _ => x s Q' E' e q
theorem WC.mono {c : Code} {Q Q₂ : Flow → Heap → Prop} {E₂ : Value → Heap → Prop} (x : WC prog w A c Q E h) (hq : ∀ v h, Q v h → Q₂ v h) (he : ∀ v h, E v h → E₂ v h) : WC prog w A c Q₂ E₂ h :=
  fun s R e q r => x s R e (fun v h' tk y => q v h' tk (hq _ _ y)) (fun v h' tk y => r v h' tk (he _ _ y))
end

/-! continuations -/
noncomputable def iteK (b : Bool) (p q : Prop) : Prop := (b = true → p) ∧ (b = false → q)
section
variable {p q : Prop} {c : Prop} [Decidable c] {b : Bool}
theorem iteK.tt (x : p) : iteK true p q := ⟨fun _ => x, nofun⟩
theorem iteK.ff (x : q) : iteK false p q := ⟨nofun, fun _ => x⟩
theorem iteK.dec (x : c → p) (y : ¬ c → q) : iteK (decide c) p q := ⟨fun e => x (of_decide_eq_true e), fun e => y (of_decide_eq_false e)⟩
theorem iteK.not (x : iteK b q p) : iteK (!b) p q := ⟨fun e => x.2 (by cases b <;> simp_all), fun e => x.1 (by cases b <;> simp_all)⟩
theorem iteK.beqI {a c : Int} (x : a = c → p) (y : a ≠ c → q) : iteK (a == c) p q := ⟨fun e => x (beq_iff_eq.mp e), fun e => y (by simpa using e)⟩
theorem iteK.bneI {a c : Int} (x : a ≠ c → p) (y : a = c → q) : iteK (a != c) p q := ⟨fun e => x (by simpa using e), fun e => y (by simpa using e)⟩
theorem iteK.any (x : b = true → p) (y : b = false → q) : iteK b p q := ⟨x, y⟩
theorem iteK.if (x : iteK b p q) : if b = true then p else q := by cases b; exact x.2 rfl; exact x.1 rfl
end
noncomputable def seqK (prog : Program) (w : World) (A : Around) (rest : List Stmt) (env : Env) (Q : Flow → Heap → Prop) (E : Value → Heap → Prop) (f : Flow) (h : Heap) : Prop :=
  match f with | .next => W prog w A (execs rest env) Q E h | f => Q f h
noncomputable def retK (Q : Value → Heap → Prop) (f : Flow) (h : Heap) : Prop := Q (match f with | .ret v => v | _ => .none) h

section
variable {prog : Program} {w : World} {A : Around} {E : Value → Heap → Prop} {h : Heap} {env : Env}
section
variable {Q : Flow → Heap → Prop} {rest : List Stmt} {v : Value}
theorem seqK.next (x : W prog w A (execs rest env) Q E h) : seqK prog w A rest env Q E .next h := x
theorem seqK.ret (x : Q (.ret v) h) : seqK prog w A rest env Q E (.ret v) h := x
theorem seqK.brk (x : Q .brk h) : seqK prog w A rest env Q E .brk h := x
theorem seqK.cont (x : Q .cont h) : seqK prog w A rest env Q E .cont h := x
end
section
variable {Q : Value → Heap → Prop} {v : Value}
theorem retK.ret (x : Q v h) : retK Q (.ret v) h := x
theorem retK.next (x : Q .none h) : retK Q .next h := x
end

/-! statements -/
section
variable {Q : Flow → Heap → Prop}
theorem W.nil (x : Q .next h) : W prog w A (execs [] env) Q E h := W.pure x
theorem W.cons {st : Stmt} {rest : List Stmt} (x : W prog w A (exec st env) (seqK prog w A rest env Q E) E h) : W prog w A (execs (st :: rest) env) Q E h :=
  fun s Q' E' e q r => wpAny_execs_cons (x s _ E' e (fun f h' tk y => by
    cases f with
    | next => exact (show W prog w A (execs rest env) Q E h' from y) _ Q' E' rfl (fun v h₂ t₂ z => q v h₂ t₂ z) (fun v h₂ t₂ z => r v h₂ t₂ z)
    | _ => exact q _ _ _ y) r)
theorem W.if {test : Expr} {body orelse : List Stmt} {pos : Pos} (x : W prog w A (isTrue test env (eval test env)) (fun b h₂ => iteK b (W prog w A (execs body env) Q E h₂) (W prog w A (execs orelse env) Q E h₂)) E h) :
    W prog w A (exec (.If test body orelse pos) env) Q E h :=
  fun s Q' E' e q r => wpAny_If (x s _ E' e (fun b h' tk y => by
    cases b with
    | true => exact y.1 rfl _ Q' E' rfl (fun v h₂ t₂ z => q v h₂ t₂ z) (fun v h₂ t₂ z => r v h₂ t₂ z)
    | false => exact y.2 rfl _ Q' E' rfl (fun v h₂ t₂ z => q v h₂ t₂ z) (fun v h₂ t₂ z => r v h₂ t₂ z)) r)
theorem W.return {e : Expr} {pos : Pos} (x : W prog w A (eval e env) (fun v => Q (.ret v)) E h) : W prog w A (exec (.Return (some e) pos) env) Q E h :=
  fun s Q' E' e q r => wpAny_Return_some (x s _ E' e (fun v h' tk y => q _ h' tk y) r)
theorem W.assign {x : Str} {p pos : Pos} {value : Expr} (k : W prog w A (eval value env) (fun v h₁ => W prog w A (storeName env x v) (fun _ => Q .next) E h₁) E h)
    (hs : swapsWith value (some (.Name x p)) pos.line env = Pure.pure false := by rfl) : W prog w A (exec (.Assign [.Name x p] value pos) env) Q E h :=
  fun s Q' E' e q r => wpAny_Assign_Name (k s _ E' e (fun v h' tk y => y _ _ E' rfl (fun _ h₂ t₂ z => q _ h₂ t₂ z) (fun v h₂ t₂ z => r v h₂ t₂ z)) r) hs
theorem W.aug {x : Str} {p pos : Pos} {op : Operator} {value : Expr} (k : W prog w A (loadName env x) (fun old h₁ => W prog w A (eval value env) (fun v h₂ => W prog w A (inplaceOp op old v)
    (fun u h₃ => W prog w A (storeName env x u) (fun _ => Q .next) E h₃) E h₂) E h₁) E h) : W prog w A (exec (.AugAssign (.Name x p) op value pos) env) Q E h :=
  fun s Q' E' e q r => wpAny_AugAssign_Name (k s _ E' e (fun old h₁ t₁ y => y _ _ E' rfl (fun v h₂ t₂ y => y _ _ E' rfl (fun u h₃ t₃ y => y _ _ E' rfl (fun _ h₄ t₄ z => q _ h₄ t₄ z)
    (fun v h₂ t₂ z => r v h₂ t₂ z)) (fun v h₂ t₂ z => r v h₂ t₂ z)) (fun v h₂ t₂ z => r v h₂ t₂ z)) r)
theorem W.assert {test : Expr} {msg : Option Expr} {pos : Pos} (x : W prog w A (isTrue test env (eval test env)) (fun b h₂ => b = true ∧ Q .next h₂) E h) : W prog w A (exec (.Assert test msg pos) env) Q E h :=
  fun s Q' E' e q r => wpAny_Assert_holds (x s _ E' e (fun _ h' tk y => ⟨y.1, q _ h' tk y.2⟩) r)
theorem W.expr {e : Expr} {pos : Pos} (x : W prog w A (eval e env) (fun _ => Q .next) E h) (hi : interactive env = false := by rfl) (hs : swapsWith e none pos.line env = Pure.pure false := by rfl) :
    W prog w A (exec (.Expr e pos) env) Q E h :=
  fun s Q' E' ee q r => wpAny_Expr_any (x s _ E' ee (fun _ h' tk y => q _ h' tk y) r) hi hs
end

/-! expressions -/
section
variable {Q : Value → Heap → Prop}
theorem W.cint {i : Int} {k : Nat} {pos : Pos} (x : ∀ t, Q (.int i t) h) : W prog w A (eval (.Constant (.int i) k pos) env) Q E h :=
  fun s _ _ e q _ => wpAny_Constant_int (q _ _ _ (e ▸ x s.toks))
theorem W.cstr {i : Str} {k : Nat} {pos : Pos} (x : ∀ t, Q (.str i t) h) : W prog w A (eval (.Constant (.str i) k pos) env) Q E h :=
  fun s _ _ e q _ => wpAny_Constant_str (q _ _ _ (e ▸ x s.toks))
theorem W.cbool {i : Bool} {k : Nat} {pos : Pos} (x : Q (.bool i) h) : W prog w A (eval (.Constant (.bool i) k pos) env) Q E h :=
  fun s _ _ e q _ => wpAny_Constant_bool (q _ _ s.toks (e ▸ x))
theorem W.cnone {k : Nat} {pos : Pos} (x : Q .none h) : W prog w A (eval (.Constant .none k pos) env) Q E h :=
  fun s _ _ e q _ => wpAny_Constant_none (q _ _ s.toks (e ▸ x))
theorem W.cbytes {i : List Nat} {k : Nat} {pos : Pos} : True := trivial
theorem W.binop {l r : Expr} {op : Operator} {pos : Pos} (x : W prog w A (eval l env) (fun a h₁ => W prog w A (eval r env) (fun c h₂ => W prog w A (binaryOp op a c) Q E h₂) E h₁) E h) : W prog w A (eval (.BinOp l op r pos) env) Q E h :=
  fun s Q' E' e q r => wpAny_BinOp (x s _ E' e (fun a h₁ t₁ y => y _ _ E' rfl (fun c h₂ t₂ y => y _ Q' E' rfl (fun v h₃ t₃ z => q v h₃ t₃ z) (fun v h₃ t₃ z => r v h₃ t₃ z)) (fun v h₃ t₃ z => r v h₃ t₃ z)) r)
theorem W.unop {y : Expr} {op : UnaryOp} {pos : Pos} (x : W prog w A (eval y env) (fun a h₁ => W prog w A (unaryOp op a) Q E h₁) E h) : W prog w A (eval (.UnaryOp op y pos) env) Q E h :=
  fun s Q' E' e q r => wpAny_UnaryOp (x s _ E' e (fun a h₁ t₁ y => y _ Q' E' rfl (fun v h₃ t₃ z => q v h₃ t₃ z) (fun v h₃ t₃ z => r v h₃ t₃ z)) r)
theorem W.compare {l r : Expr} {op : CmpOp} {pos : Pos} (x : W prog w A (eval l env) (fun a h₁ => W prog w A (eval r env) (fun c h₂ => W prog w A (compareOp op a c) Q E h₂) E h₁) E h)
    (hm : behindInMarks op r = false := by with_unfolding_all rfl) : W prog w A (eval (.Compare l [op] [r] pos) env) Q E h :=
  fun s Q' E' e q r => wpAny_Compare1 (x s _ E' e (fun a h₁ t₁ y => y _ _ E' rfl (fun c h₂ t₂ y => y _ Q' E' rfl (fun v h₃ t₃ z => q v h₃ t₃ z) (fun v h₃ t₃ z => r v h₃ t₃ z)) (fun v h₃ t₃ z => r v h₃ t₃ z)) r) hm
end

/-! tests -/
section
variable {Q : Bool → Heap → Prop}
theorem W.tcompare {l r : Expr} {op : CmpOp} {pos : Pos} {whole : Sem Value} (x : W prog w A (eval l env) (fun a h₁ => W prog w A (eval r env) (fun c h₂ => W prog w A (compareOp op a c) (fun v h₃ => W prog w A (truthy v) Q E h₃) E h₂) E h₁) E h)
    (hm : behindInMarks op r = false := by with_unfolding_all rfl) : W prog w A (isTrue (.Compare l [op] [r] pos) env whole) Q E h :=
  fun s Q' E' e q r => wpAny_isTrue_Compare1 (x s _ E' e (fun a h₁ t₁ y => y _ _ E' rfl (fun c h₂ t₂ y => y _ _ E' rfl (fun v h₃ t₃ y => y _ Q' E' rfl (fun v h₃ t₃ z => q v h₃ t₃ z) (fun v h₃ t₃ z => r v h₃ t₃ z)) (fun v h₃ t₃ z => r v h₃ t₃ z)) (fun v h₃ t₃ z => r v h₃ t₃ z)) r) hm
theorem W.tnot {y : Expr} {pos : Pos} {whole : Sem Value} (x : W prog w A (isTrue y env (eval y env)) (fun b h₁ => Q (!b) h₁) E h) : W prog w A (isTrue (.UnaryOp .Not y pos) env whole) Q E h :=
  fun s Q' E' e q r => wpAny_isTrue_Not (x s _ E' e (fun b h₁ t₁ y => q _ h₁ t₁ y) r)
theorem W.tbool {op : BoolOp} {vs : List Expr} {pos : Pos} {whole : Sem Value} (x : W prog w A (allTrue op vs env) Q E h) : W prog w A (isTrue (.BoolOp op vs pos) env whole) Q E h :=
  fun s Q' E' e q r => wpAny_isTrue_BoolOp (x s _ E' e q r)
theorem W.and_nil (x : Q true h) : W prog w A (allTrue .And [] env) Q E h := W.pure x
theorem W.or_nil (x : Q false h) : W prog w A (allTrue .Or [] env) Q E h := W.pure x
theorem W.and_cons {y : Expr} {r : List Expr} (x : W prog w A (isTrue y env (eval y env)) (fun b h₁ => iteK b (W prog w A (allTrue .And r env) Q E h₁) (Q false h₁)) E h) : W prog w A (allTrue .And (y :: r) env) Q E h :=
  fun s Q' E' e q r => wpAny_allTrue_And_cons (x s _ E' e (fun b h₁ t₁ y => by
    cases b with
    | true => exact y.1 rfl _ Q' E' rfl (fun v h₂ t₂ z => q v h₂ t₂ z) (fun v h₂ t₂ z => r v h₂ t₂ z)
    | false => exact q _ _ _ (y.2 rfl)) r)
theorem W.or_cons {y : Expr} {r : List Expr} (x : W prog w A (isTrue y env (eval y env)) (fun b h₁ => iteK b (Q true h₁) (W prog w A (allTrue .Or r env) Q E h₁)) E h) : W prog w A (allTrue .Or (y :: r) env) Q E h :=
  fun s Q' E' e q r => wpAny_allTrue_Or_cons (x s _ E' e (fun b h₁ t₁ y => by
    cases b with
    | true => exact q _ _ _ (y.1 rfl)
    | false => exact y.2 rfl _ Q' E' rfl (fun v h₂ t₂ z => q v h₂ t₂ z) (fun v h₂ t₂ z => r v h₂ t₂ z)) r)
theorem W.tvalue {y : Expr} {whole : Sem Value} (x : W prog w A whole (fun v h₁ => W prog w A (truthy v) Q E h₁) E h) (he : isTrue y env whole = (do let v ← whole; standAt y.pos; holding [v] (truthy v)) := by rfl) : W prog w A (isTrue y env whole) Q E h :=
  fun s Q' E' e q r => wpAny_isTrue_value (x s _ E' e (fun b h₁ t₁ y => y _ Q' E' rfl (fun v h₂ t₂ z => q v h₂ t₂ z) (fun v h₂ t₂ z => r v h₂ t₂ z)) r) he
theorem W.truthyB {b : Bool} (x : Q b h) : W prog w A (truthy (.bool b)) Q E h := fun s _ _ e q _ => wpAny_truthy_bool (q _ _ s.toks (e ▸ x))
theorem W.truthyI {a : Int} {t : Tok} (x : Q (a != 0) h) : W prog w A (truthy (.int a t)) Q E h := fun s _ _ e q _ => truthy_int (q _ _ s.toks (e ▸ x))
end

/-! ints -/
section
variable {Q : Value → Heap → Prop} {a c : Int} {t u : Tok}
theorem W.add (x : ∀ t, Q (.int (a + c) t) h) : W prog w A (binaryOp .Add (.int a t) (.int c u)) Q E h := fun s _ _ e q _ => add_int (q _ _ _ (e ▸ x s.toks))
theorem W.iadd (x : ∀ t, Q (.int (a + c) t) h) : W prog w A (inplaceOp .Add (.int a t) (.int c u)) Q E h := fun s _ _ e q _ => iadd_int (q _ _ _ (e ▸ x s.toks))
theorem W.sub (x : ∀ t, Q (.int (a - c) t) h) : W prog w A (binaryOp .Sub (.int a t) (.int c u)) Q E h := fun s _ _ e q _ => sub_int (q _ _ _ (e ▸ x s.toks))
theorem W.mul (hm : IntMulOk a c) (x : ∀ t, Q (.int (a * c) t) h) : W prog w A (binaryOp .Mult (.int a t) (.int c u)) Q E h := fun s _ _ e q _ => mul_int (q _ _ _ (e ▸ x s.toks)) hm
theorem W.fdiv (h0 : c ≠ 0) (hp : Builtin.divisionGoesByPylong a c = false) (x : ∀ t, Q (.int (a.fdiv c) t) h) : W prog w A (binaryOp .FloorDiv (.int a t) (.int c u)) Q E h := fun s _ _ e q _ => floordiv_int h0 (q _ _ _ (e ▸ x s.toks)) (.inl hp)
theorem W.mod (h0 : c ≠ 0) (x : ∀ t, Q (.int (a.fmod c) t) h) : W prog w A (binaryOp .Mod (.int a t) (.int c u)) Q E h := fun s _ _ e q _ => mod_int' h0 (q _ _ _ (e ▸ x s.toks))
theorem W.shl (h0 : 0 ≤ c) (h1 : c ≤ 1000000) (h2 : a.natAbs < 2 ^ 64) (x : ∀ t, Q (.int (a * 2 ^ c.toNat) t) h) : W prog w A (binaryOp .LShift (.int a t) (.int c u)) Q E h := fun s _ _ e q _ => lshift_int_small h0 h1 h2 (q _ _ _ (e ▸ x s.toks))
theorem W.shr (h0 : 0 ≤ c) (x : ∀ t, Q (.int (a.fdiv (2 ^ c.toNat)) t) h) : W prog w A (binaryOp .RShift (.int a t) (.int c u)) Q E h := fun s _ _ e q _ => rshift_int h0 (q _ _ _ (e ▸ x s.toks))
theorem W.band (x : ∀ t, Q (.int (Builtin.bitAnd a c) t) h) : W prog w A (binaryOp .BitAnd (.int a t) (.int c u)) Q E h := fun s _ _ e q _ => and_int (q _ _ _ (e ▸ x s.toks))
theorem W.bor (x : ∀ t, Q (.int (Builtin.bitOr a c) t) h) : W prog w A (binaryOp .BitOr (.int a t) (.int c u)) Q E h := fun s _ _ e q _ => or_int (q _ _ _ (e ▸ x s.toks))
theorem W.bxor (x : ∀ t, Q (.int (Builtin.bitXor a c) t) h) : W prog w A (binaryOp .BitXor (.int a t) (.int c u)) Q E h := fun s _ _ e q _ => xor_int (q _ _ _ (e ▸ x s.toks))
theorem W.inv (x : ∀ t, Q (.int (Builtin.bitNot a) t) h) : W prog w A (unaryOp .Invert (.int a t)) Q E h := fun s _ _ e q _ => invert_int (q _ _ _ (e ▸ x s.toks))
theorem W.neg (x : ∀ t, Q (.int (-a) t) h) : W prog w A (unaryOp .USub (.int a t)) Q E h := fun s _ _ e q _ => neg_int (q _ _ _ (e ▸ x s.toks))
theorem W.lt (x : Q (.bool (decide (a < c))) h) : W prog w A (compareOp .Lt (.int a t) (.int c u)) Q E h := fun s _ _ e q _ => lt_int (q _ _ s.toks (e ▸ x))
theorem W.gt (x : Q (.bool (decide (c < a))) h) : W prog w A (compareOp .Gt (.int a t) (.int c u)) Q E h := fun s _ _ e q _ => gt_int (q _ _ s.toks (e ▸ x))
theorem W.le (x : Q (.bool (decide (a ≤ c))) h) : W prog w A (compareOp .LtE (.int a t) (.int c u)) Q E h := fun s _ _ e q _ => le_int (q _ _ s.toks (e ▸ x))
theorem W.ge (x : Q (.bool (decide (c ≤ a))) h) : W prog w A (compareOp .GtE (.int a t) (.int c u)) Q E h := fun s _ _ e q _ => ge_int (q _ _ s.toks (e ▸ x))
theorem W.eq (x : Q (.bool (a == c)) h) : W prog w A (compareOp .Eq (.int a t) (.int c u)) Q E h := fun s _ _ e q _ => eq_int (q _ _ s.toks (e ▸ x))
theorem W.ne (x : Q (.bool (a != c)) h) : W prog w A (compareOp .NotEq (.int a t) (.int c u)) Q E h := fun s _ _ e q _ => ne_int (q _ _ s.toks (e ▸ x))
theorem W.eqS {a c : Str} (x : Q (.bool (a == c)) h) : W prog w A (compareOp .Eq (.str a t) (.str c u)) Q E h := fun s _ _ e q _ => eq_str (q _ _ s.toks (e ▸ x))
theorem W.abs (x : ∀ t, Q (.int (if a < 0 then -a else a) t) h) : W prog w A (call (.builtin "abs") [.int a t]) Q E h := fun s _ _ e q _ => call_abs_int (fun u tk => q _ _ _ (e ▸ x u))
theorem W.chr (h0 : 0 ≤ a) (h1 : a ≤ 1114111) (x : ∀ t, Q (.str ⟨#[a.toNat]⟩ t) h) : W prog w A (call (.builtin "chr") [.int a t]) Q E h := fun s _ _ e q _ => chr_of_range h0 h1 (q _ _ _ (e ▸ x s.toks))
theorem W.ord {c : Nat} (x : ∀ t, Q (.int c t) h) : W prog w A (call (.builtin "ord") [.str ⟨#[c]⟩ t]) Q E h := fun s _ _ e q _ => P.ord_of_char (q _ _ _ (e ▸ x s.toks))
theorem W.intB {b : Bool} (x : ∀ t, Q (.int (if b = true then 1 else 0) t) h) : W prog w A (call (.type "int") [.bool b]) Q E h := fun s _ _ e q _ => call_int_bool (q _ _ _ (e ▸ x s.toks))
end
end
end J

namespace J

structure Good (b : Bs) : Prop where
  g : b.B.Ns mainGlobals b.mg
  bb : b.B.Ns builtinsNs b.mb
  nolimit : b.B.NoLimit
  bm : ∃ bm ob, b.mg "__builtins__" = some (.ref bm) ∧ bm ≠ builtinsNs ∧ b.B.get? bm = some ob ∧ ob.cls = .type "module" ∧ ob.dict = some builtinsNs ∧ ob.data = .plain
  bl : ∀ x : Str, x ≠ "__name__" → b.mb x = bootBuiltins x

structure Room (n : Nat) (A : Around) : Prop where
  hh : A.handled = none
  dp : A.depth + n < recursionLimit
  un : A.units + 8 * n < cLine
theorem Room.deeper {n : Nat} {A : Around} {env : Env} (R : Room (n + 1) A) : Room n (A.deeper env) := ⟨R.hh, by have := R.dp; show A.depth + 1 + n < _; (first | lia | omega), by have := R.un; show A.units + 3 + 8 * n < _; (first | lia | omega)⟩
theorem Room.le {m n : Nat} {A : Around} (R : Room n A) (l : m ≤ n) : Room m A := ⟨R.hh, by have := R.dp; (first | lia | omega), by have := R.un; (first | lia | omega)⟩
theorem Room.in1 {n : Nat} {A : Around} (R : Room (n + 1) A) : Room n A.in1 := ⟨R.hh, by have := R.dp; show A.depth + n < _; (first | lia | omega), by have := R.un; show A.units + 1 + 8 * n < _; (first | lia | omega)⟩

section
variable {prog : Program} {w : World} {A : Around} {E : Value → Heap → Prop} {h h₀ : Heap} {b : Bs} {X : List Addr} {fz : List (Addr × K)} {L : Addr} {l : List (Str × Value)} {ob : List (Addr × K)}
  {qn : Str} {sc : Scope} {a : Addr} {cd : Value} {cl : List (Str × Addr)} {x : Str} {pos : Pos} {v : Value} {c : Addr} {i : Nat} {env : Env}

theorem lk0 {x : Str} {v : α} {l : List (Str × α)} : List.lookup x ((x, v) :: l) = some v := by simp
theorem lkS {x y : Str} {v u : α} {l : List (Str × α)} (n : (x == y) = false) (e : List.lookup x l = some v) : List.lookup x ((y, u) :: l) = some v := by rw [List.lookup_cons, n]; exact e

section
variable {Q : Value → Heap → Prop}
theorem W.local (S : St b h₀ X fz L l ob h) (hv : l.lookup x = some v) (hL : env.locals = L) (hk : env.scope.kind = .function) (hx : env.kindOf x = some .local) (hd : (x == ("__debug__" : Str)) = false) (q : Q v h) :
    W prog w A (eval (.Name x pos) env) Q E h :=
  fun s _ _ e q' _ => wpAny_Name (wpAny_loadName_local hk hx (e ▸ hL ▸ S.ns) hv (q' _ _ s.toks (e ▸ q))) hd
theorem W.cell (S : St b h₀ X fz L l ob h) (hc : env.cells.lookup x = some c) (hm : ob[i]? = some (c, .cell (some v))) (hk : env.scope.kind = .function) (hx : env.kindOf x = some .cell) (hd : (x == ("__debug__" : Str)) = false) (q : Q v h) :
    W prog w A (eval (.Name x pos) env) Q E h :=
  fun s _ _ e q' _ => wpAny_Name (wpAny_loadName_cell hk hx hc (e ▸ S.obs _ (List.mem_of_getElem? hm)) (q' _ _ s.toks (e ▸ q))) hd
theorem W.free (S : St b h₀ X fz L l ob h) (hc : env.cells.lookup x = some c) (hm : fz[i]? = some (c, .cell (some v))) (hk : env.scope.kind = .function) (hx : env.kindOf x = some .free) (hd : (x == ("__debug__" : Str)) = false)
    (hn : (x == ("__classdict__" : Str)) = false) (q : Q v h) : W prog w A (eval (.Name x pos) env) Q E h :=
  fun s _ _ e q' _ => wpAny_Name (wpAny_loadName_free hk hx hc (e ▸ S.fzAt (List.mem_of_getElem? hm)) (q' _ _ s.toks (e ▸ q)) hn) hd
theorem W.global (G : Good b) (O : Ok b h) (hv : b.mg x = some v) (hg : env.globals = mainGlobals) (hk : env.scope.kind = .function) (hx : env.kindOf x = some .globalImplicit) (hd : (x == ("__debug__" : Str)) = false) (q : Q v h) :
    W prog w A (eval (.Name x pos) env) Q E h :=
  fun s _ _ e q' _ => Calls.Name_function_global hk hx (Calls.loadGlobal_global (env := env) (e ▸ hg ▸ G.g.keeps O.sub) hv (q' _ _ s.toks (e ▸ q))) hd
theorem W.builtin (G : Good b) (O : Ok b h) (hg : b.mg x = none) (hv : bootBuiltins x = some v) (hn : (x == ("__name__" : Str)) = false) (hg' : env.globals = mainGlobals) (hb' : env.builtins = builtinsNs) (hk : env.scope.kind = .function) (hx : env.kindOf x = some .globalImplicit) (hd : (x == ("__debug__" : Str)) = false) (q : Q v h) :
    W prog w A (eval (.Name x pos) env) Q E h :=
  fun s _ _ e q' _ => Calls.Name_function_global hk hx (Calls.loadGlobal_builtin (env := env) (e ▸ hg' ▸ G.g.keeps O.sub) hg (e ▸ hb' ▸ G.bb.keeps O.sub) ((G.bl x (by simpa using hn)).trans hv) (q' _ _ s.toks (e ▸ q))) hd
theorem W.ldlocal (S : St b h₀ X fz L l ob h) (hv : l.lookup x = some v) (hL : env.locals = L) (hk : env.scope.kind = .function) (hx : env.kindOf x = some .local) (q : Q v h) :
    W prog w A (loadName env x) Q E h :=
  fun s _ _ e q' _ => wpAny_loadName_local hk hx (e ▸ hL ▸ S.ns) hv (q' _ _ s.toks (e ▸ q))
end
section
variable {Q : Unit → Heap → Prop}
theorem W.storeL (S : St b h₀ X fz L l ob h) (hL : env.locals = L) (hk : env.scope.kind = .function) (hx : env.kindOf x = some .local) (q : ∀ h', St b h₀ X fz L ((x, v) :: l) ob h' → Q () h') :
    W prog w A (storeName env x v) Q E h :=
  fun s _ _ e q' _ => wpAny_storeName_local hx (e ▸ hL ▸ S.ns) (fun h' hn hs => q' _ _ _ (q h' (S.store (e ▸ hL ▸ hs) (hL ▸ hn)))) (by rw [hk]; rfl)
theorem W.storeC {v₀ : Option Value} (S : St b h₀ X fz L l ob h) (hc : env.cells.lookup x = some c) (hm : ob[i]? = some (c, .cell v₀)) (hk : env.scope.kind = .function) (hx : env.kindOf x = some .cell)
    (q : ∀ h', St b h₀ X fz L l (ob.set i (c, .cell (some v))) h' → Q () h') : W prog w A (storeName env x v) Q E h :=
  fun s _ _ e q' _ => wpAny_storeName_cell hk hx hc (e ▸ S.obs _ (List.mem_of_getElem? hm)) fun h' hv hs => q' _ _ _ (q h' (S.upd hm (e ▸ hs.extBut) hv))
end

/-! a def's frame -/
noncomputable def FnO (h : Heap) (a : Addr) (qual : Str) (params : Arguments) (body : List Stmt) (scope : Scope) (cl : List (Str × Addr)) (dV cd : Value) : Prop :=
  ∃ o name kV doc pm an ct, h.get? a = some o ∧ o.data = .func (fnX name qual params body scope cl dV kV doc pm an cd ct) ∧ h.CodeRec cd qual
theorem FnO.keeps {h h' : Heap} {a : Addr} {qual : Str} {params : Arguments} {body : List Stmt} {scope : Scope} {cl : List (Str × Addr)} {dV cd : Value} (x : FnO h a qual params body scope cl dV cd)
    (k : ∀ b o, h.get? b = some o → NotTab o → NoDict o → h'.get? b = some o) (hcls : ∀ c o, cd = .ref c → h.get? c = some o → NotTab o) : FnO h' a qual params body scope cl dV cd :=
  let ⟨o, name, kV, doc, pm, an, ct, e, d, c, oc, vs, t, c1, c2, c3, c4⟩ := x
  ⟨o, name, kV, doc, pm, an, ct, k _ _ e (.inr (by rw [d]; nofun)) (fun _ _ => by rw [d]; nofun), d, c, oc, vs, t, c1, k _ _ c2 (hcls _ _ c1 c2) (fun _ _ => by rw [c3]; nofun), c3, c4⟩

noncomputable def bindK (prog : Program) (w : World) (A : Around) (env : Env) : List (Str × Value) → (Heap → Prop) → Heap → Prop
  | [], k, h => k h
  | (x, v) :: r, k, h => W prog w A (storeName env x v) (fun _ h' => bindK prog w A env r k h') (fun _ _ => False) h
noncomputable def cellObs (n : Nat) : List (Str × NameKind) → List (Addr × K)
  | [] => []
  | (_, kind) :: r => if kind == .cell then (n, .cell none) :: cellObs (n + 1) r else cellObs n r

theorem pushCells_size : ∀ (names : List (Str × NameKind)) (h : Heap), h.objs.size ≤ (pushCells h names).objs.size
  | [], _ => Nat.le_refl _
  | (_, kind) :: r, h => by
    unfold pushCells
    split
    · exact Nat.le_trans (by rw [Heap.size_push]; (first | lia | omega)) (pushCells_size r _)
    · exact pushCells_size r _
theorem St.cells {names : List (Str × NameKind)} : ∀ {h : Heap} {ob : List (Addr × K)}, St b h₀ X fz L l ob h → ∃ ob', St b h₀ X fz L l ob' (pushCells h names) ∧ ∀ p, p ∈ ob' ↔ p ∈ cellObs h.objs.size names ∨ p ∈ ob := by
  induction names with
  | nil => exact fun {h ob} S => ⟨ob, S, fun p => by simp [cellObs]⟩
  | cons q r ih =>
    obtain ⟨n, kind⟩ := q
    intro h ob S
    unfold pushCells cellObs
    cases hk : kind == NameKind.cell with
    | true =>
      simp only [if_true]
      have S' := S.add (k := .cell none) (.keeps fun _ _ e => Heap.get?_push_of_some { cls := .type "cell", data := .cell none } e) (Heap.get?_none_of_le (Nat.le_refl _)) ⟨_, Heap.get?_push_size _ rfl, rfl⟩
      obtain ⟨ob', S₂, e⟩ := ih S'
      refine ⟨ob', S₂, fun p => ?_⟩
      rw [e p, Heap.size_push]
      simp only [List.mem_cons]
      exact ⟨fun z => z.elim (fun z => .inl (.inr z)) fun z => z.elim (fun z => .inl (.inl z)) .inr, fun z => z.elim (fun z => z.elim (fun z => .inr (.inl z)) .inl) fun z => .inr (.inr z)⟩
    | false =>
      simp only [Bool.false_eq_true, if_false]
      exact ih S
theorem St.perm {ob' : List (Addr × K)} (S : St b h₀ X fz L l ob h) (e : ∀ p ∈ ob', p ∈ ob) (nd : (ob'.map (·.1)).Nodup) : St b h₀ X fz L l ob' h :=
  { ok₀ := S.ok₀, ext := S.ext, xb := S.xb, fz := S.fz, ns := S.ns, new := S.new, obs := fun p hp => S.obs p (e p hp), obn := fun p hp => S.obn p (e p hp)
    nd := List.nodup_cons.mpr ⟨fun q => by obtain ⟨p, hp, z⟩ := List.mem_map.mp q; exact (List.nodup_cons.mp S.nd).1 (by rw [← z]; exact List.mem_map_of_mem (e p hp)), nd⟩ }
theorem cellObs_ge : ∀ (names : List (Str × NameKind)) (n : Nat), ∀ p ∈ cellObs n names, n ≤ p.1
  | [], _, _, h => nomatch h
  | (_, kind) :: r, n, p, h => by
    unfold cellObs at h
    split at h
    · rcases List.mem_cons.mp h with rfl | h
      · exact Nat.le_refl _
      · exact Nat.le_trans (Nat.le_succ _) (cellObs_ge r _ p h)
    · exact cellObs_ge r _ p h
theorem cellObs_nd : ∀ (names : List (Str × NameKind)) (n : Nat), ((cellObs n names).map (·.1)).Nodup
  | [], _ => List.nodup_nil
  | (_, kind) :: r, n => by
    unfold cellObs
    split
    · refine List.nodup_cons.mpr ⟨fun h => ?_, cellObs_nd r _⟩
      obtain ⟨p, hp, e⟩ := List.mem_map.mp h
      have := cellObs_ge r _ p hp
      have e : @Eq Nat p.1 n := e
      (first | lia | omega)
    · exact cellObs_nd r _
theorem bindK_run {env : Env} : ∀ (binds : List (Str × Value)) (f : Str × Value → PUnit → Sem (ForInStep PUnit)) (hf : ∀ n v u, f (n, v) u = (do storeName env n v; Pure.pure (.yield ⟨⟩))) (k : Heap → Prop) (h : Heap), bindK prog w A env binds k h →
    W prog w A (forIn binds ⟨⟩ f) (fun _ h' => k h') (fun _ _ => False) h
  | [], f, hf, k, h, x => by rw [List.forIn_nil]; exact W.pure x
  | (n, v) :: r, f, hf, k, h, x => by
    rw [List.forIn_cons, hf]
    refine W.bind (W.bind (W.mono x (fun _ h' y => W.pure (bindK_run r f hf k h' y)) fun _ _ y => y))

/-- a call of a def (or a closure): the frame -/
theorem W.call {params : Arguments} {body : List Stmt} {dV : Value} {vs : List Value} {binds : List (Str × Value)} {ob₀ : List (Addr × K)} {Q : Value → Heap → Prop}
    (G : Good b) (O : Ok b h) (F : FnO h a qn params body sc cl dV cd) (hroom : A.depth < recursionLimit)
    (hbind : ∀ s name kV doc pm an ct, s.heap = h → BindsTo s (fnX name qn params body sc cl dV kV doc pm an cd ct) ⟨vs, []⟩ binds)
    (hxb : ∀ x ∈ X, b.B.get? x = none) (hfz : ∀ p ∈ fz, p.2.at h p.1 ∧ p.1 ∉ X) (hob : ∀ p ∈ ob₀, p.2.at h p.1 ∧ p.1 ∈ X) (hnd : (ob₀.map (·.1)).Nodup)
    (k : ∀ L h₁, St b h X fz L [] (cellObs (L + 1) sc.names ++ ob₀) h₁ → bindK prog w A.in1 (envX qn sc L a cd (cellsFrom (L + 1) sc.names cl)) binds (fun h₂ => Ok b h₂ ∧
      W prog w (A.deeper (envX qn sc L a cd (cellsFrom (L + 1) sc.names cl))) (execs body (envX qn sc L a cd (cellsFrom (L + 1) sc.names cl))) (retK Q)
        (fun e h' => W prog w (A.deeper (envX qn sc L a cd (cellsFrom (L + 1) sc.names cl))) (leaving (envX qn sc L a cd (cellsFrom (L + 1) sc.names cl)) e) (fun _ h'' => E e h'') E h') h₂) h₁)
    (hco : sc.isCoroutine = false := by rfl) (hgen : sc.isGenerator = false := by rfl) : W prog w A (PySem.call (.ref a) vs) Q E h := by
  intro s Q' E' e q r
  subst e
  obtain ⟨o, name, kV, doc, pm, an, ct, hget, hd, hcr⟩ := F
  refine wpAny_call (codeAny_call_function hroom hget hd hco hgen rfl hcr (hbind s name kV doc pm an ct rfl _ _ _ _ ?_))
  -- the frame
  have hf0 : s.heap.get? s.heap.objs.size = none := Heap.get?_none_of_le (Nat.le_refl _)
  have hL : ∀ p ∈ ob₀, p.1 ≠ s.heap.objs.size := fun p hp q => by
    obtain ⟨o, e1, _⟩ := K.soft (hob p hp).1
    rw [q, hf0] at e1; cases e1
  have S₀ : St b s.heap X fz s.heap.objs.size [] ob₀ (s.heap.push { cls := .type "frame", data := .dict #[] }) :=
    { ok₀ := O, ext := .keeps fun _ _ e => Heap.get?_push_of_some _ e, xb := hxb, fz := hfz, ns := Heap.Ns.new s.heap (.type "frame"), new := hf0
      obs := fun p hp => K.same (fun o e => Heap.get?_push_of_some _ e) (hob p hp).1, obn := fun p hp => .inr (hob p hp).2
      nd := List.nodup_cons.mpr ⟨fun q => by obtain ⟨p, hp, z⟩ := List.mem_map.mp q; exact hL p hp z, hnd⟩ }
  obtain ⟨ob', S₁, hob'⟩ := S₀.cells (names := sc.names)
  have hsz : (s.heap.push { cls := .type "frame", data := .dict #[] }).objs.size = s.heap.objs.size + 1 := Heap.size_push ..
  have S₂ := S₁.perm (ob' := cellObs (s.heap.objs.size + 1) sc.names ++ ob₀) (fun p hp => (hob' p).mpr (by
      rw [hsz]; exact (List.mem_append.mp hp).elim .inl .inr)) (by
    rw [List.map_append]
    refine List.nodup_append.mpr ⟨cellObs_nd _ _, hnd, fun x hx y hy => ?_⟩
    obtain ⟨p, hp, rfl⟩ := List.mem_map.mp hx
    obtain ⟨p', hp', rfl⟩ := List.mem_map.mp hy
    obtain ⟨o, e1, _⟩ := K.soft (hob p' hp').1
    have l1 : @LT.lt Nat _ p'.1 s.heap.objs.size := Heap.lt_size e1
    have l2 := cellObs_ge _ _ p hp
    exact fun e => by
      have e : @Eq Nat p.1 p'.1 := e
      (first | lia | omega))
  have main := k _ _ S₂
  show wpAny _ A.in1 (newFunctionEnv sc mainGlobals cl binds (qn ++ ".<locals>.") (some a) cd none builtinsNs) _ _ s
  simp only [newFunctionEnv, Option.isSome_none, Bool.false_eq_true, if_false]
  refine wpAny_bind (wpAny_alloc ?_)
  refine wpAny_bind (wpAny_layCells _ (fun name kind cells => by cases hkc : kind == NameKind.cell <;> simp [hkc]) _ _ _ _ ?_)
  rw [show ({ s with heap := s.heap.push { cls := .type "frame", data := .dict #[] } } : Shared).heap.objs.size = s.heap.objs.size + 1 from Heap.size_push ..]
  refine wpAny_bind (bindK_run binds _ (fun _ _ _ => rfl) _ _ main _ _ _ rfl (fun _ h₂ tk₂ y => ?_) fun _ _ _ y => y.elim)
  refine wpAny_pure ⟨G.nolimit.keeps y.1.sub, codeAny_func ?_⟩
  exact y.2 _ _ _ rfl (fun f h' tk z => q _ h' tk z) fun e h' tk z => z _ _ _ rfl (fun _ h₃ t₃ z => r _ h₃ t₃ z) fun _ h₃ t₃ z => r _ h₃ t₃ z
end
end J

namespace J

section
variable {prog : Program} {w : World} {A : Around} {E : Value → Heap → Prop} {h h₀ : Heap} {b : Bs} {X : List Addr} {fz : List (Addr × K)} {L : Addr} {l : List (Str × Value)} {ob : List (Addr × K)}
  {env : Env} {pos : Pos} {v : Value} {i : Nat} {Q : Value → Heap → Prop}
theorem FnAt.ofO {a : Addr} {qual : Str} {params : Arguments} {body : List Stmt} {scope : Scope} {cl : List (Str × Addr)} {dV cd : Value} (x : FnO h a qual params body scope cl dV cd) : FnAt a h := by
  obtain ⟨⟨oc, od, dt, sl⟩, name, kV, doc, pm, an, ct, e, d, _⟩ := x
  cases d
  exact ⟨_, _, _, _, e⟩
theorem FnAt.keeps {a : Addr} {h h' : Heap} (x : FnAt a h) (k : ∀ b o, h.get? b = some o → NotTab o → NoDict o → h'.get? b = some o) : FnAt a h' :=
  let ⟨oc, od, fd, sl, e⟩ := x; ⟨oc, od, fd, sl, k _ _ e (.inr nofun) nofun⟩

/-! calls -/
noncomputable def cwK (prog : Program) (w : World) (A : Around) (pos : Pos) (v : Value) (first : List Value) (args : List Expr) (env : Env) (Q : Value → Heap → Prop) (E : Value → Heap → Prop) (h : Heap) : Prop :=
  W prog w A (callWith pos v first (backTo pos (starEach args env)) []) Q E h
theorem W.callE {f : Expr} {args : List Expr} (x : W prog w A (eval f env) (fun v h₁ => cwK prog w A pos v [] args env Q E h₁) E h)
    (he : eval (.Call f args [] pos) env = (do callWith pos (← eval f env) [] (backTo pos (starEach args env)) (backToKw pos (keywordEach [] env))) := by rfl) : W prog w A (eval (.Call f args [] pos) env) Q E h :=
  fun s Q' E' e q r => Call_ (x s _ E' e (fun v h' tk y => y _ Q' E' rfl (fun v h₂ t₂ z => q v h₂ t₂ z) fun v h₂ t₂ z => r v h₂ t₂ z) r) he
theorem W.items0 {Q : List Value → Heap → Prop} (x : Q [] h) : W prog w A (spliced (backTo pos (starEach [] env))) Q E h := fun s _ _ e q _ => args_nil (q _ _ s.toks (e ▸ x))
theorem W.items1 {Q : List Value → Heap → Prop} {e : Expr} {r : List Expr} (x : W prog w A (eval e env) (fun v h₁ => W prog w A (spliced (backTo pos (starEach r env))) (fun vs h₂ => Q (v :: vs) h₂) E h₁) E h)
    (he : starEach (e :: r) env = (false, eval e env) :: starEach r env := by rfl) : W prog w A (spliced (backTo pos (starEach (e :: r) env))) Q E h :=
  fun s Q' E' e q r => args_cons (x s _ E' e (fun v h' tk y => y _ _ E' rfl (fun v h₂ t₂ z => q _ h₂ t₂ z) fun v h₂ t₂ z => r v h₂ t₂ z) r) he
theorem cwK.fn {q : Addr} {e : Expr} {r : List Expr} (F : FnAt q h) (x : W prog w A (spliced (backTo pos (starEach (e :: r) env))) (fun vs h₂ => FnAt q h₂ ∧ W prog w A (call (.ref q) vs) Q E h₂) E h)
    (he : starEach (e :: r) env = (false, eval e env) :: starEach r env := by rfl) (hp : (backTo pos (starEach r env)).any (·.1) = false := by rfl) : cwK prog w A pos (.ref q) [] (e :: r) env Q E h :=
  fun s Q' E' e' q' r' => callWith_F (e' ▸ F) (x s _ E' e' (fun vs h' tk y => ⟨y.1, y.2 _ Q' E' rfl (fun v h₂ t₂ z => q' v h₂ t₂ z) fun v h₂ t₂ z => r' v h₂ t₂ z⟩) r') he hp
theorem cwK.bi {id : String} {e : Expr} {r : List Expr} (x : W prog w A (spliced (backTo pos (starEach (e :: r) env))) (fun vs h₂ => W prog w A (call (.builtin id) vs) Q E h₂) E h)
    (he : starEach (e :: r) env = (false, eval e env) :: starEach r env := by rfl) (hp : (backTo pos (starEach r env)).any (·.1) = false := by rfl) : cwK prog w A pos (.builtin id) [] (e :: r) env Q E h :=
  fun s Q' E' e' q' r' => PyProof.Rows.callWith_builtin1 (x s _ E' e' (fun vs h' tk y => y _ Q' E' rfl (fun v h₂ t₂ z => q' v h₂ t₂ z) fun v h₂ t₂ z => r' v h₂ t₂ z) r') he hp
theorem cwK.ty {T : String} {e : Expr} {r : List Expr} (x : W prog w A (spliced (backTo pos (starEach (e :: r) env))) (fun vs h₂ => W prog w A (call (.type T) vs) Q E h₂) E h)
    (he : starEach (e :: r) env = (false, eval e env) :: starEach r env := by rfl) (hp : (backTo pos (starEach r env)).any (·.1) = false := by rfl) : cwK prog w A pos (.type T) [] (e :: r) env Q E h :=
  fun s Q' E' e' q' r' => PyProof.Rows.callWith_type1 (x s _ E' e' (fun vs h' tk y => y _ Q' E' rfl (fun v h₂ t₂ z => q' v h₂ t₂ z) fun v h₂ t₂ z => r' v h₂ t₂ z) r') he hp
theorem cwK.meth {id : String} {first : List Value} {e : Expr} {r : List Expr} (x : W prog w A (spliced (backTo pos (starEach (e :: r) env))) (fun vs h₂ => W prog w A (call (.builtin id) (first ++ vs)) Q E h₂) E h)
    (he : starEach (e :: r) env = (false, eval e env) :: starEach r env := by rfl) (hp : (backTo pos (starEach r env)).any (·.1) = false := by rfl) : cwK prog w A pos (.builtin id) first (e :: r) env Q E h :=
  fun s Q' E' e' q' r' => callWith_method1 (x s _ E' e' (fun vs h' tk y => y _ Q' E' rfl (fun v h₂ t₂ z => q' v h₂ t₂ z) fun v h₂ t₂ z => r' v h₂ t₂ z) r') he hp
theorem W.method {o : Expr} {name : Str} {apos : Pos} {args : List Expr} {pl : Sem Bool} (x : W prog w A (eval o env) (fun ov h₁ => W prog w A (getMethod ov name pl) (fun fx h₂ => cwK prog w A pos fx.1 fx.2 args env Q E h₂) E h₁) E h)
    (he : eval (.Call (.Attribute o name apos) args [] pos) env = (do
      let ov ← eval o env
      standAt apos.atName
      let (f, first) ← holding [ov] (getMethod ov name pl)
      callWith pos f first (backTo pos (starEach args env)) []) := by rfl) : W prog w A (eval (.Call (.Attribute o name apos) args [] pos) env) Q E h :=
  fun s Q' E' e q r => MethodCall_ (x s _ E' e (fun v h' tk y => y _ _ E' rfl (fun v h₂ t₂ z => z _ Q' E' rfl (fun v h₂ t₂ z => q v h₂ t₂ z) fun v h₂ t₂ z => r v h₂ t₂ z) fun v h₂ t₂ z => r v h₂ t₂ z) r) he

/-! lists and tuples -/
theorem W.list {es : List Expr} (x : W prog w A (spliced (backTo pos (starEach es env))) (fun vs h₁ => W prog w A (newList vs) Q E h₁) E h) : W prog w A (eval (.List es pos) env) Q E h :=
  fun s Q' E' e q r => List_ (x s _ E' e (fun v h' tk y => y _ Q' E' rfl (fun v h₂ t₂ z => q v h₂ t₂ z) fun v h₂ t₂ z => r v h₂ t₂ z) r)
theorem W.tuple {es : List Expr} {k : Nat} (x : W prog w A (spliced (backTo pos (starEach es env))) (fun vs h₁ => W prog w A (newTuple vs) Q E h₁) E h) : W prog w A (eval (.Tuple es k pos) env) Q E h :=
  fun s Q' E' e q r => Tuple_ (x s _ E' e (fun v h' tk y => y _ Q' E' rfl (fun v h₂ t₂ z => q v h₂ t₂ z) fun v h₂ t₂ z => r v h₂ t₂ z) r)
theorem W.newList {vs : List Value} (S : St b h₀ X fz L l ob h) (hz : vs.length ≤ sizeLine) (x : ∀ a h', St b h₀ X fz L l ((a, .lst vs) :: ob) h' → Q (.ref a) h') : W prog w A (newList vs) Q E h :=
  fun s _ _ e q _ => wpAny_newList (q _ _ s.toks (by
    subst e
    exact x _ _ (S.add (k := .lst vs) (.keeps fun _ _ e => Heap.get?_push_of_some _ e) (Heap.get?_none_of_le (Nat.le_refl _)) ⟨_, Heap.get?_push_size _ rfl⟩))) hz
theorem W.newTuple {vs : List Value} (S : St b h₀ X fz L l ob h) (hz : vs.length ≤ sizeLine) (x : ∀ a h', St b h₀ X fz L l ((a, .tup vs) :: ob) h' → Q (.ref a) h') : W prog w A (newTuple vs) Q E h :=
  fun s _ _ e q _ => wpAny_newTuple (q _ _ s.toks (by
    subst e
    exact x _ _ (S.add (k := .tup vs) (.keeps fun _ _ e => Heap.get?_push_of_some _ e) (Heap.get?_none_of_le (Nat.le_refl _)) (Heap.get?_push_size _ rfl)))) hz
theorem W.getAppend {a : Addr} {xs : List Value} {pl : Sem Bool} {Q : Value × List Value → Heap → Prop} (S : St b h₀ X fz L l ob h) (hi : ob[i]? = some (a, .lst xs)) (x : Q (.builtin "list.append", [.ref a]) h) :
    W prog w A (getMethod (.ref a) "append" pl) Q E h := fun s _ _ e q _ => by
  obtain ⟨n, e1⟩ := S.obs _ (List.mem_of_getElem? hi)
  subst e
  exact Calls.getMethod_list_append e1 rfl rfl (q _ _ s.toks x)
end
end J

namespace J

section
variable {prog : Program} {w : World} {A : Around} {E : Value → Heap → Prop} {h h₀ h₁ : Heap} {b : Bs} {X : List Addr} {fz : List (Addr × K)} {L : Addr} {l : List (Str × Value)} {ob : List (Addr × K)}
  {env : Env} {pos : Pos} {v : Value} {i n : Nat} {a : Addr} {qn : Str} {params : Arguments} {body : List Stmt} {sc : Scope} {cd : Value} {cl : List (Str × Addr)} {vs : List Value} {binds : List (Str × Value)}

/-! loops -/
noncomputable def loopK (I : Nat → Heap → Prop) (n : Nat) (Q : Flow → Heap → Prop) (f : Flow) (h : Heap) : Prop := match f with
  | .next | .cont => ∃ m, m < n ∧ I m h
  | .brk => Q .next h
  | .ret v => Q (.ret v) h
section
variable {Q : Flow → Heap → Prop} {I : Nat → Heap → Prop}
theorem loopK.next {m : Nat} (hm : m < n) (x : I m h) : loopK I n Q .next h := ⟨m, hm, x⟩
theorem loopK.cont {m : Nat} (hm : m < n) (x : I m h) : loopK I n Q .cont h := ⟨m, hm, x⟩
theorem loopK.brk (x : Q .next h) : loopK I n Q .brk h := x
theorem loopK.ret (x : Q (.ret v) h) : loopK I n Q (.ret v) h := x
theorem W.while {test : Expr} {body orelse : List Stmt} (I : Nat → Heap → Prop) (n : Nat) (h0 : I n h)
    (turn : ∀ n h, I n h → W prog w A (isTrue test env (eval test env)) (fun t h₂ => iteK t (W prog w A (execs body env) (loopK I n Q) (fun _ _ => False) h₂) (W prog w A (execs orelse env) Q (fun _ _ => False) h₂)) (fun _ _ => False) h) :
    W prog w A (exec (.While test body orelse pos) env) Q E h := by
  intro s Q' E' e q r
  refine wpAny_While (codeAny_whileLoop (fun n s' => I n s'.heap ∧ s' = { s with heap := s'.heap, toks := s'.toks }) (fun n s' hI => ?_) n ⟨e ▸ h0, rfl⟩)
  refine turn n s'.heap hI.1 s' _ _ rfl (fun t h₂ tk y => ?_) fun _ _ _ y => y.elim
  have es := hI.2
  cases t with
  | true =>
    refine (y.1 rfl) _ _ _ rfl (fun f h₃ t₃ z => ?_) fun _ _ _ y => y.elim
    cases f with
    | next => obtain ⟨m, hm, z⟩ := z; exact ⟨m, hm, z, by rw [es]⟩
    | cont => obtain ⟨m, hm, z⟩ := z; exact ⟨m, hm, z, by rw [es]⟩
    | brk => have := q _ h₃ t₃ z; rw [es]; exact this
    | ret v => have := q _ h₃ t₃ z; rw [es]; exact this
  | false =>
    refine (y.2 rfl) _ _ _ rfl (fun f h₃ t₃ z => ?_) fun _ _ _ y => y.elim
    have := q _ h₃ t₃ z; rw [es]; exact this
noncomputable def forK (prog : Program) (w : World) (A : Around) (target : Expr) (body : List Stmt) (env : Env) (Q : Flow → Heap → Prop) (v : Value) (h : Heap) : Prop :=
  W prog w A (pyIter v) (fun it h₁ => WC prog w A (.forLoop target it body [] env) Q (fun _ _ => False) h₁) (fun _ _ => False) h
theorem W.for {target iter : Expr} {body : List Stmt} (x : W prog w A (eval iter env) (forK prog w A target body env Q) E h) (hs : ∀ x, foldedSetIterable iter env x = Pure.pure x) : W prog w A (exec (.For target iter body [] pos) env) Q E h := by
  intro s Q' E' e q r
  show wpAny _ A (standAt pos >>= fun _ => eval iter env >>= fun x => foldedSetIterable iter env x >>= fun x => standAt iter.pos >>= fun _ => holding [x] (pyIter x) >>= fun it => runOwn (.forLoop target it body [] env) env) _ _ s
  refine wpAny_bind (wpAny_standAt (wpAny_bind ?_))
  refine x s _ _ e (fun v h₁ t₁ y => ?_) r
  refine wpAny_bind (wpAny_of_eq (hs v) (wpAny_bind (wpAny_standAt (wpAny_bind (wpAny_holding ?_)))))
  refine y _ _ _ rfl (fun it h₂ t₂ z => ?_) fun _ _ _ y => y.elim
  refine wpAny_runOwn (h := none) ?_
  show codeAny _ A _ _ _
  exact z _ _ rfl (fun f h₃ t₃ z => q f h₃ t₃ z) fun _ _ _ y => y.elim
end

/-- a loop over a list: J i l ob: the frame before the i-th turn -/
theorem forK.list {Q : Flow → Heap → Prop} {xs : List Value} {x : Str} {px : Pos} (J : Nat → List (Str × Value) → List (Addr × K) → Prop) (R : A.handled = none) (S : St b h₀ X fz L l ob h) (h0 : J 0 l ob)
    (hl : ∀ i l ob h, J i l ob → St b h₀ X fz L l ob h → h.PlainList a xs.toArray)
    (turn : ∀ it i v l ob h, xs[i]? = some v → J i l ob → h₀.get? it = none → St b h₀ X fz L l ((it, .it a (i + 1)) :: ob) h →
      W prog w A (assign (.Name x px) env v) (fun _ h₁ => W prog w A (execs body env) (loopK (fun m h₂ => m + i + 1 = xs.length ∧ ∃ l ob, J (i + 1) l ob ∧ St b h₀ X fz L l ((it, .it a (i + 1)) :: ob) h₂) (xs.length - i) Q) (fun _ _ => False) h₁) (fun _ _ => False) h)
    (fin : ∀ l ob h, J xs.length l ob → St b h₀ X fz L l ob h → Q .next h) : forK prog w A (.Name x px) body env Q (.ref a) h := by
  intro s Q' E' e q r
  subst e
  have hl0 := hl 0 l ob s.heap h0 S
  refine wpAny_pyIter_list hl0.isList ?_
  refine q _ _ s.toks ?_
  have hne : a ≠ s.heap.objs.size := fun z => by obtain ⟨n, e⟩ := hl0; rw [z, Heap.get?_none_of_le (Nat.le_refl _)] at e; cases e
  have S₁ := S.add (k := .it a 0) (h' := s.heap.push { cls := .type "list_iterator", data := .fields #[.ref a, .int 0 0] }) (.keeps fun _ _ e => Heap.get?_push_of_some _ e) (Heap.get?_none_of_le (Nat.le_refl _)) ⟨_, Heap.get?_push_size _ rfl, rfl, rfl⟩
  have hit0 : h₀.get? s.heap.objs.size = none := S.ext.fresh (Heap.get?_none_of_le (Nat.le_refl _))
  revert S₁ hit0
  generalize s.heap.objs.size = it
  generalize s.heap.push { cls := .type "list_iterator", data := .fields #[.ref a, .int 0 0] } = h₁
  intro S₁ hit0 s R' e q r
  subst e
  refine codeAny_forLoop_any (fun n s' => s' = { s with heap := s'.heap, toks := s'.toks } ∧ ∃ i l ob, n + i = xs.length ∧ J i l ob ∧ St b h₀ X fz L l ((it, .it a i) :: ob) s'.heap) (fun n s' hI => ?_) xs.length ⟨rfl, 0, _, _, rfl, h0, S₁⟩
  obtain ⟨es, i, l', ob', hn, hJ, S'⟩ := hI
  have hit : s'.heap.IsListIter it a i := S'.obs _ (.head _)
  have hlst : s'.heap.PlainList a xs.toArray := hl i l' ob' s'.heap hJ S'.drop
  cases hv : xs[i]? with
  | none =>
    refine wpAny_pyNext_list_end R hit hlst.isList (by simpa using hv) fun h' he => ?_
    refine wpAny_execs_nil ?_
    have hi : i = xs.length := by have := List.getElem?_eq_none_iff.mp hv; (first | lia | omega)
    have := q .next h' s'.toks (fin l' ob' h' (hi ▸ hJ) (S'.dropBut hit0 he))
    rw [es]; exact this
  | some v =>
    refine wpAny_pyNext_list_item hit hlst.isList (by simpa using hv) fun h' hit' hs => ?_
    have S₂ : St b h₀ X fz L l' ((it, .it a (i + 1)) :: ob') h' := S'.upd (i := 0) rfl hs.extBut hit'
    show wpAny _ A (letOwnedTupleGo (.Name x px) (.ref it) v) _ _ _
    refine wpAny_pure ?_
    refine turn it i v l' ob' h' hv hJ hit0 S₂ _ _ _ rfl (fun _ h₃ t₃ y => ?_) fun _ _ _ y => y.elim
    refine y _ _ _ rfl (fun f h₄ t₄ z => ?_) fun _ _ _ y => y.elim
    have hi : i < xs.length := (List.getElem?_eq_some_iff.mp hv).1
    cases f with
    | next => obtain ⟨m, hm, h1, l₂, ob₂, h2, h3⟩ := z; exact ⟨m, by (first | lia | omega), by rw [es], i + 1, l₂, ob₂, by (first | lia | omega), h2, h3⟩
    | cont => obtain ⟨m, hm, h1, l₂, ob₂, h2, h3⟩ := z; exact ⟨m, by (first | lia | omega), by rw [es], i + 1, l₂, ob₂, by (first | lia | omega), h2, h3⟩
    | brk => have := q _ h₄ t₄ z; rw [es]; exact this
    | ret v => have := q _ h₄ t₄ z; rw [es]; exact this
/-- a loop over range(n) -/
theorem forK.range {Q : Flow → Heap → Prop} {N : Int} {x : Str} {px : Pos} {t u v : Tok} (J : Nat → List (Str × Value) → List (Addr × K) → Prop) (R : A.handled = none) (S : St b h₀ X fz L l ob h) (h0 : J 0 l ob)
    (hr : IsRange h a 0 N 1 t u v) (hp : 0 ≤ N) (hN : N < 2 ^ 62)
    (turn : ∀ it (i : Nat) tk l ob h, (i : Int) < N → J i l ob → h₀.get? it = none → St b h₀ X fz L l ((it, .rit (i + 1 : Nat) (N - (i + 1 : Nat)) 1) :: ob) h →
      W prog w A (assign (.Name x px) env (.int i tk)) (fun _ h₁ => W prog w A (execs body env) (loopK (fun m h₂ => m + i + 1 = N.toNat ∧ ∃ l ob, J (i + 1) l ob ∧ St b h₀ X fz L l ((it, .rit (i + 1 : Nat) (N - (i + 1 : Nat)) 1) :: ob) h₂) (N.toNat - i) Q) (fun _ _ => False) h₁) (fun _ _ => False) h)
    (fin : ∀ l ob h, J N.toNat l ob → St b h₀ X fz L l ob h → Q .next h) : forK prog w A (.Name x px) body env Q (.ref a) h := by
  intro s Q' E' e q r
  subst e
  refine wpAny_pyIter_range hr (small_one (by decide) (by decide) (by (first | lia | omega)) hN) ?_
  refine q _ _ s.toks ?_
  rw [rangeSize_one]
  have hsz : (if (0 : Int) < N then N - 0 else 0) = (N.toNat : Int) := by split <;> (first | lia | omega)
  rw [hsz]
  have S₁ := S.add (k := .rit (0 : Int) (N.toNat : Int) 1) (h' := s.heap.push { cls := .type "range_iterator", data := .fields #[rawInt 0, rawInt N.toNat, rawInt 1] }) (.keeps fun _ _ e => Heap.get?_push_of_some _ e) (Heap.get?_none_of_le (Nat.le_refl _)) (Heap.get?_push_size _ rfl)
  have hit0 : h₀.get? s.heap.objs.size = none := S.ext.fresh (Heap.get?_none_of_le (Nat.le_refl _))
  revert S₁ hit0
  generalize s.heap.objs.size = it
  generalize s.heap.push { cls := .type "range_iterator", data := .fields #[rawInt 0, rawInt N.toNat, rawInt 1] } = h₁
  intro S₁ hit0 s R' e q r
  subst e
  refine codeAny_forLoop_any (fun n s' => s' = { s with heap := s'.heap, toks := s'.toks } ∧ ∃ (i : Nat) (l : _) (ob : _), n + i = N.toNat ∧ J i l ob ∧ St b h₀ X fz L l ((it, .rit (i : Int) ((N.toNat : Int) - i) 1) :: ob) s'.heap) (fun n s' hI => ?_) N.toNat ⟨rfl, 0, _, _, rfl, h0, by simpa using S₁⟩
  obtain ⟨es, i, l', ob', hn, hJ, S'⟩ := hI
  have hit : IsRangeIter s'.heap it (i : Int) ((N.toNat : Int) - i) 1 := S'.obs _ (.head _)
  by_cases hi : (i : Int) < N
  · refine wpAny_pyNext_range_item hit (by (first | lia | omega)) fun h' hit' hs => ?_
    have e1 : (N.toNat : Int) - i - 1 = N - (i + 1 : Nat) := by (first | lia | omega)
    have e2 : (i : Int) + 1 = (i + 1 : Nat) := by (first | lia | omega)
    rw [e1, e2] at hit'
    have S₂ : St b h₀ X fz L l' ((it, .rit (i + 1 : Nat) (N - (i + 1 : Nat)) 1) :: ob') h' := S'.upd (i := 0) rfl hs.extBut hit'
    show wpAny _ A (letOwnedTupleGo (.Name x px) (.ref it) _) _ _ _
    refine wpAny_pure ?_
    refine turn it i _ l' ob' h' hi hJ hit0 S₂ _ _ _ rfl (fun _ h₃ t₃ y => ?_) fun _ _ _ y => y.elim
    refine y _ _ _ rfl (fun f h₄ t₄ z => ?_) fun _ _ _ y => y.elim
    have e3 : N - (i + 1 : Nat) = (N.toNat : Int) - (i + 1 : Nat) := by (first | lia | omega)
    cases f with
    | next => obtain ⟨m, hm, h1, l₂, ob₂, h2, h3⟩ := z; exact ⟨m, by (first | lia | omega), by rw [es], i + 1, l₂, ob₂, by (first | lia | omega), h2, e3 ▸ h3⟩
    | cont => obtain ⟨m, hm, h1, l₂, ob₂, h2, h3⟩ := z; exact ⟨m, by (first | lia | omega), by rw [es], i + 1, l₂, ob₂, by (first | lia | omega), h2, e3 ▸ h3⟩
    | brk => have := q _ h₄ t₄ z; rw [es]; exact this
    | ret v => have := q _ h₄ t₄ z; rw [es]; exact this
  · refine wpAny_pyNext_range_end R hit (by (first | lia | omega)) fun h' he => ?_
    refine wpAny_execs_nil ?_
    have hi : i = N.toNat := by (first | lia | omega)
    have := q .next h' s'.toks (fin l' ob' h' (hi ▸ hJ) (S'.dropBut hit0 he))
    rw [es]; exact this
end
end J

namespace J

section
variable {prog : Program} {w : World} {A : Around} {E : Value → Heap → Prop} {h h₀ h₁ : Heap} {b : Bs} {X : List Addr} {fz : List (Addr × K)} {L : Addr} {l : List (Str × Value)} {ob : List (Addr × K)}
  {env : Env} {pos : Pos} {v : Value} {i n : Nat} {a : Addr} {qn : Str} {params : Arguments} {sc scope : Scope} {cd : Value} {cl clos : List (Str × Addr)} {vs : List Value}

theorem Ext.grow {B : Heap} {h h' : Heap} {P c' P' : Addr} {ps : Array Value} (hk : Heap.ExtBut P h h') (T : TabOk B h P) (h0 : h.get? P = some (tabObj ps))
    (h1 : h'.get? P = some (tabObj (ps ++ #[rawInt pos.line, rawInt pos.col, .ref c']))) (hr : h'.CodeRec (.ref c') (nm pos)) (hc : CodeHd h' c' P') (hP' : TabOk B h' P') : Ext B [] h h' := by
  have hB : B.get? P = none := by cases T; assumption
  refine ⟨fun c o ec _ t _ => hk c o (fun q => ?_) ec, fun c m ec _ => ns_keeps (fun o e => hk c o (fun q => by obtain ⟨o', _, _, e1, d1, _⟩ := ec; rw [q, h0] at e1; cases e1; cases d1) e) ec, fun c o ec => ?_, fun c m ec => ⟨m, ns_keeps (fun o e => hk c o (fun q => by obtain ⟨o', _, _, e1, d1, _⟩ := ec; rw [q, h0] at e1; cases e1; cases d1) e) ec⟩, fun Q x => TabOk.grow hk h0 h1 hr hc hP' x, fun s c o ec => hk c o (fun q => by rw [q, hB] at ec; cases ec) (s c o ec)⟩
  · rw [q, h0] at ec
    cases ec
    rcases t with t | t
    · exact t rfl
    · exact t _ rfl
  · by_cases q : c = P
    · subst q; rw [h0] at ec; cases ec; exact ⟨_, h1, fun z => absurd rfl (z _)⟩
    · exact ⟨o, hk c o q ec, id⟩

theorem W.functionCode {c P : Addr} {fl : Nat} {name qual : Str} {body : FuncBody} (S : St b h₀ X fz L l ob h) (hc : env.code = .ref c) (C : CodeHd h c P) (T : TabOk b.B h P) (hq : nm pos = qual) {Q : Value → Heap → Prop}
    (k : ∀ c' P' h', St b h₀ X fz L l ob h' → Ext b.B [] h h' → h'.CodeRec (.ref c') qual → CodeHd h' c' P' → TabOk b.B h' P' → Q (.ref c') h') : W prog w A (PySem.functionCode env pos fl name qual params scope body) Q E h := by
  intro s Q' E' e q r
  subst e
  obtain ⟨ps, cf, pf, hg, hB, ht, he, hs⟩ := id T
  cases hf : codeAmong pos ps.toList with
  | some v =>
    obtain ⟨rfl, h2, h3⟩ := he pos v hf
    exact wpAny_functionCode_hit hc (C.code hg ht) hf (q _ _ s.toks (k _ _ _ S .refl (hq ▸ h2) h3 (hs pos _ hf)))
  | none =>
    refine wpAny_functionCodeX hc (C.code hg ht) (C.tab hg) hf fun c' h' tk hx hge hlt _ hrec htb ⟨P', hP', hco, hta⟩ => ?_
    have hc' : CodeHd h' c' P' := CodeHd.of hco hta
    have hP0 : s.heap.get? P' = none := Heap.get?_none_of_le hP'
    have hBP : b.B.get? P' = none := by
      cases z : b.B.get? P' with
      | none => rfl
      | some o => have := S.ok.sub _ _ z; rw [hP0] at this; cases this
    have hT' : TabOk b.B h' P' := TabOk.empty hta.2 hBP
    have hrec' : h'.CodeRec (.ref c') (nm pos) := hq ▸ hrec
    have x := Ext.grow hx T hg htb.2 hrec' hc' hT'
    exact q _ _ tk (k c' P' h' (S.ext0 x) x hrec hc' hT')

theorem W.textTuple {vs : List Value} {Q : Value → Heap → Prop} (S : St b h₀ X fz L l ob h) (k : ∀ T h', h'.get? T = some { cls := .type "tuple", data := .seq vs.toArray } → h.get? T = none → St b h₀ X fz L l ob h' → Ext b.B [] h h' → Q (.ref T) h') : W prog w A (newTextTuple vs) Q E h :=
  fun s _ _ e q _ => wpAny_newTextTuple (q _ _ s.toks (by
    subst e
    have x : Ext b.B [] s.heap (s.heap.push { cls := .type "tuple", data := .seq vs.toArray }) := .keeps fun _ _ e => Heap.get?_push_of_some _ e
    exact k _ _ (Heap.get?_push_size _ rfl) (Heap.get?_none_of_le (Nat.le_refl _)) (S.ext0 x) x))
theorem W.bFor {running : Addr} {Q : Addr → Heap → Prop} (G : Good b) (O : Ok b h) (k : Q builtinsNs h) : W prog w A (builtinsFor mainGlobals running) Q E h := fun s _ _ e q _ => by
  subst e
  obtain ⟨bm, o, h1, h2, h3, h4, h5, h6⟩ := G.bm
  exact wpAny_builtinsFor (G.g.keeps O.sub) h1 h2 (O.sub _ _ h3) h4 h5 h6 (q _ _ s.toks k)
theorem W.nsGet0 {Q : Option Value → Heap → Prop} {x : Str} (G : Good b) (O : Ok b h) (k : Q (b.mg x) h) : W prog w A (nsGet mainGlobals x) Q E h := fun s _ _ e q _ => by
  subst e
  exact wpAny_nsGet (G.g.keeps O.sub) (q _ _ s.toks k)

noncomputable abbrev fdOf (name qual : Str) (params : Arguments) (body : FuncBody) (scope : Scope) (cl : List (Str × Addr)) (dV doc pm cdv ct : Value) : FuncData :=
  { name, qualname := qual, params, body, scope, globals := mainGlobals, closure := cl, defaults := dV, kwdefaults := .none, doc, pyModule := pm, annotations := none, code := cdv, closureTuple := ct, builtins := builtinsNs }
/-- what the defaults are: none, or a tuple -/
noncomputable def DvIs (h : Heap) (dv : List Value) (dV : Value) : Prop := match dv with
  | [] => dV = .none
  | dv => ∃ T, dV = .ref T ∧ h.get? T = some { cls := .type "tuple", data := .seq dv.toArray }
theorem DvIs.ext {h h' : Heap} {B : Heap} {dv : List Value} {dV : Value} (x : DvIs h dv dV) (e : Ext B [] h h') : DvIs h' dv dV := by
  cases dv with
  | nil => exact x
  | cons d r => obtain ⟨T, e1, e2⟩ := x; exact ⟨T, e1, e.keep _ _ e2 List.not_mem_nil (.inl (by nofun)) nofun⟩

theorem W.makeFn {c P : Addr} {fl : Nat} {name qual : Str} {body : FuncBody} {dv : List Value} (G : Good b) (S : St b h₀ X fz L l ob h) (hc : env.code = .ref c) (hg : env.globals = mainGlobals) (C : CodeHd h c P) (T : TabOk b.B h P) (hq : nm pos = qual)
    (hcl : closureFor scope env = Pure.pure clos) {Q : Value → Heap → Prop}
    (k : ∀ f c' P' dV doc pm ct h', St b h₀ X fz L l ((f, .ob { cls := .type "function", data := .func (fdOf name qual params body scope clos dV doc pm (.ref c') ct) }) :: ob) h' → h'.CodeRec (.ref c') qual → CodeHd h' c' P' → TabOk b.B h' P' → DvIs h' dv dV → Q (.ref f) h') :
    W prog w A (makeFunction name qual params body scope env dv [] [] pos fl) Q E h := by
  have tail : ∀ dV h₁, DvIs h₁ dv dV → St b h₀ X fz L l ob h₁ → Ext b.B [] h h₁ → W prog w A (makeTail name qual params body scope env dV .none none pos fl) Q E h₁ := by
    intro dV h₁ D₁ S₁ x₁
    have C₁ : CodeHd h₁ c P := codeHd_at C fun o e => by
      obtain ⟨o', _, _, _, _, _, _, _, _, e1, e2, e3, _⟩ := id C
      rw [e] at e1; cases e1
      exact x₁.keep _ _ e List.not_mem_nil (.inl (by rw [e2]; nofun)) (fun _ _ => by rw [e3]; nofun)
    have T₁ := x₁.tabs _ T
    have last : ∀ ct c' P' doc h₃, DvIs h₃ dv dV → St b h₀ X fz L l ob h₃ → h₃.CodeRec (.ref c') qual → CodeHd h₃ c' P' → TabOk b.B h₃ P' →
        W prog w A (newObj (.type "function") (.func (fdOf name qual params body scope clos dV doc ((b.mg "__name__").getD .none) (.ref c') ct))) Q E h₃ := by
      intro ct c' P' doc h₃ D₃ S₃ hr hC hT s Q' E' e q r
      refine wpAny_newObj_type ?_ (by size_fits)
      subst e
      have x : Ext b.B [] s.heap (s.heap.push { cls := .type "function", data := .func (fdOf name qual params body scope clos dV doc ((b.mg "__name__").getD .none) (.ref c') ct) }) := .keeps fun _ _ e => Heap.get?_push_of_some _ e
      have kp : ∀ b' o, s.heap.get? b' = some o → (s.heap.push { cls := .type "function", data := .func (fdOf name qual params body scope clos dV doc ((b.mg "__name__").getD .none) (.ref c') ct) }).get? b' = some o := fun _ _ e => Heap.get?_push_of_some _ e
      exact q _ _ s.toks (k _ c' P' dV doc _ ct _ (S₃.push _ rfl (.inl nofun)) (hr.keeps kp) (hC.keeps kp) (hT.keeps kp) (D₃.ext x))
    unfold makeTail
    rw [hcl, hg]
    refine W.bind (W.pure ?_)
    cases clos with
    | nil =>
      simp only [List.isEmpty_nil, if_true]
      refine W.bind (W.pure ?_)
      refine W.bind (W.functionCode S₁ hc C₁ T₁ hq fun c' P' h₃ S₃ x₃ hr hC hT => ?_)
      refine W.bind (W.bFor G S₃.ok (W.bind (W.nsGet0 G S₃.ok ?_)))
      cases body with
      | stmts bd =>
        refine W.bind ?_
        split
        · exact fun s Q' E' e q r => wpAny_mkText (q _ _ _ (e ▸ last _ _ _ _ _ (D₁.ext x₃) S₃ hr hC hT))
        · exact W.pure (last _ _ _ _ _ (D₁.ext x₃) S₃ hr hC hT)
      | expr e => exact W.bind (W.pure (last _ _ _ _ _ (D₁.ext x₃) S₃ hr hC hT))
    | cons p r =>
      simp only [List.isEmpty_cons, Bool.false_eq_true, if_false]
      refine W.bind (W.textTuple S₁ fun Tt h₂ e1 e2 S₂ x₂ => ?_)
      have C₂ : CodeHd h₂ c P := codeHd_at C₁ fun o e => by
        obtain ⟨o', _, _, _, _, _, _, _, _, e1, e2, e3, _⟩ := id C₁
        rw [e] at e1; cases e1
        exact x₂.keep _ _ e List.not_mem_nil (.inl (by rw [e2]; nofun)) (fun _ _ => by rw [e3]; nofun)
      refine W.bind (W.functionCode S₂ hc C₂ (x₂.tabs _ T₁) hq fun c' P' h₃ S₃ x₃ hr hC hT => ?_)
      refine W.bind (W.bFor G S₃.ok (W.bind (W.nsGet0 G S₃.ok ?_)))
      cases body with
      | stmts bd =>
        refine W.bind ?_
        split
        · exact fun s Q' E' e q r => wpAny_mkText (q _ _ _ (e ▸ last _ _ _ _ _ ((D₁.ext x₂).ext x₃) S₃ hr hC hT))
        · exact W.pure (last _ _ _ _ _ ((D₁.ext x₂).ext x₃) S₃ hr hC hT)
      | expr e => exact W.bind (W.pure (last _ _ _ _ _ ((D₁.ext x₂).ext x₃) S₃ hr hC hT))
  rw [makeFunction_eq]
  cases dv with
  | nil =>
    simp only [List.zip_nil_right, List.filterMap_nil, List.isEmpty_nil, if_true, pure_bind]
    exact tail _ _ rfl S .refl
  | cons d r =>
    simp only [List.zip_nil_right, List.filterMap_nil, List.isEmpty_nil, List.isEmpty_cons, Bool.false_eq_true, if_false, if_true, pure_bind]
    exact W.bind (W.textTuple S fun T h' e1 e2 S' x => tail _ _ ⟨T, rfl, e1⟩ S' x)
end
end J

namespace J

section
variable {prog : Program} {w : World} {A : Around} {E : Value → Heap → Prop} {h h₀ h₁ : Heap} {b : Bs} {X : List Addr} {fz : List (Addr × K)} {L : Addr} {l : List (Str × Value)} {ob : List (Addr × K)}
  {env : Env} {pos : Pos} {v : Value} {i n : Nat} {a : Addr}

/-! statements more -/
theorem W.nestDef0 {Q : Flow → Heap → Prop} {name : Str} {params : Arguments} {body : List Stmt} {scope : Scope} (hd : defaultsOf params env = ([], [])) (ha : annTrees params none env = [])
    (x : W prog w A (makeFunction name (qualnameIn env name name) params (.stmts body) scope env [] [] [] pos pos.line) (fun f h' => W prog w A (storeName env name f) (fun _ => Q .next) E h') E h) :
    W prog w A (exec (.FunctionDef name params body [] none [] scope none name pos) env) Q E h := by
  intro s Q' E' e q r
  rw [exec_def, hd, ha]
  refine wpAny_bind (wpAny_standAt (wpAny_bind (wpAny_holding ?_)))
  refine wpAny_bind (wpAny_pure (wpAny_bind (wpAny_holding (wpAny_pure (wpAny_holding (wpAny_bind (wpAny_pure ?_)))))))
  refine x s _ _ e (fun f h' tk y => ?_) r
  refine wpAny_bind (wpAny_standAt (wpAny_bind (wpAny_bindName ?_)))
  exact y _ _ _ rfl (fun _ h'' tk' z => wpAny_pure (q _ h'' tk' z)) fun v h'' tk' z => r v h'' tk' z
theorem W.nestDef1 {Q : Flow → Heap → Prop} {name : Str} {params : Arguments} {body : List Stmt} {scope : Scope} {k : Nat} {p : Pos} (hd : defaultsOf params env = ([eval (.Constant .none k p) env], [])) (ha : annTrees params none env = [])
    (x : W prog w A (makeFunction name (qualnameIn env name name) params (.stmts body) scope env [.none] [] [] pos pos.line) (fun f h' => W prog w A (storeName env name f) (fun _ => Q .next) E h') E h) :
    W prog w A (exec (.FunctionDef name params body [] none [] scope none name pos) env) Q E h := by
  intro s Q' E' e q r
  rw [exec_def, hd, ha]
  refine wpAny_bind (wpAny_standAt (wpAny_bind (wpAny_holding ?_)))
  refine wpAny_bind (wpAny_evalAll_cons (wpAny_Constant_none (wpAny_evalAll_nil ?_)))
  refine wpAny_bind (wpAny_holding (wpAny_pure (wpAny_holding (wpAny_bind (wpAny_pure ?_)))))
  refine x s _ _ e (fun f h' tk y => ?_) r
  refine wpAny_bind (wpAny_standAt (wpAny_bind (wpAny_bindName ?_)))
  exact y _ _ _ rfl (fun _ h'' tk' z => wpAny_pure (q _ h'' tk' z)) fun v h'' tk' z => r v h'' tk' z
theorem W.lambda {Q : Value → Heap → Prop} {params : Arguments} {body : Expr} {scope : Scope} (hd : defaultsOf params env = ([], []))
    (x : W prog w A (makeFunction "<lambda>" (env.qual ++ "<lambda>") params (.expr body) scope env [] [] [] pos pos.line) Q E h) : W prog w A (eval (.Lambda params body scope pos) env) Q E h :=
  fun s Q' E' e q r => kla_eval hd (x s Q' E' e q r)
theorem W.assignName {Q : Unit → Heap → Prop} {x : Str} {p : Pos} (y : W prog w A (storeName env x v) Q E h) : W prog w A (PySem.assign (.Name x p) env v) Q E h :=
  fun s Q' E' e q r => wpAny_bind (wpAny_standAt (wpAny_bindName (y s Q' E' e q r)))
theorem W.append {xs : List Value} {Q : Value → Heap → Prop} (S : St b h₀ X fz L l ob h) (hi : ob[i]? = some (a, .lst xs)) (hz : xs.length ≤ sizeLine)
    (k : ∀ h', St b h₀ X fz L l (ob.set i (a, .lst (xs ++ [v]))) h' → Q .none h') : W prog w A (PySem.call (.builtin "list.append") [.ref a, v]) Q E h := by
  intro s Q' E' e q r
  subst e
  obtain ⟨n, e1⟩ := S.obs _ (List.mem_of_getElem? hi)
  refine append_at (hsz := by simpa using hz) e1 fun h' hs ho => ?_
  refine q _ h' s.toks (k h' (S.upd hi hs.extBut ⟨n + 1, ?_⟩))
  rw [ho]
  simp

/-! comprehensions -/
/-- an iterator: what it gives, turn by turn -/
structure Src (b : Bs) (h₀ : Heap) (X : List Addr) (fz : List (Addr × K)) (ob : List (Addr × K)) (it : Addr) (n : Nat) (ks : Nat → K) (val : Nat → Value → Prop) : Prop where
  next : ∀ (prog : Program) (w : World) (A : Around) (L : Addr) l ob' h i E (Q : Option Value → Heap → Prop), A.handled = none → i < n → (∀ p ∈ ob, p ∈ ob') → St b h₀ X fz L l ((it, ks i) :: ob') h →
    (∀ v h', val i v → St b h₀ X fz L l ((it, ks (i + 1)) :: ob') h' → Q (some v) h') → W prog w A (pyNext (.ref it)) Q E h
  again : ∀ (prog : Program) (w : World) (A : Around) (L : Addr) l ob' h E (Q : Value → Heap → Prop), St b h₀ X fz L l ob' h → (it, ks 0) ∈ ob' → Q (.ref it) h → W prog w A (pyIter (.ref it)) Q E h
  stop : ∀ (prog : Program) (w : World) (A : Around) (L : Addr) l ob' h E (Q : Option Value → Heap → Prop), A.handled = none → (∀ p ∈ ob, p ∈ ob') → St b h₀ X fz L l ((it, ks n) :: ob') h →
    (∀ h', St b h₀ X fz L l ob' h' → Q none h') → W prog w A (pyNext (.ref it)) Q E h

theorem src_list {xs : List Value} {it : Addr} (hl : ∀ L l ob' h, (∀ p ∈ ob, p ∈ ob') → St b h₀ X fz L l ob' h → h.PlainList a xs.toArray) (hit : h₀.get? it = none) : Src b h₀ X fz ob it xs.length (fun i => .it a i) (fun i v => xs[i]? = some v) where
  next prog w A L l ob' h i E Q R hi hs S k := by
    intro s Q' E' e q r
    subst e
    have h1 : s.heap.IsListIter it a i := S.obs _ (.head _)
    have h2 := hl L l ob' s.heap hs S.drop
    refine wpAny_pyNext_list_item h1 h2.isList (x := xs[i]) (by simp) fun h' h3 h4 => ?_
    exact q _ h' s.toks (k _ _ (List.getElem?_eq_getElem hi) (S.upd (i := 0) rfl h4.extBut h3))
  again prog w A L l ob' h E Q S hm k := by
    intro s Q' E' e q r
    subst e
    exact wpAny_pyIter_listiter (S.obs _ hm) (q _ _ s.toks k)
  stop prog w A L l ob' h E Q R hs S k := by
    intro s Q' E' e q r
    subst e
    have h1 : s.heap.IsListIter it a xs.length := S.obs _ (.head _)
    have h2 := hl L l ob' s.heap hs S.drop
    refine wpAny_pyNext_list_end R h1 h2.isList (by simp) fun h' h3 => ?_
    exact q _ h' s.toks (k _ (S.dropBut hit h3))
theorem src_range {N : Nat} {it : Addr} (hit : h₀.get? it = none) : Src b h₀ X fz ob it N (fun i => .rit (i : Int) ((N : Int) - i) 1) (fun i v => ∃ t, v = .int i t) where
  next prog w A L l ob' h i E Q R hi hs S k := by
    intro s Q' E' e q r
    subst e
    have h1 : IsRangeIter s.heap it (i : Int) ((N : Int) - i) 1 := S.obs _ (.head _)
    refine wpAny_pyNext_range_item h1 (by (first | lia | omega)) fun h' h3 h4 => ?_
    have e1 : (N : Int) - i - 1 = N - (i + 1 : Nat) := by (first | lia | omega)
    have e2 : (i : Int) + 1 = (i + 1 : Nat) := by (first | lia | omega)
    rw [e1, e2] at h3
    exact q _ h' _ (k _ _ ⟨_, rfl⟩ (S.upd (i := 0) rfl h4.extBut h3))
  again prog w A L l ob' h E Q S hm k := by
    intro s Q' E' e q r
    subst e
    exact wpAny_pyIter_rangeiter (S.obs _ hm) (q _ _ s.toks k)
  stop prog w A L l ob' h E Q R hs S k := by
    intro s Q' E' e q r
    subst e
    have h1 : IsRangeIter s.heap it (N : Int) ((N : Int) - N) 1 := S.obs _ (.head _)
    refine wpAny_pyNext_range_end R h1 (by (first | lia | omega)) fun h' h3 => ?_
    exact q _ h' s.toks (k _ (S.dropBut hit h3))

/-- what stands behind a comprehension: the value goes on, or is stored -/
noncomputable def useK (prog : Program) (w : World) (A : Around) (use : Option (Value → Sem Unit)) (Q : Value → Heap → Prop) (b : Bs) (h₀ : Heap) (X : List Addr) (fz : List (Addr × K)) (L : Addr) (l : List (Str × Value)) (ob : List (Addr × K)) (D : Addr) (ys : List Value) : Prop :=
  match use with
  | none => ∀ h, St b h₀ X fz L l ((D, .lst ys) :: ob) h → Q (.ref D) h
  | some u => ∀ C m h, St b h₀ X fz L l ((C, .ns m) :: (D, .lst ys) :: ob) h → W prog w A (u (.ref D)) (fun _ h' => ∃ l' m', St b h₀ X fz L l' ((C, .ns m') :: (D, .lst ys) :: ob) h' ∧ ∀ h'', St b h₀ X fz L l' ((D, .lst ys) :: ob) h'' → Q .none h'') (fun _ _ => False) h

theorem compLoop {elt iter : Expr} {x : Str} {px : Pos} {scope : Scope} {cpos : Pos} {cl : List (Str × Addr)} {use : Option (Value → Sem Unit)} {Q : Value → Heap → Prop} {it D C : Addr} {ks : Nat → K} {val : Nat → Value → Prop}
    (J : Nat → List Value → Prop) (R : A.handled = none) (Sr : Src b h₀ X fz ob it n ks val) (hn : n ≤ sizeLine) (hkind : scope.kind = .function) (hx : (compEnvC scope cl C env).kindOf x = some .local)
    (hC : h₀.get? C = none) (hL : h₀.get? L = none)
    (turn : ∀ i v ys m h, val i v → J i ys → ys.length = i → St b h₀ X fz C ((x, v) :: m) ((L, .ns l) :: (D, .lst ys) :: (it, ks (i + 1)) :: ob) h →
      W prog w A (eval elt (compEnvC scope cl C env)) (fun y h' => J (i + 1) (ys ++ [y]) ∧ St b h₀ X fz C ((x, v) :: m) ((L, .ns l) :: (D, .lst ys) :: (it, ks (i + 1)) :: ob) h') (fun _ _ => False) h)
    (fin : ∀ ys, J n ys → ys.length = n → useK prog w A use Q b h₀ X fz L l ob D ys) (h0 : J 0 [])
    (S : St b h₀ X fz C [] ((L, .ns l) :: (D, .lst []) :: (it, ks 0) :: ob) h) (s : Shared) (e : s.heap = h) (Q' E' : Value → Shared → Prop) (q : ∀ v h' tk, Q v h' → Q' v { s with heap := h', toks := tk }) :
    codeAny (model prog w) A (.compLoop (.ListComp elt [⟨.Name x px, iter, [], 0⟩] scope cpos) 0 (.ref it) (.ref D) (compEnvC scope cl C env)) (compPost (model prog w) A E' use Q' (.ref D) C) s := by
  subst e
  refine codeAny_compLoop_list (fun k s' => s' = { s with heap := s'.heap, toks := s'.toks } ∧ ∃ i ys m, k + i = n ∧ J i ys ∧ ys.length = i ∧ St b h₀ X fz C m ((L, .ns l) :: (D, .lst ys) :: (it, ks i) :: ob) s'.heap) (fun k s' hI => ?_) n
    ⟨rfl, 0, [], [], rfl, h0, rfl, S⟩
  obtain ⟨es, i, ys, m, hk, hJ, hy, S'⟩ := hI
  have nd := S'.nd
  simp only [List.map_cons, List.nodup_cons, List.mem_cons, not_or] at nd
  obtain ⟨⟨n1, n2, n3, n4⟩, ⟨n5, n6, n7⟩, ⟨n8, n9⟩, n10, n11⟩ := nd
  -- the iterator first
  have S₁ : St b h₀ X fz C m ((it, ks i) :: (L, .ns l) :: (D, .lst ys) :: ob) s'.heap := S'.perm (fun p hp => by
      simp only [List.mem_cons] at hp ⊢
      rcases hp with h | h | h | h
      · exact .inr (.inr (.inl h))
      · exact .inl h
      · exact .inr (.inl h)
      · exact .inr (.inr (.inr h))) (by
    simp only [List.map_cons, List.nodup_cons, List.mem_cons, not_or]
    exact ⟨⟨fun q => n6 q.symm, fun q => n8 q.symm, n10⟩, ⟨n5, n7⟩, n9, n11⟩)
  have hsub : ∀ p ∈ ob, p ∈ (L, K.ns l) :: (D, .lst ys) :: ob := fun p hp => .tail _ (.tail _ hp)
  by_cases hi : i < n
  · refine Sr.next prog w A C m _ s'.heap i (fun _ _ => False) (fun r h₁ => ∃ v, r = some v ∧ val i v ∧ St b h₀ X fz C m ((it, ks (i + 1)) :: (L, .ns l) :: (D, .lst ys) :: ob) h₁) R hi hsub S₁ (fun v h' hv S'' => ⟨v, rfl, hv, S''⟩) _ _ _ rfl
      (fun r h₁ t₁ y => ?_) fun _ _ _ y => y.elim
    obtain ⟨v, rfl, hv, S₂⟩ := y
    dsimp only
    have S₂' : St b h₀ X fz C m ((L, .ns l) :: (D, .lst ys) :: (it, ks (i + 1)) :: ob) h₁ := S₂.perm (fun p hp => by
        simp only [List.mem_cons] at hp ⊢
        rcases hp with h | h | h | h
        · exact .inr (.inl h)
        · exact .inr (.inr (.inl h))
        · exact .inl h
        · exact .inr (.inr (.inr h))) (by
      simp only [List.map_cons, List.nodup_cons, List.mem_cons, not_or]
      exact ⟨⟨n5, n6, n7⟩, ⟨n8, n9⟩, n10, n11⟩)
    refine (W.assignName (E := fun _ _ => False) (W.storeL (Q := fun _ h₂ => St b h₀ X fz C ((x, v) :: m) ((L, .ns l) :: (D, .lst ys) :: (it, ks (i + 1)) :: ob) h₂) (env := compEnvC scope cl C env) S₂' rfl hkind hx fun h' S => S)) _ _ _ rfl (fun _ h₂ t₂ S₃ => ?_) fun _ _ _ y => y.elim
    refine turn i v ys m h₂ hv hJ hy S₃ _ _ _ rfl (fun y h₃ t₃ z => ?_) fun _ _ _ y => y.elim
    refine W.append (E := fun _ _ => False) (Q := fun _ h₄ => St b h₀ X fz C ((x, v) :: m) ((L, .ns l) :: (D, .lst (ys ++ [y])) :: (it, ks (i + 1)) :: ob) h₄) (i := 1) z.2 rfl (by (first | lia | omega)) (fun h' S => S) _ _ _ rfl (fun _ h₄ t₄ S₄ => ?_) fun _ _ _ y => y.elim
    exact ⟨n - (i + 1), by (first | lia | omega), by rw [es], i + 1, ys ++ [y], _, by (first | lia | omega), z.1, by simp [hy], S₄⟩
  · have hin : i = n := by (first | lia | omega)
    subst hin
    refine Sr.stop prog w A C m _ s'.heap (fun _ _ => False) (fun r h₁ => r = none ∧ St b h₀ X fz C m ((L, .ns l) :: (D, .lst ys) :: ob) h₁) R hsub S₁ (fun h' S'' => ⟨rfl, S''⟩) _ _ _ rfl (fun r h₁ t₁ y => ?_) fun _ _ _ y => y.elim
    obtain ⟨rfl, S₂⟩ := y
    dsimp only
    have S₃ : St b h₀ X fz L l ((C, .ns m) :: (D, .lst ys) :: ob) h₁ := S₂.swap hL
    have hf := fin ys hJ hy
    cases use with
    | none =>
      refine ⟨_, S₂.ns, fun h' hs => ?_⟩
      have := q (.ref D) h' t₁ (hf h' (S₃.dropBut hC hs.extBut))
      rw [es]; exact this
    | some u =>
      refine hf C m h₁ S₃ _ _ _ rfl (fun _ h₂ t₂ z => ?_) fun _ _ _ y => y.elim
      obtain ⟨l', m', S₄, z⟩ := z
      refine ⟨_, S₄.obs _ (.head _), fun h' hs => ?_⟩
      have := q .none h' t₂ (z h' (S₄.dropBut hC hs.extBut))
      rw [es]; exact this

/-- the source is at hand: the list, the namespace, the turns -/
theorem compFrom {elt iter : Expr} {x : Str} {px : Pos} {scope : Scope} {cpos : Pos} {cl : List (Str × Addr)} {use : Option (Value → Sem Unit)} {Q : Value → Heap → Prop} {it : Addr} {ks : Nat → K} {val : Nat → Value → Prop}
    (J : Nat → List Value → Prop) (R : A.handled = none) (Sr : Src b h₀ X fz ob it n ks val) (hn : n ≤ sizeLine) (hkind : scope.kind = .function) (hcell : ∀ y ∈ scope.names, y.2 ≠ .cell) (hx : ∀ C, (compEnvC scope cl C env).kindOf x = some .local) (hL : env.locals = L)
    (turn : ∀ C D i v ys m h, val i v → J i ys → ys.length = i → St b h₀ X fz C ((x, v) :: m) ((L, .ns l) :: (D, .lst ys) :: (it, ks (i + 1)) :: ob) h →
      W prog w A (eval elt (compEnvC scope cl C env)) (fun y h' => J (i + 1) (ys ++ [y]) ∧ St b h₀ X fz C ((x, v) :: m) ((L, .ns l) :: (D, .lst ys) :: (it, ks (i + 1)) :: ob) h') (fun _ _ => False) h)
    (fin : ∀ D ys, J n ys → ys.length = n → useK prog w A use Q b h₀ X fz L l ob D ys) (h0 : J 0 [])
    (S : St b h₀ X fz L l ((it, ks 0) :: ob) h) (s : Shared) (e : s.heap = h) (Q' E' : Value → Shared → Prop) (q : ∀ v h' tk, Q v h' → Q' v { s with heap := h', toks := tk }) :
    wpAny (model prog w) A (newList []) (fun acc s₃ => wpAny (model prog w) A (newFunctionEnv scope env.globals cl [] env.qual none .none (some env)) (fun cenv s₄ =>
        codeAny (model prog w) A (.compStart (.ListComp elt [⟨.Name x px, iter, [], 0⟩] scope cpos) 0 (.ref it) acc { cenv with scope := relabel scope env }) (compPost (model prog w) A E' use Q' acc cenv.locals) s₄) E' s₃) E' s := by
  subst e
  refine W.newList (E := fun _ _ => False) (Q := fun acc h₁ => ∃ D, acc = .ref D ∧ St b h₀ X fz L l ((D, .lst []) :: (it, ks 0) :: ob) h₁) S (Nat.zero_le _) (fun D h' S' => ⟨D, rfl, S'⟩) s _ _ rfl (fun acc h₁ t₁ y => ?_) fun _ _ _ y => y.elim
  obtain ⟨D, rfl, S₁⟩ := y
  refine wpAny_newFunctionEnv hcell (fun _ h => nomatch h) (fun h₂ hn₂ hs₂ => ?_) hkind
  have hC0 : h₁.get? h₁.objs.size = none := Heap.get?_none_of_le (Nat.le_refl _)
  have S₂ : St b h₀ X fz L l ((h₁.objs.size, .ns []) :: (D, .lst []) :: (it, ks 0) :: ob) h₂ := S₁.add (k := .ns []) (.keeps fun b' o e => (hs₂.2 b' (Nat.ne_of_lt (Heap.lt_size e))).trans (Heap.get?_push_of_some _ e)) hC0 hn₂
  have hCn : h₀.get? h₁.objs.size = none := S₁.ext.fresh hC0
  have S₃ := S₂.swap hCn
  revert S₃ hCn
  show _ → _ → codeAny (model prog w) A (.compStart (.ListComp elt [⟨.Name x px, iter, [], 0⟩] scope cpos) 0 (.ref it) (.ref D) (compEnvC scope cl h₁.objs.size env)) (compPost (model prog w) A E' use Q' (.ref D) h₁.objs.size) _
  generalize h₁.objs.size = C
  intro hCn S₃
  have fin' : ∀ s' : Shared, s'.heap = h₂ → s' = { s with heap := h₂, toks := s'.toks } → codeAny (model prog w) A (.compLoop (.ListComp elt [⟨.Name x px, iter, [], 0⟩] scope cpos) 0 (.ref it) (.ref D) (compEnvC scope cl C env)) (compPost (model prog w) A E' use Q' (.ref D) C) s' := fun s' e es =>
    compLoop J R Sr hn hkind (hx C) hCn S.new (fun i v ys m h a1 a2 a3 a4 => turn C D i v ys m h a1 a2 a3 a4) (fin D) h0 S₃ s' e Q' E' (fun v h' tk y => by rw [es]; exact q v h' tk y)
  refine codeAny_compStart_list (fin' _ rfl rfl) ?_
  refine Sr.again prog w A C _ _ h₂ (fun _ _ => False) (fun r h₄ => r = .ref it ∧ h₄ = h₂) S₃ (.tail _ (.tail _ (.head _))) ⟨rfl, rfl⟩ _ _ _ rfl (fun r h₄ t₄ y => ?_) fun _ _ _ y => y.elim
  obtain ⟨rfl, rfl⟩ := y
  exact fin' _ rfl rfl
noncomputable def compK (prog : Program) (w : World) (A : Around) (elt iter : Expr) (x : Str) (px : Pos) (scope : Scope) (cpos : Pos) (cl : List (Str × Addr)) (env : Env) (use : Option (Value → Sem Unit)) (Q : Value → Heap → Prop) (v : Value) (h : Heap) : Prop :=
  ∀ (s : Shared) (Q' E' : Value → Shared → Prop), s.heap = h → (∀ v h' tk, Q v h' → Q' v { s with heap := h', toks := tk }) → wpAny (model prog w) A (pyIter v) (fun it s₂ => wpAny (model prog w) A (newList []) (fun acc s₃ =>
    wpAny (model prog w) A (newFunctionEnv scope env.globals cl [] env.qual none .none (some env)) (fun cenv s₄ =>
      codeAny (model prog w) A (.compStart (.ListComp elt [⟨.Name x px, iter, [], 0⟩] scope cpos) 0 it acc { cenv with scope := relabel scope env }) (compPost (model prog w) A E' use Q' acc cenv.locals) s₄) E' s₃) E' s₂) E' s
theorem compK.list {elt iter : Expr} {x : Str} {px : Pos} {scope : Scope} {cpos : Pos} {cl : List (Str × Addr)} {use : Option (Value → Sem Unit)} {Q : Value → Heap → Prop} {xs : List Value}
    (J : Nat → List Value → Prop) (R : A.handled = none) (S : St b h₀ X fz L l ob h) (hl : ∀ L l ob' h, (∀ p ∈ ob, p ∈ ob') → St b h₀ X fz L l ob' h → h.PlainList a xs.toArray) (hn : xs.length ≤ sizeLine)
    (hkind : scope.kind = .function) (hcell : ∀ y ∈ scope.names, y.2 ≠ .cell) (hx : ∀ C, (compEnvC scope cl C env).kindOf x = some .local) (hL : env.locals = L)
    (h0 : J 0 [])
    (turn : ∀ C D it i v ys m h, xs[i]? = some v → J i ys → ys.length = i → St b h₀ X fz C ((x, v) :: m) ((L, .ns l) :: (D, .lst ys) :: (it, .it a (i + 1)) :: ob) h →
      W prog w A (eval elt (compEnvC scope cl C env)) (fun y h' => J (i + 1) (ys ++ [y]) ∧ St b h₀ X fz C ((x, v) :: m) ((L, .ns l) :: (D, .lst ys) :: (it, .it a (i + 1)) :: ob) h') (fun _ _ => False) h)
    (fin : ∀ D ys, J xs.length ys → ys.length = xs.length → useK prog w A use Q b h₀ X fz L l ob D ys) : compK prog w A elt iter x px scope cpos cl env use Q (.ref a) h := by
  intro s Q' E' e q
  subst e
  have hl0 := hl L l ob s.heap (fun _ h => h) S
  refine wpAny_pyIter_list hl0.isList ?_
  have hit0 : h₀.get? s.heap.objs.size = none := S.ext.fresh (Heap.get?_none_of_le (Nat.le_refl _))
  have S₁ := S.add (k := .it a 0) (h' := s.heap.push { cls := .type "list_iterator", data := .fields #[.ref a, .int 0 0] }) (.keeps fun _ _ e => Heap.get?_push_of_some _ e) (Heap.get?_none_of_le (Nat.le_refl _)) ⟨_, Heap.get?_push_size _ rfl, rfl, rfl⟩
  exact compFrom J R (src_list hl hit0) hn hkind hcell hx hL (fun C D i v ys m h a1 a2 a3 a4 => turn C D _ i v ys m h a1 a2 a3 a4) fin h0 S₁ _ rfl Q' E' (fun v h' tk y => q v h' tk y)
theorem compK.range {elt iter : Expr} {x : Str} {px : Pos} {scope : Scope} {cpos : Pos} {cl : List (Str × Addr)} {use : Option (Value → Sem Unit)} {Q : Value → Heap → Prop} {N : Nat} {t u v : Tok}
    (J : Nat → List Value → Prop) (R : A.handled = none) (S : St b h₀ X fz L l ob h) (hr : IsRange h a 0 N 1 t u v) (hn : N ≤ sizeLine)
    (hkind : scope.kind = .function) (hcell : ∀ y ∈ scope.names, y.2 ≠ .cell) (hx : ∀ C, (compEnvC scope cl C env).kindOf x = some .local) (hL : env.locals = L)
    (h0 : J 0 [])
    (turn : ∀ C D it i tk ys m h, i < N → J i ys → ys.length = i → St b h₀ X fz C ((x, .int i tk) :: m) ((L, .ns l) :: (D, .lst ys) :: (it, .rit (i + 1 : Nat) ((N : Int) - (i + 1 : Nat)) 1) :: ob) h →
      W prog w A (eval elt (compEnvC scope cl C env)) (fun y h' => J (i + 1) (ys ++ [y]) ∧ St b h₀ X fz C ((x, .int i tk) :: m) ((L, .ns l) :: (D, .lst ys) :: (it, .rit (i + 1 : Nat) ((N : Int) - (i + 1 : Nat)) 1) :: ob) h') (fun _ _ => False) h)
    (fin : ∀ D ys, J N ys → ys.length = N → useK prog w A use Q b h₀ X fz L l ob D ys) : compK prog w A elt iter x px scope cpos cl env use Q (.ref a) h := by
  intro s Q' E' e q
  subst e
  have hN : (N : Int) < 2 ^ 62 := by
    have : sizeLine = 16777216 := sizeLine_eq
    (first | lia | omega)
  refine wpAny_pyIter_range hr (small_one (by decide) (by decide) (by (first | lia | omega)) hN) ?_
  rw [rangeSize_one]
  have hsz : (if (0 : Int) < (N : Int) then (N : Int) - 0 else 0) = (N : Int) := by split <;> (first | lia | omega)
  rw [hsz]
  have S₁ := S.add (k := .rit (0 : Int) (N : Int) 1) (h' := s.heap.push { cls := .type "range_iterator", data := .fields #[rawInt 0, rawInt N, rawInt 1] }) (.keeps fun _ _ e => Heap.get?_push_of_some _ e) (Heap.get?_none_of_le (Nat.le_refl _)) (Heap.get?_push_size _ rfl)
  have hit0 : h₀.get? s.heap.objs.size = none := S.ext.fresh (Heap.get?_none_of_le (Nat.le_refl _))
  refine compFrom (n := N) (ks := fun i => .rit (i : Int) ((N : Int) - i) 1) (val := fun i v => i < N ∧ ∃ t, v = .int i t) J R ?_ hn hkind hcell hx hL (fun C D i v ys m h a1 a2 a3 a4 => ?_) fin h0 (by simpa using S₁) _ rfl Q' E' (fun v h' tk y => q v h' tk y)
  · have := src_range (b := b) (X := X) (fz := fz) (ob := ob) (N := N) hit0
    exact ⟨fun prog w A L l ob' h i E Q r1 r2 r3 r4 r5 => this.next prog w A L l ob' h i E Q r1 r2 r3 r4 fun v h' hv => r5 v h' ⟨r2, hv⟩, this.again, this.stop⟩
  · obtain ⟨hi, tk, rfl⟩ := a1
    exact turn C D _ i tk ys m h hi a2 a3 a4
theorem W.comp {elt iter : Expr} {x : Str} {px : Pos} {scope : Scope} {cl : List (Str × Addr)} {Q : Value → Heap → Prop} (hclos : closureFor scope env = Pure.pure cl) (hkind : scope.kind = .function)
    (hnames : ∀ x ∈ scope.names, x.2 = .local → scope.names.lookup x.1 = some .local)
    (y : W prog w A (eval iter env) (fun v h₁ => compK prog w A elt iter x px scope pos cl env none Q v h₁) E h) (hs : ∀ x, foldedSetIterable iter env x = Pure.pure x := by intro _; rfl) :
    W prog w A (eval (.ListComp elt [⟨.Name x px, iter, [], 0⟩] scope pos) env) Q E h := by
  intro s Q' E' e q r
  rw [eval_ListComp]
  refine wpAny_comprehension_free (use := none) rfl hs hclos hkind hnames ?_
  exact y s _ _ e (fun v h₁ t₁ z => z _ Q' E' rfl fun v h₂ t₂ y => q v h₂ t₂ y) r
theorem W.assignComp {elt iter : Expr} {x t : Str} {px pt spos : Pos} {scope : Scope} {cl : List (Str × Addr)} {Q : Flow → Heap → Prop} (hsw : swapsWith (.ListComp elt [⟨.Name x px, iter, [], 0⟩] scope pos) (some (.Name t pt)) spos.line env = Pure.pure true)
    (hclos : closureFor scope env = Pure.pure cl) (hkind : scope.kind = .function) (hnames : ∀ x ∈ scope.names, x.2 = .local → scope.names.lookup x.1 = some .local)
    (y : W prog w A (eval iter env) (fun v h₁ => compK prog w A elt iter x px scope pos cl env (some (PySem.assign (.Name t pt) env)) (fun _ => Q .next) v h₁) E h) (hs : ∀ x, foldedSetIterable iter env x = Pure.pure x := by intro _; rfl) :
    W prog w A (exec (.Assign [.Name t pt] (.ListComp elt [⟨.Name x px, iter, [], 0⟩] scope pos) spos) env) Q E h := by
  intro s Q' E' e q r
  rw [exec_Assign_Name_used _ _ _ _ hsw]
  refine wpAny_bind (wpAny_standAt (wpAny_bind ?_))
  show wpAny _ A (do let _ ← comprehension (.ListComp elt [⟨.Name x px, iter, [], 0⟩] scope pos) scope env _ (PySem.newList []) false (eval iter env) (some (PySem.assign (.Name t pt) env))) _ _ s
  refine wpAny_bind (wpAny_mono (wpAny_comprehension_free (use := some (PySem.assign (.Name t pt) env)) (Q := fun _ s' => Q' .next s') rfl hs hclos hkind hnames ?_) (fun _ s' hq => wpAny_pure (wpAny_pure hq)) fun _ _ e => e)
  exact y s _ _ e (fun v h₁ t₁ z => z _ (fun _ s' => Q' .next s') E' rfl fun v h₂ t₂ y => q .next h₂ t₂ y) r
end
end J

namespace J

section
variable {prog : Program} {w : World} {A : Around} {E : Value → Heap → Prop} {h h₀ h₁ : Heap} {b : Bs} {X : List Addr} {fz : List (Addr × K)} {L : Addr} {l : List (Str × Value)} {ob : List (Addr × K)}
  {env : Env} {pos : Pos} {v : Value} {i n : Nat} {a : Addr} {t u : Tok}

/-! chains -/
section
variable {Q : Bool → Heap → Prop}
theorem W.chain {l : Expr} {op₁ op₂ : CmpOp} {ops : List CmpOp} {r₁ r₂ : Expr} {rs : List Expr} {whole : Sem Value} (x : W prog w A (eval l env) (fun a h₁ => W prog w A (testChain pos a (op₁ :: op₂ :: ops) (eval r₁ env :: eval r₂ env :: evalEach rs env)) Q E h₁) E h)
    (hm : lastMarks (op₁ :: op₂ :: ops) (r₁ :: r₂ :: rs) = false := by with_unfolding_all rfl) : W prog w A (isTrue (.Compare l (op₁ :: op₂ :: ops) (r₁ :: r₂ :: rs) pos) env whole) Q E h :=
  fun s Q' E' e q r => isTrue_chain (x s _ E' e (fun v h₁ t₁ y => y _ Q' E' rfl (fun v h₃ t₃ z => q v h₃ t₃ z) fun v h₃ t₃ z => r v h₃ t₃ z) r) hm
theorem W.link {op op' : CmpOp} {ops : List CmpOp} {m m' : Sem Value} {rs : List (Sem Value)} (x : W prog w A m (fun c h₁ => W prog w A (compareOp op v c) (fun d h₂ => W prog w A (truthy d) (fun t h₃ => iteK t (W prog w A (testChain pos c (op' :: ops) (m' :: rs)) Q E h₃) (Q false h₃)) E h₂) E h₁) E h) :
    W prog w A (testChain pos v (op :: op' :: ops) (m :: m' :: rs)) Q E h :=
  fun s Q' E' e q r => test_link (x s _ E' e (fun c h₁ t₁ y => y _ _ E' rfl (fun d h₂ t₂ y => y _ _ E' rfl (fun t h₃ t₃ y => by
    cases t with
    | true => exact y.1 rfl _ Q' E' rfl (fun v h₃ t₃ z => q v h₃ t₃ z) fun v h₃ t₃ z => r v h₃ t₃ z
    | false => exact q _ h₃ t₃ (y.2 rfl)) fun v h₃ t₃ z => r v h₃ t₃ z) fun v h₃ t₃ z => r v h₃ t₃ z) r)
theorem W.last {op : CmpOp} {m : Sem Value} (x : W prog w A m (fun c h₁ => W prog w A (compareOp op v c) (fun d h₂ => W prog w A (truthy d) Q E h₂) E h₁) E h) : W prog w A (testChain pos v [op] [m]) Q E h :=
  fun s Q' E' e q r => test_last (x s _ E' e (fun c h₁ t₁ y => y _ _ E' rfl (fun d h₂ t₂ y => y _ Q' E' rfl (fun v h₃ t₃ z => q v h₃ t₃ z) fun v h₃ t₃ z => r v h₃ t₃ z) fun v h₃ t₃ z => r v h₃ t₃ z) r)
end

/-! items -/
section
variable {Q : Value → Heap → Prop} {xs : List Value} {k : Int}
theorem W.subscr {value slice : Expr} (x : W prog w A (eval value env) (fun o h₁ => W prog w A (eval slice env) (fun i h₂ => W prog w A (subscriptTail value slice o i) Q E h₂) E h₁) E h) : W prog w A (eval (.Subscript value slice pos) env) Q E h :=
  fun s Q' E' e q r => Subscript_ (x s _ E' e (fun o h₁ t₁ y => y _ _ E' rfl (fun i h₂ t₂ y => y _ Q' E' rfl (fun v h₃ t₃ z => q v h₃ t₃ z) fun v h₃ t₃ z => r v h₃ t₃ z) fun v h₃ t₃ z => r v h₃ t₃ z) r)
theorem W.item {value slice : Expr} (hl : h.PlainList a xs.toArray) (h0 : 0 ≤ k) (h1 : k < xs.length) (h2 : xs.length < 2 ^ 63) (x : ∀ v, xs[k.toNat]? = some v → Q v h)
    (hs : subscripted slice false (.ref a) (.int k u) = operate [.ref a, .int k u] (getItem (.ref a) (.int k u)) := by with_unfolding_all rfl) : W prog w A (subscriptTail value slice (.ref a) (.int k u)) Q E h :=
  fun s Q' E' e q r => by
    subst e
    have hk : k.toNat < xs.length := by (first | lia | omega)
    exact tail_any hl.isList.typeIs slot_list_getitem.lookup (wpAny_getItem_list hl.isList h0 (by (first | lia | omega)) (x := xs[k.toNat]) (by simp [hk]) (q _ _ s.toks (x _ (List.getElem?_eq_getElem hk)))) hs
theorem ints_item : ∀ {xs : List Value} {ns : List Int} {i : Nat} {v : Value}, IntsAre xs ns → xs[i]? = some v → ∃ t, v = .int (ns.getD i 0) t
  | _, _, 0, _, .cons n t _, e => by simp at e; exact ⟨t, by rw [← e]; simp⟩
  | _, _, i + 1, _, .cons n t r, e => by
    simp at e
    obtain ⟨t', z⟩ := ints_item r e
    exact ⟨t', by rw [z]; simp⟩
theorem W.inTup {ns : List Int} (S : St b h₀ X fz L l ob h) (hi : ob[i]? = some (a, .tup xs)) (his : IntsAre xs ns) (x : Q (.bool (ns.any fun y => y == k)) h) : W prog w A (compareOp .In (.int k u) (.ref a)) Q E h :=
  fun s Q' E' e q r => by
    subst e
    have e1 : s.heap.get? a = _ := S.obs _ (List.mem_of_getElem? hi)
    exact in_tuple_ints (items := xs.toArray) ⟨_, e1, rfl, _, rfl⟩ (by simpa using his) (q _ _ s.toks x)
end

/-! the built-ins of the text -/
section
variable {Q : Value → Heap → Prop} {xs : List Value} {k : Int} {x y : List UInt8}
theorem W.cbytes' {k : Nat} (q : ∀ t, Q (.bytes x.toArray t) h) : W prog w A (eval (.Constant (.bytes x) k pos) env) Q E h := fun s _ _ e q' _ => Constant_bytes (q' _ _ _ (e ▸ q s.toks))
theorem W.badd (hz : x.length + y.length ≤ 16777216) (q : ∀ t, Q (.bytes (x ++ y).toArray t) h) : W prog w A (binaryOp .Add (.bytes x.toArray t) (.bytes y.toArray u)) Q E h :=
  fun s _ _ e q' _ => KBy.add_bytes (by simpa using hz) fun t' k => by
    have := q' _ _ k (q t')
    subst e
    simpa using this
theorem W.bne (q : Q (.bool (x != y)) h) : W prog w A (compareOp .NotEq (.bytes x.toArray t) (.bytes y.toArray u)) Q E h := fun s _ _ e q' _ => ne_bytes (q' _ _ s.toks (e ▸ q))
theorem W.blen (hz : x.length ≤ 1099511627776) (q : ∀ t, Q (.int x.length t) h) : W prog w A (PySem.call (.builtin "len") [.bytes x.toArray t]) Q E h := fun s _ _ e q' _ => len_bytes (by simpa using hz) (q' _ _ _ (e ▸ q _))
noncomputable def bl (ns : List Int) : List UInt8 := ns.map fun n => n.toNat.toUInt8
theorem W.bytesI {ns : List Int} (R : A.handled = none) (S : St b h₀ X fz L l ob h) (hl : h.PlainList a xs.toArray) (hi : IntsAre xs ns) (hr : ∀ n ∈ ns, 0 ≤ n ∧ n < 256) (hz : xs.length ≤ sizeLine)
    (q : ∀ t h', St b h₀ X fz L l ob h' → Q (.bytes (bl ns).toArray t) h') : W prog w A (PySem.call (.type "bytes") [.ref a]) Q E h := fun s _ _ e q' _ => by
  subst e
  exact call_bytes_ints hl.isList hi hr hz R fun h' t k hk => q' _ _ _ (q t h' (S.keeps hk))
theorem W.lenL (hl : h.PlainList a xs.toArray) (hz : xs.length < 2 ^ 62) (q : ∀ t, Q (.int xs.length t) h) : W prog w A (PySem.call (.builtin "len") [.ref a]) Q E h := fun s _ _ e q' _ => by
  subst e
  refine Calls.call_len_list hl.isList (by simp; (first | lia | omega)) ?_
  have := q' _ s.heap (s.toks + 1 + 1) (q (s.toks + 1))
  simpa using this
theorem W.rangeC {N : Int} {t : Tok} (S : St b h₀ X fz L l ob h) (q : ∀ r h' t' u', IsRange h' r 0 N 1 t' t u' → St b h₀ X fz L l ((r, .ob { cls := .type "range", data := .fields #[.int 0 t', .int N t, .int 1 u'] }) :: ob) h' → Q (.ref r) h') :
    W prog w A (PySem.call (.type "range") [.int N t]) Q E h := fun s _ _ e q' _ => by
  subst e
  refine call_range_1 (q' _ _ _ (q _ _ _ _ (Heap.get?_push_size _ rfl) (S.push _ rfl (.inr ⟨_, rfl, by decide⟩))))
theorem W.listC (S : St b h₀ X fz L l ob h) (hl : h.PlainList a xs.toArray) (hz : xs.length ≤ sizeLine) (q : ∀ D h', St b h₀ X fz L l ((D, .lst xs) :: ob) h' → Q (.ref D) h') : W prog w A (PySem.call (.type "list") [.ref a]) Q E h := fun s _ _ e q' _ => by
  subst e
  obtain ⟨n, e1⟩ := hl
  refine call_list_seq a (.inl rfl) e1 rfl rfl (fun h' c' hk hD => q' _ _ s.toks (q _ _ (S.add (k := .lst xs) (.keeps hk) (Heap.get?_none_of_le (Nat.le_refl _)) ⟨c', hD⟩))) (by simpa using hz)
theorem W.ladd {ys zs : List Value} {c : Addr} (S : St b h₀ X fz L l ob h) (hl : h.PlainList a ys.toArray) (hc : h.PlainList c zs.toArray) (hz : ys.length + zs.length ≤ sizeLine)
    (q : ∀ D h', St b h₀ X fz L l ((D, .lst (ys ++ zs)) :: ob) h' → Q (.ref D) h') : W prog w A (binaryOp .Add (.ref a) (.ref c)) Q E h := fun s _ _ e q' _ => by
  subst e
  obtain ⟨n1, e1⟩ := hl
  obtain ⟨n2, e2⟩ := hc
  refine P.add_list e1 e2 (q' _ _ s.toks (q _ _ ?_)) (by simpa using hz)
  exact S.add (k := .lst (ys ++ zs)) (.keeps fun _ _ e => Heap.get?_push_of_some _ e) (Heap.get?_none_of_le (Nat.le_refl _)) ⟨0, by rw [Heap.get?_push_size _ rfl]; simp⟩
end
end
end J

namespace J

noncomputable def defNames : List Str := [Str.ofString "_calcsize", Str.ofString "_pack", Str.ofString "PackTag", Str.ofString "ZigZagEncode", Str.ofString "Int32ByteSize", Str.ofString "Int64ByteSize", Str.ofString "UInt32ByteSize", Str.ofString "UInt64ByteSize", Str.ofString "SInt32ByteSize", Str.ofString "SInt64ByteSize", Str.ofString "Fixed32ByteSize", Str.ofString "Fixed64ByteSize", Str.ofString "SFixed32ByteSize", Str.ofString "SFixed64ByteSize", Str.ofString "BoolByteSize", Str.ofString "EnumByteSize", Str.ofString "StringByteSize", Str.ofString "BytesByteSize", Str.ofString "TagByteSize", Str.ofString "_VarUInt64ByteSizeNoTag", Str.ofString "_VarintSize", Str.ofString "_SignedVarintSize", Str.ofString "_TagSize", Str.ofString "_SimpleSizer", Str.ofString "_ModifiedSizer", Str.ofString "_FixedSizer", Str.ofString "Int32Sizer", Str.ofString "Int64Sizer", Str.ofString "EnumSizer", Str.ofString "UInt32Sizer", Str.ofString "UInt64Sizer", Str.ofString "SInt32Sizer", Str.ofString "SInt64Sizer", Str.ofString "Fixed32Sizer", Str.ofString "SFixed32Sizer", Str.ofString "Fixed64Sizer", Str.ofString "SFixed64Sizer", Str.ofString "BoolSizer", Str.ofString "StringSizer", Str.ofString "BytesSizer", Str.ofString "_EncodeVarint", Str.ofString "_EncodeSignedVarint", Str.ofString "_VarintBytes", Str.ofString "TagBytes", Str.ofString "_SimpleEncoder", Str.ofString "_ModifiedEncoder", Str.ofString "_StructPackEncoder", Str.ofString "Int32Encoder", Str.ofString "Int64Encoder", Str.ofString "EnumEncoder", Str.ofString "UInt32Encoder", Str.ofString "UInt64Encoder", Str.ofString "SInt32Encoder", Str.ofString "SInt64Encoder", Str.ofString "Fixed32Encoder", Str.ofString "Fixed64Encoder", Str.ofString "SFixed32Encoder", Str.ofString "SFixed64Encoder", Str.ofString "BoolEncoder", Str.ofString "StringEncoder", Str.ofString "BytesEncoder", Str.ofString "_law_cell", Str.ofString "_law_varint", Str.ofString "_law_eight", Str.ofString "_law_bounds", Str.ofString "_law_value", Str.ofString "_law_wire", Str.ofString "_law_one", Str.ofString "_law_size", Str.ofString "_law_written", Str.ofString "_law_told", Str.ofString "_law_refused", Str.ofString "_law_field"]

/-- the i-th row of the text is a def without defaults: it stands in the base as it is written -/
noncomputable def HasF (b : Bs) (i : Nat) : Prop := match PySem.Challenge.pw_jd0022_01.main.body[i]? with
  | some (.FunctionDef name params body _ _ _ scope _ _ _) => ∃ cd, FnO b.B (b.fa name) name params body scope [] .none cd
  | _ => False
/-- .. with a default of None -/
noncomputable def HasFd (b : Bs) (i : Nat) : Prop := match PySem.Challenge.pw_jd0022_01.main.body[i]? with
  | some (.FunctionDef name params body _ _ _ scope _ _ _) => ∃ cd dV, FnO b.B (b.fa name) name params body scope [] dV cd ∧ DvIs b.B [.none] dV
  | _ => False
/-- .. and its code has an open table -/
noncomputable def Maker (b : Bs) (i : Nat) : Prop := match PySem.Challenge.pw_jd0022_01.main.body[i]? with
  | some (.FunctionDef name params body _ _ _ scope _ _ _) => ∃ c P, FnO b.B (b.fa name) name params body scope [] .none (.ref c) ∧ CodeHd b.B c P ∧ P ∈ b.ts
  | _ => False

structure Hyp (b : Bs) : Prop where
  g : Good b
  nm : ∀ x, defNames.contains x = true → b.mg x = some (.ref (b.fa x)) ∧ FnAt (b.fa x) b.B
  fn : ∀ i ∈ [4, 5, 13, 14, 15, 16, 17, 18, 19, 20, 21, 22, 23, 24, 25, 26, 27, 28, 29, 30, 32, 33, 34, 38, 39, 40, 41, 42, 43, 44, 45, 46, 47, 48, 49, 55, 59, 60, 61, 62, 63, 64, 65, 66, 67, 68, 69, 74, 75, 76, 77, 78, 79, 80, 81, 83, 84, 85], HasF b i
  fd : ∀ i ∈ [52, 53], HasFd b i
  mkr : ∀ i ∈ [35, 36, 37, 50, 51, 54, 56, 57, 58, 70, 71, 72, 82], Maker b i
  c0 : ∃ t, b.mg "TAG_TYPE_BITS" = some (.int 3 t)
  c1 : ∃ t, b.mg "WIRETYPE_VARINT" = some (.int 0 t)
  c2 : ∃ t, b.mg "WIRETYPE_FIXED64" = some (.int 1 t)
  c3 : ∃ t, b.mg "WIRETYPE_LENGTH_DELIMITED" = some (.int 2 t)
  c4 : ∃ t, b.mg "WIRETYPE_FIXED32" = some (.int 5 t)
  c5 : ∃ t, b.mg "_WIRETYPE_MAX" = some (.int 5 t)
  c6 : ∃ t, b.mg "UINT64_MAX" = some (.int 18446744073709551615 t)
  b0 : b.mg "range" = none
  b1 : b.mg "len" = none
  b2 : b.mg "bytes" = none
  b3 : b.mg "chr" = none
  b4 : b.mg "ord" = none
  b5 : b.mg "abs" = none
  b6 : b.mg "list" = none
  b7 : b.mg "int" = none

section
variable {prog : Program} {w : World} {A : Around} {E : Value → Heap → Prop} {h h₀ : Heap} {b : Bs} {X : List Addr} {fz : List (Addr × K)} {L : Addr} {l : List (Str × Value)} {ob ob' : List (Addr × K)}
  {env : Env} {pos : Pos} {v : Value} {i n : Nat} {a c p f : Addr} {qn x : Str} {params : Arguments} {body : List Stmt} {sc : Scope} {cd : Value} {vs : List Value} {binds : List (Str × Value)} {cl : List (Str × Addr)}

/-! names -/
theorem FnAt.up (x : FnAt a b.B) (O : Ok b h) : FnAt a h := FnAt.keeps x fun c o e _ _ => O.sub c o e
section
variable {Q : Value → Heap → Prop}
theorem W.gdef (H : Hyp b) (O : Ok b h) (hm : defNames.contains x = true) (hg : env.globals = mainGlobals) (hk : env.scope.kind = .function) (hx : env.kindOf x = some .globalImplicit) (hd : (x == ("__debug__" : Str)) = false) (q : Q (.ref (b.fa x)) h) :
    W prog w A (eval (.Name x pos) env) Q E h := W.global H.g O (H.nm x hm).1 hg hk hx hd q
theorem W.gint {n : Int} (H : Hyp b) (O : Ok b h) (hm : ∃ t, b.mg x = some (.int n t)) (hg : env.globals = mainGlobals) (hk : env.scope.kind = .function) (hx : env.kindOf x = some .globalImplicit) (hd : (x == ("__debug__" : Str)) = false) (q : ∀ t, Q (.int n t) h) :
    W prog w A (eval (.Name x pos) env) Q E h := let ⟨t, e⟩ := hm; W.global H.g O e hg hk hx hd (q t)
theorem bb0 : bootBuiltins "range" = some (.type "range") := by decide +kernel
theorem bb1 : bootBuiltins "len" = some (.builtin "len") := by decide +kernel
theorem bb2 : bootBuiltins "bytes" = some (.type "bytes") := by decide +kernel
theorem bb3 : bootBuiltins "chr" = some (.builtin "chr") := by decide +kernel
theorem bb4 : bootBuiltins "ord" = some (.builtin "ord") := by decide +kernel
theorem bb5 : bootBuiltins "abs" = some (.builtin "abs") := by decide +kernel
theorem bb6 : bootBuiltins "list" = some (.type "list") := by decide +kernel
theorem bb7 : bootBuiltins "int" = some (.type "int") := by decide +kernel
theorem W.gbi (H : Hyp b) (O : Ok b h) (hg : b.mg x = none) (hv : bootBuiltins x = some v) (hn : (x == ("__name__" : Str)) = false) (hg' : env.globals = mainGlobals) (hb' : env.builtins = builtinsNs) (hk : env.scope.kind = .function) (hx : env.kindOf x = some .globalImplicit) (hd : (x == ("__debug__" : Str)) = false) (q : Q v h) :
    W prog w A (eval (.Name x pos) env) Q E h := W.builtin H.g O hg hv hn hg' hb' hk hx hd q
theorem W.cellM (S : St b h₀ X fz L l ob h) (hc : env.cells.lookup x = some c) (hm : (c, .cell (some v)) ∈ ob) (hk : env.scope.kind = .function) (hx : env.kindOf x = some .cell) (hd : (x == ("__debug__" : Str)) = false) (q : Q v h) :
    W prog w A (eval (.Name x pos) env) Q E h :=
  fun s _ _ e q' _ => wpAny_Name (wpAny_loadName_cell hk hx hc (e ▸ S.obs _ hm) (q' _ _ s.toks (e ▸ q))) hd
theorem W.freeM (S : St b h₀ X fz L l ob h) (hc : env.cells.lookup x = some c) (hm : (c, .cell (some v)) ∈ fz) (hk : env.scope.kind = .function) (hx : env.kindOf x = some .free) (hd : (x == ("__debug__" : Str)) = false)
    (hn : (x == ("__classdict__" : Str)) = false) (q : Q v h) : W prog w A (eval (.Name x pos) env) Q E h :=
  fun s _ _ e q' _ => wpAny_Name (wpAny_loadName_free hk hx hc (e ▸ S.fzAt hm) (q' _ _ s.toks (e ▸ q)) hn) hd
end

/-- one of the objects is turned -/
inductive Upd : List (Addr × K) → Addr → K → K → List (Addr × K) → Prop
  | head {a : Addr} {k k' : K} {r : List (Addr × K)} : Upd ((a, k) :: r) a k k' ((a, k') :: r)
  | tail {a : Addr} {k k' : K} {x : Addr × K} {r r' : List (Addr × K)} : Upd r a k k' r' → Upd (x :: r) a k k' (x :: r')
theorem Upd.ix {k k' : K} (u : Upd ob a k k' ob') : ∃ i, ob[i]? = some (a, k) ∧ ob' = ob.set i (a, k') := by
  induction u with
  | head => exact ⟨0, rfl, rfl⟩
  | tail _ ih => obtain ⟨i, e1, e2⟩ := ih; exact ⟨i + 1, e1, by rw [e2]; rfl⟩
theorem W.storeCM {v₀ : Option Value} {Q : Unit → Heap → Prop} (S : St b h₀ X fz L l ob h) (hc : env.cells.lookup x = some c) (hm : Upd ob c (.cell v₀) (.cell (some v)) ob') (hk : env.scope.kind = .function) (hx : env.kindOf x = some .cell)
    (q : ∀ h', St b h₀ X fz L l ob' h' → Q () h') : W prog w A (storeName env x v) Q E h := by
  obtain ⟨i, e1, e2⟩ := hm.ix
  exact W.storeC S hc e1 hk hx fun h' S' => q h' (e2 ▸ S')

section
variable {α : Type} {Q : α → Heap → Prop} {m : Sem α}
theorem gW (x : W prog w A m Q E h) : W prog w A m Q E h := x
end
section
variable {Q : Value → Heap → Prop} {e : Expr} {u : Value}
theorem gEval (x : W prog w A (eval e env) Q E h) : W prog w A (eval e env) Q E h := x
theorem gName {pos : Pos} (y : W prog w A (eval (.Name x pos) env) Q E h) : W prog w A (eval (.Name x pos) env) Q E h := y
theorem gBin {op : Operator} (x : W prog w A (binaryOp op v u) Q E h) : W prog w A (binaryOp op v u) Q E h := x
theorem gCmp {op : CmpOp} (x : W prog w A (compareOp op v u) Q E h) : W prog w A (compareOp op v u) Q E h := x
theorem gCall (x : W prog w A (PySem.call v vs) Q E h) : W prog w A (PySem.call v vs) Q E h := x
end
theorem gFA {P : Prop} (x : FnAt a h) (y : P) : FnAt a h ∧ P := ⟨x, y⟩
theorem gExec {Q : Flow → Heap → Prop} {st : Stmt} (x : W prog w A (exec st env) Q E h) : W prog w A (exec st env) Q E h := x
theorem gTest {Q : Bool → Heap → Prop} {e : Expr} {whole : Sem Value} (x : W prog w A (isTrue e env whole) Q E h) : W prog w A (isTrue e env whole) Q E h := x

theorem W.last0 {Q : Bool → Heap → Prop} {op : CmpOp} {m : Sem Value} {env' : Env} (x : W prog w A m (fun c h₁ => W prog w A (compareOp op v c) (fun d h₂ => W prog w A (truthy d) Q E h₂) E h₁) E h) : W prog w A (testChain pos v [op] (m :: evalEach [] env')) Q E h := W.last x

theorem mem0 {α : Type} {x : α} {r : List α} : x ∈ x :: r := .head _
theorem memS {α : Type} {x y : α} {r : List α} (hl : (y :: r).length = r.length + 1) (m : x ∈ r) : x ∈ y :: r := .tail _ m
theorem updS {k k' : K} {x : Addr × K} {r r' : List (Addr × K)} (hl : (x :: r).length = r.length + 1) (m : Upd r a k k' r') : Upd (x :: r) a k k' (x :: r') := .tail m

theorem cwK.meth1 {Q : Value → Heap → Prop} {id : String} {y : Value} {e : Expr} {r : List Expr} (x : W prog w A (spliced (backTo pos (starEach (e :: r) env))) (fun vs h₂ => W prog w A (PySem.call (.builtin id) (y :: vs)) Q E h₂) E h)
    (he : starEach (e :: r) env = (false, eval e env) :: starEach r env) (hp : (backTo pos (starEach r env)).any (·.1) = false) : cwK prog w A pos (.builtin id) [y] (e :: r) env Q E h := cwK.meth x he hp

/-! frames -/
theorem bindK.cons {x : Str} {v : Value} {r : List (Str × Value)} {k : Heap → Prop} (y : W prog w A (storeName env x v) (fun _ h' => bindK prog w A env r k h') (fun _ _ => False) h) : bindK prog w A env ((x, v) :: r) k h := y
theorem bindK.nil {p : Heap → Prop} (S : St b h₀ X fz L l ob h) (y : p h) : bindK prog w A env [] (fun h₂ => Ok b h₂ ∧ p h₂) h := ⟨S.ok, y⟩
theorem bindK.mono {k k' : Heap → Prop} (e : ∀ h, k h → k' h) : ∀ {binds : List (Str × Value)} {h : Heap}, bindK prog w A env binds k h → bindK prog w A env binds k' h
  | [], h, y => e h y
  | (x, v) :: r, h, y => W.mono (Q := fun _ h' => bindK prog w A env r k h') y (fun _ h' z => bindK.mono e z) fun _ _ z => z
theorem FnO.up {dV : Value} (x : FnO b.B a qn params body sc cl dV cd) (O : Ok b h) : FnO h a qn params body sc cl dV cd :=
  let ⟨o, name, kV, doc, pm, an, ct, e, d, c⟩ := x
  ⟨o, name, kV, doc, pm, an, ct, O.sub _ _ e, d, c.keeps O.sub⟩
theorem DvIs.up {dv : List Value} {dV : Value} (x : DvIs b.B dv dV) (O : Ok b h) : DvIs h dv dV := by
  cases dv with
  | nil => exact x
  | cons d r => obtain ⟨T, e1, e2⟩ := x; exact ⟨T, e1, O.sub _ _ e2⟩
/-- a call of a def that raises nothing -/
theorem W.frame {dV : Value} {dv : List Value} {ob₀ : List (Addr × K)} {Q : Value → Heap → Prop} (G : Good b) (O : Ok b h) (F : FnO h a qn params body sc cl dV cd) (D : DvIs h dv dV) (R : Room (n + 1) A)
    (hb : ∀ s name kV doc pm an ct, s.heap = h → BindsTo s (fnX name qn params body sc cl dV kV doc pm an cd ct) ⟨vs, []⟩ binds)
    (hxb : ∀ x ∈ X, b.B.get? x = none) (hfz : ∀ p ∈ fz, p.2.at h p.1 ∧ p.1 ∉ X) (hob : ∀ p ∈ ob₀, p.2.at h p.1 ∧ p.1 ∈ X) (hnd : (ob₀.map (·.1)).Nodup)
    (k : ∀ L h₁ A', Room n A' → St b h X fz L [] (cellObs (L + 1) sc.names ++ ob₀) h₁ → bindK prog w A.in1 (envX qn sc L a cd (cellsFrom (L + 1) sc.names cl)) binds (fun h₂ => Ok b h₂ ∧
      W prog w A' (execs body (envX qn sc L a cd (cellsFrom (L + 1) sc.names cl))) (retK Q) (fun _ _ => False) h₂) h₁)
    (hco : sc.isCoroutine = false := by rfl) (hgen : sc.isGenerator = false := by rfl) : W prog w A (PySem.call (.ref a) vs) Q E h :=
  W.call (ob₀ := ob₀) (X := X) (fz := fz) G O F (by have := R.dp; (first | lia | omega)) hb hxb hfz hob hnd (fun L h₁ S => bindK.mono (fun h₂ y => ⟨y.1, W.mono y.2 (fun _ _ y => y) fun _ _ y => y.elim⟩) (k L h₁ _ R.deeper S)) hco hgen
/-- of the top, turning nothing -/
theorem W.def0 {Q : Value → Heap → Prop} (H : Hyp b) (O : Ok b h) (F : ∃ cd, FnO b.B a qn params body sc [] .none cd) (R : Room (n + 1) A) (binds : List (Str × Value))
    (hb : ∀ cd name kV doc pm an ct, bindArgs (fnX name qn params body sc [] .none kV doc pm an cd ct) ⟨vs, []⟩ = Pure.pure binds)
    (k : ∀ L h₁ A' cd, Room n A' → St b h [] [] L [] (cellObs (L + 1) sc.names) h₁ → bindK prog w A.in1 (envX qn sc L a cd (cellsFrom (L + 1) sc.names [])) binds (fun h₂ => Ok b h₂ ∧
      W prog w A' (execs body (envX qn sc L a cd (cellsFrom (L + 1) sc.names []))) (retK Q) (fun _ _ => False) h₂) h₁)
    (hco : sc.isCoroutine = false := by rfl) (hgen : sc.isGenerator = false := by rfl) : W prog w A (PySem.call (.ref a) vs) Q E h := by
  obtain ⟨cd, F⟩ := F
  refine W.frame (ob₀ := []) (X := []) (fz := []) (dv := []) H.g O (F.up O) rfl R (fun s name kV doc pm an ct _ => BindsTo.of_eq (hb cd name kV doc pm an ct)) (fun _ h => nomatch h) (fun _ h => nomatch h) (fun _ h => nomatch h) List.nodup_nil (fun L h₁ A' R' S => ?_) hco hgen
  rw [List.append_nil] at S
  exact k L h₁ A' cd R' S
/-- .. and making defs -/
theorem W.mkr0 {Q : Value → Heap → Prop} (H : Hyp b) (O : Ok b h) (F : ∃ c P, FnO b.B a qn params body sc [] .none (.ref c) ∧ CodeHd b.B c P ∧ P ∈ b.ts) (R : Room (n + 1) A) (binds : List (Str × Value))
    (hb : ∀ cd name kV doc pm an ct, bindArgs (fnX name qn params body sc [] .none kV doc pm an cd ct) ⟨vs, []⟩ = Pure.pure binds)
    (k : ∀ L h₁ A' c P, Room n A' → (∀ h', Ok b h' → CodeHd h' c P ∧ TabOk b.B h' P) → St b h [] [] L [] (cellObs (L + 1) sc.names) h₁ → bindK prog w A.in1 (envX qn sc L a (.ref c) (cellsFrom (L + 1) sc.names [])) binds (fun h₂ => Ok b h₂ ∧
      W prog w A' (execs body (envX qn sc L a (.ref c) (cellsFrom (L + 1) sc.names []))) (retK Q) (fun _ _ => False) h₂) h₁)
    (hco : sc.isCoroutine = false := by rfl) (hgen : sc.isGenerator = false := by rfl) : W prog w A (PySem.call (.ref a) vs) Q E h := by
  obtain ⟨c, P, F, C, hP⟩ := F
  refine W.frame (ob₀ := []) (X := []) (fz := []) (dv := []) H.g O (F.up O) rfl R (fun s name kV doc pm an ct _ => BindsTo.of_eq (hb _ name kV doc pm an ct)) (fun _ h => nomatch h) (fun _ h => nomatch h) (fun _ h => nomatch h) List.nodup_nil (fun L h₁ A' R' S => ?_) hco hgen
  rw [List.append_nil] at S
  exact k L h₁ A' c P R' (fun h' O' => ⟨codeHd_at C fun o => O'.sub _ _, O'.tabs P hP⟩) S
end
end J

namespace J
/-! closed looks at a scope: one check a name -/
noncomputable def scN (k : NameKind) (sc : Scope) (x : Str) : Bool := decide (sc.kind = .function) && (decide (sc.names.lookup x = some k) && !(x == ("__debug__" : Str)))
noncomputable def scF (sc : Scope) (x : Str) : Bool := scN .free sc x && !(x == ("__classdict__" : Str))
noncomputable def scB (sc : Scope) (x : Str) : Bool := scN .globalImplicit sc x && !(x == ("__name__" : Str))
noncomputable def scD (sc : Scope) (x : Str) : Bool := scN .globalImplicit sc x && defNames.contains x
theorem scN.k {k : NameKind} {sc : Scope} {x : Str} (e : scN k sc x = true) : sc.kind = .function := of_decide_eq_true (Bool.and_eq_true_iff.mp e).1
theorem scN.n {k : NameKind} {sc : Scope} {x : Str} (e : scN k sc x = true) : sc.names.lookup x = some k := of_decide_eq_true (Bool.and_eq_true_iff.mp (Bool.and_eq_true_iff.mp e).2).1
theorem scN.d {k : NameKind} {sc : Scope} {x : Str} (e : scN k sc x = true) : (x == ("__debug__" : Str)) = false := by
  have := (Bool.and_eq_true_iff.mp (Bool.and_eq_true_iff.mp e).2).2
  simpa using this
theorem memT {α : Type} {x y : α} {r : List α} (m : x ∈ r) : x ∈ y :: r := .tail _ m
section
variable {prog : Program} {w : World} {A : Around} {E : Value → Heap → Prop} {h h₀ : Heap} {b : Bs} {X : List Addr} {fz : List (Addr × K)} {L : Addr} {l : List (Str × Value)} {ob ob' : List (Addr × K)}
  {env : Env} {pos : Pos} {v : Value} {a c : Addr} {qn x : Str} {sc : Scope} {cd : Value} {cs : List (Str × Addr)}
section
variable {Q : Value → Heap → Prop}
theorem W.loc (S : St b h₀ X fz L l ob h) (hv : l.lookup x = some v) (k : scN .local sc x = true) (q : Q v h) : W prog w A (eval (.Name x pos) (envX qn sc L a cd cs)) Q E h := W.local S hv rfl (scN.k k) (scN.n k) (scN.d k) q
theorem W.cel (S : St b h₀ X fz L l ob h) (hc : cs.lookup x = some c) (hm : (c, .cell (some v)) ∈ ob) (k : scN .cell sc x = true) (q : Q v h) : W prog w A (eval (.Name x pos) (envX qn sc L a cd cs)) Q E h := W.cellM S hc hm (scN.k k) (scN.n k) (scN.d k) q
theorem W.fre (S : St b h₀ X fz L l ob h) (hc : cs.lookup x = some c) (hm : (c, .cell (some v)) ∈ fz) (k : scF sc x = true) (q : Q v h) : W prog w A (eval (.Name x pos) (envX qn sc L a cd cs)) Q E h :=
  have k1 := (Bool.and_eq_true_iff.mp k).1
  W.freeM S hc hm (scN.k k1) (scN.n k1) (scN.d k1) (by have := (Bool.and_eq_true_iff.mp k).2; simpa using this) q
theorem W.gi {n : Int} (H : Hyp b) (O : Ok b h) (hm : ∃ t, b.mg x = some (.int n t)) (k : scN .globalImplicit sc x = true) (q : ∀ t, Q (.int n t) h) : W prog w A (eval (.Name x pos) (envX qn sc L a cd cs)) Q E h := W.gint H O hm rfl (scN.k k) (scN.n k) (scN.d k) q
theorem W.bi (H : Hyp b) (O : Ok b h) (hg : b.mg x = none) (hv : bootBuiltins x = some v) (k : scB sc x = true) (q : Q v h) : W prog w A (eval (.Name x pos) (envX qn sc L a cd cs)) Q E h :=
  have k1 := (Bool.and_eq_true_iff.mp k).1
  W.gbi H O hg hv (by have := (Bool.and_eq_true_iff.mp k).2; simpa using this) rfl rfl (scN.k k1) (scN.n k1) (scN.d k1) q
theorem W.df (H : Hyp b) (O : Ok b h) (k : scD sc x = true) (q : Q (.ref (b.fa x)) h) : W prog w A (eval (.Name x pos) (envX qn sc L a cd cs)) Q E h :=
  have k1 := (Bool.and_eq_true_iff.mp k).1
  W.gdef H O (Bool.and_eq_true_iff.mp k).2 rfl (scN.k k1) (scN.n k1) (scN.d k1) q
theorem W.g0 (H : Hyp b) (O : Ok b h) (k : scN .globalImplicit sc "TAG_TYPE_BITS" = true) (q : ∀ t, Q (.int 3 t) h) : W prog w A (eval (.Name "TAG_TYPE_BITS" pos) (envX qn sc L a cd cs)) Q E h := W.gi H O H.c0 k q
theorem W.g1 (H : Hyp b) (O : Ok b h) (k : scN .globalImplicit sc "WIRETYPE_VARINT" = true) (q : ∀ t, Q (.int 0 t) h) : W prog w A (eval (.Name "WIRETYPE_VARINT" pos) (envX qn sc L a cd cs)) Q E h := W.gi H O H.c1 k q
theorem W.g2 (H : Hyp b) (O : Ok b h) (k : scN .globalImplicit sc "WIRETYPE_FIXED64" = true) (q : ∀ t, Q (.int 1 t) h) : W prog w A (eval (.Name "WIRETYPE_FIXED64" pos) (envX qn sc L a cd cs)) Q E h := W.gi H O H.c2 k q
theorem W.g3 (H : Hyp b) (O : Ok b h) (k : scN .globalImplicit sc "WIRETYPE_LENGTH_DELIMITED" = true) (q : ∀ t, Q (.int 2 t) h) : W prog w A (eval (.Name "WIRETYPE_LENGTH_DELIMITED" pos) (envX qn sc L a cd cs)) Q E h := W.gi H O H.c3 k q
theorem W.g4 (H : Hyp b) (O : Ok b h) (k : scN .globalImplicit sc "WIRETYPE_FIXED32" = true) (q : ∀ t, Q (.int 5 t) h) : W prog w A (eval (.Name "WIRETYPE_FIXED32" pos) (envX qn sc L a cd cs)) Q E h := W.gi H O H.c4 k q
theorem W.g5 (H : Hyp b) (O : Ok b h) (k : scN .globalImplicit sc "_WIRETYPE_MAX" = true) (q : ∀ t, Q (.int 5 t) h) : W prog w A (eval (.Name "_WIRETYPE_MAX" pos) (envX qn sc L a cd cs)) Q E h := W.gi H O H.c5 k q
theorem W.g6 (H : Hyp b) (O : Ok b h) (k : scN .globalImplicit sc "UINT64_MAX" = true) (q : ∀ t, Q (.int 18446744073709551615 t) h) : W prog w A (eval (.Name "UINT64_MAX" pos) (envX qn sc L a cd cs)) Q E h := W.gi H O H.c6 k q
theorem W.b0 (H : Hyp b) (O : Ok b h) (k : scB sc "range" = true) (q : Q (.type "range") h) : W prog w A (eval (.Name "range" pos) (envX qn sc L a cd cs)) Q E h := W.bi H O H.b0 bb0 k q
theorem W.b1 (H : Hyp b) (O : Ok b h) (k : scB sc "len" = true) (q : Q (.builtin "len") h) : W prog w A (eval (.Name "len" pos) (envX qn sc L a cd cs)) Q E h := W.bi H O H.b1 bb1 k q
theorem W.b2 (H : Hyp b) (O : Ok b h) (k : scB sc "bytes" = true) (q : Q (.type "bytes") h) : W prog w A (eval (.Name "bytes" pos) (envX qn sc L a cd cs)) Q E h := W.bi H O H.b2 bb2 k q
theorem W.b3 (H : Hyp b) (O : Ok b h) (k : scB sc "chr" = true) (q : Q (.builtin "chr") h) : W prog w A (eval (.Name "chr" pos) (envX qn sc L a cd cs)) Q E h := W.bi H O H.b3 bb3 k q
theorem W.b4 (H : Hyp b) (O : Ok b h) (k : scB sc "ord" = true) (q : Q (.builtin "ord") h) : W prog w A (eval (.Name "ord" pos) (envX qn sc L a cd cs)) Q E h := W.bi H O H.b4 bb4 k q
theorem W.b5 (H : Hyp b) (O : Ok b h) (k : scB sc "abs" = true) (q : Q (.builtin "abs") h) : W prog w A (eval (.Name "abs" pos) (envX qn sc L a cd cs)) Q E h := W.bi H O H.b5 bb5 k q
theorem W.b6 (H : Hyp b) (O : Ok b h) (k : scB sc "list" = true) (q : Q (.type "list") h) : W prog w A (eval (.Name "list" pos) (envX qn sc L a cd cs)) Q E h := W.bi H O H.b6 bb6 k q
theorem W.b7 (H : Hyp b) (O : Ok b h) (k : scB sc "int" = true) (q : Q (.type "int") h) : W prog w A (eval (.Name "int" pos) (envX qn sc L a cd cs)) Q E h := W.bi H O H.b7 bb7 k q
theorem W.lds (S : St b h₀ X fz L l ob h) (hv : l.lookup x = some v) (k : scN .local sc x = true) (q : Q v h) : W prog w A (loadName (envX qn sc L a cd cs) x) Q E h := W.ldlocal S hv rfl (scN.k k) (scN.n k) q
end
theorem Hyp.up (H : Hyp b) (O : Ok b h) (k : defNames.contains x = true) : FnAt (b.fa x) h := FnAt.up (H.nm x k).2 O
theorem W.sto {Q : Unit → Heap → Prop} (S : St b h₀ X fz L l ob h) (k : scN .local sc x = true) (q : ∀ h', St b h₀ X fz L ((x, v) :: l) ob h' → Q () h') : W prog w A (storeName (envX qn sc L a cd cs) x v) Q E h := W.storeL S rfl (scN.k k) (scN.n k) q
theorem W.stc {v₀ : Option Value} {Q : Unit → Heap → Prop} (S : St b h₀ X fz L l ob h) (hc : cs.lookup x = some c) (hm : Upd ob c (.cell v₀) (.cell (some v)) ob') (k : scN .cell sc x = true) (q : ∀ h', St b h₀ X fz L l ob' h' → Q () h') : W prog w A (storeName (envX qn sc L a cd cs) x v) Q E h := W.storeCM S hc hm (scN.k k) (scN.n k) q
/-- the last statement of a row -/
theorem W.one {Q : Flow → Heap → Prop} {st : Stmt} (x : W prog w A (exec st env) Q E h) : W prog w A (execs [st] env) Q E h :=
  W.cons (W.mono x (fun f h' y => by
    cases f with
    | next => exact seqK.next (W.nil y)
    | _ => exact y) fun _ _ y => y)
/-- what comes behind a statement, hidden -/
theorem W.consK {Q : Flow → Heap → Prop} {st : Stmt} {rest : List Stmt} (x : ∀ K : Flow → Heap → Prop, (∀ f h', seqK prog w A rest env Q E f h' → K f h') → W prog w A (exec st env) K E h) : W prog w A (execs (st :: rest) env) Q E h := W.cons (x _ fun _ _ y => y)
theorem k11 : ∀ k : Nat, k < 11 → k = 0 ∨ k = 1 ∨ k = 2 ∨ k = 3 ∨ k = 4 ∨ k = 5 ∨ k = 6 ∨ k = 7 ∨ k = 8 ∨ k = 9 ∨ k = 10 := by decide
end
/-! what comes behind, by name: the rules once more -/
section
variable (prog : Program) (w : World) (A : Around) (E : Value → Heap → Prop) (env : Env) (pos : Pos)
noncomputable abbrev kB2 (op : Operator) (Q : Value → Heap → Prop) (a c : Value) (h : Heap) : Prop := W prog w A (binaryOp op a c) Q E h
noncomputable abbrev kB1 (op : Operator) (r : Expr) (Q : Value → Heap → Prop) (a : Value) (h : Heap) : Prop := W prog w A (eval r env) (kB2 prog w A E op Q a) E h
noncomputable abbrev kU1 (op : UnaryOp) (Q : Value → Heap → Prop) (a : Value) (h : Heap) : Prop := W prog w A (unaryOp op a) Q E h
noncomputable abbrev kC2 (op : CmpOp) (Q : Value → Heap → Prop) (a c : Value) (h : Heap) : Prop := W prog w A (compareOp op a c) Q E h
noncomputable abbrev kC1 (op : CmpOp) (r : Expr) (Q : Value → Heap → Prop) (a : Value) (h : Heap) : Prop := W prog w A (eval r env) (kC2 prog w A E op Q a) E h
noncomputable abbrev kTr (Q : Bool → Heap → Prop) (v : Value) (h : Heap) : Prop := W prog w A (truthy v) Q E h
noncomputable abbrev kIf (body orelse : List Stmt) (Q : Flow → Heap → Prop) (b : Bool) (h : Heap) : Prop := iteK b (W prog w A (execs body env) Q E h) (W prog w A (execs orelse env) Q E h)
noncomputable abbrev kRet (Q : Flow → Heap → Prop) (v : Value) (h : Heap) : Prop := Q (.ret v) h
noncomputable abbrev kNx (Q : Flow → Heap → Prop) (_ : Unit) (h : Heap) : Prop := Q .next h
noncomputable abbrev kEx (Q : Flow → Heap → Prop) (_ : Value) (h : Heap) : Prop := Q .next h
noncomputable abbrev kAs (x : Str) (Q : Flow → Heap → Prop) (v : Value) (h : Heap) : Prop := W prog w A (storeName env x v) (kNx Q) E h
noncomputable abbrev kA2 (x : Str) (op : Operator) (Q : Flow → Heap → Prop) (o v : Value) (h : Heap) : Prop := W prog w A (inplaceOp op o v) (kAs prog w A E env x Q) E h
noncomputable abbrev kA1 (x : Str) (op : Operator) (value : Expr) (Q : Flow → Heap → Prop) (o : Value) (h : Heap) : Prop := W prog w A (eval value env) (kA2 prog w A E env x op Q o) E h
noncomputable abbrev kCa (args : List Expr) (Q : Value → Heap → Prop) (v : Value) (h : Heap) : Prop := cwK prog w A pos v [] args env Q E h
noncomputable abbrev kI2 (Q : List Value → Heap → Prop) (v : Value) (vs : List Value) (h : Heap) : Prop := Q (v :: vs) h
noncomputable abbrev kI1 (r : List Expr) (Q : List Value → Heap → Prop) (v : Value) (h : Heap) : Prop := W prog w A (spliced (backTo pos (starEach r env))) (kI2 Q v) E h
noncomputable abbrev kF (q : Addr) (Q : Value → Heap → Prop) (vs : List Value) (h : Heap) : Prop := FnAt q h ∧ W prog w A (PySem.call (.ref q) vs) Q E h
noncomputable abbrev kBi (id : String) (Q : Value → Heap → Prop) (vs : List Value) (h : Heap) : Prop := W prog w A (PySem.call (.builtin id) vs) Q E h
noncomputable abbrev kTy (id : String) (Q : Value → Heap → Prop) (vs : List Value) (h : Heap) : Prop := W prog w A (PySem.call (.type id) vs) Q E h
noncomputable abbrev kMe (id : String) (y : Value) (Q : Value → Heap → Prop) (vs : List Value) (h : Heap) : Prop := W prog w A (PySem.call (.builtin id) (y :: vs)) Q E h
noncomputable abbrev kM2 (args : List Expr) (Q : Value → Heap → Prop) (fx : Value × List Value) (h : Heap) : Prop := cwK prog w A pos fx.1 fx.2 args env Q E h
noncomputable abbrev kM1 (name : Str) (pl : Sem Bool) (args : List Expr) (Q : Value → Heap → Prop) (ov : Value) (h : Heap) : Prop := W prog w A (getMethod ov name pl) (kM2 prog w A E env pos args Q) E h
noncomputable abbrev kLi (Q : Value → Heap → Prop) (vs : List Value) (h : Heap) : Prop := W prog w A (newList vs) Q E h
noncomputable abbrev kTu (Q : Value → Heap → Prop) (vs : List Value) (h : Heap) : Prop := W prog w A (newTuple vs) Q E h
noncomputable abbrev kS2 (value slice : Expr) (Q : Value → Heap → Prop) (o i : Value) (h : Heap) : Prop := W prog w A (subscriptTail value slice o i) Q E h
noncomputable abbrev kS1 (value slice : Expr) (Q : Value → Heap → Prop) (o : Value) (h : Heap) : Prop := W prog w A (eval slice env) (kS2 prog w A E value slice Q o) E h
noncomputable abbrev kCh (op₁ op₂ : CmpOp) (ops : List CmpOp) (r₁ r₂ : Expr) (rs : List Expr) (Q : Bool → Heap → Prop) (a : Value) (h : Heap) : Prop := W prog w A (testChain pos a (op₁ :: op₂ :: ops) (eval r₁ env :: eval r₂ env :: evalEach rs env)) Q E h
noncomputable abbrev kL3 (op' : CmpOp) (ops : List CmpOp) (m' : Sem Value) (rs : List (Sem Value)) (Q : Bool → Heap → Prop) (c : Value) (t : Bool) (h : Heap) : Prop := iteK t (W prog w A (testChain pos c (op' :: ops) (m' :: rs)) Q E h) (Q false h)
noncomputable abbrev kL1 (op op' : CmpOp) (ops : List CmpOp) (m' : Sem Value) (rs : List (Sem Value)) (v : Value) (Q : Bool → Heap → Prop) (c : Value) (h : Heap) : Prop := W prog w A (compareOp op v c) (kTr prog w A E (kL3 prog w A E pos op' ops m' rs Q c)) E h
noncomputable abbrev kLa (op : CmpOp) (v : Value) (Q : Bool → Heap → Prop) (c : Value) (h : Heap) : Prop := W prog w A (compareOp op v c) (kTr prog w A E Q) E h
noncomputable abbrev kNo (Q : Bool → Heap → Prop) (b : Bool) (h : Heap) : Prop := Q (!b) h
noncomputable abbrev kAn (r : List Expr) (Q : Bool → Heap → Prop) (b : Bool) (h : Heap) : Prop := iteK b (W prog w A (allTrue .And r env) Q E h) (Q false h)
noncomputable abbrev kOr (r : List Expr) (Q : Bool → Heap → Prop) (b : Bool) (h : Heap) : Prop := iteK b (Q true h) (W prog w A (allTrue .Or r env) Q E h)
noncomputable abbrev kBd (r : List (Str × Value)) (k : Heap → Prop) (_ : Unit) (h : Heap) : Prop := bindK prog w A env r k h
end
section
variable {prog : Program} {w : World} {A : Around} {E : Value → Heap → Prop} {h : Heap} {env : Env} {pos : Pos} {v : Value} {x : Str}
section
variable {Q : Value → Heap → Prop}
theorem V.binop {l r : Expr} {op : Operator} (y : W prog w A (eval l env) (kB1 prog w A E env op r Q) E h) : W prog w A (eval (.BinOp l op r pos) env) Q E h := W.binop y
theorem V.unop {l : Expr} {op : UnaryOp} (y : W prog w A (eval l env) (kU1 prog w A E op Q) E h) : W prog w A (eval (.UnaryOp op l pos) env) Q E h := W.unop y
theorem V.compare {l r : Expr} {op : CmpOp} (y : W prog w A (eval l env) (kC1 prog w A E env op r Q) E h) (hm : behindInMarks op r = false) : W prog w A (eval (.Compare l [op] [r] pos) env) Q E h := W.compare y hm
theorem V.callE {f : Expr} {args : List Expr} (y : W prog w A (eval f env) (kCa prog w A E env pos args Q) E h)
    (he : eval (.Call f args [] pos) env = (do callWith pos (← eval f env) [] (backTo pos (starEach args env)) (backToKw pos (keywordEach [] env)))) : W prog w A (eval (.Call f args [] pos) env) Q E h := W.callE y he
theorem V.fn {q : Addr} {e : Expr} {r : List Expr} (F : FnAt q h) (y : W prog w A (spliced (backTo pos (starEach (e :: r) env))) (kF prog w A E q Q) E h)
    (he : starEach (e :: r) env = (false, eval e env) :: starEach r env) (hp : (backTo pos (starEach r env)).any (·.1) = false) : cwK prog w A pos (.ref q) [] (e :: r) env Q E h := cwK.fn F y he hp
theorem V.bi {id : String} {e : Expr} {r : List Expr} (y : W prog w A (spliced (backTo pos (starEach (e :: r) env))) (kBi prog w A E id Q) E h)
    (he : starEach (e :: r) env = (false, eval e env) :: starEach r env) (hp : (backTo pos (starEach r env)).any (·.1) = false) : cwK prog w A pos (.builtin id) [] (e :: r) env Q E h := cwK.bi y he hp
theorem V.ty {id : String} {e : Expr} {r : List Expr} (y : W prog w A (spliced (backTo pos (starEach (e :: r) env))) (kTy prog w A E id Q) E h)
    (he : starEach (e :: r) env = (false, eval e env) :: starEach r env) (hp : (backTo pos (starEach r env)).any (·.1) = false) : cwK prog w A pos (.type id) [] (e :: r) env Q E h := cwK.ty y he hp
theorem V.meth1 {id : String} {u : Value} {e : Expr} {r : List Expr} (y : W prog w A (spliced (backTo pos (starEach (e :: r) env))) (kMe prog w A E id u Q) E h)
    (he : starEach (e :: r) env = (false, eval e env) :: starEach r env) (hp : (backTo pos (starEach r env)).any (·.1) = false) : cwK prog w A pos (.builtin id) [u] (e :: r) env Q E h := cwK.meth1 y he hp
theorem V.method {o : Expr} {name : Str} {apos : Pos} {args : List Expr} {pl : Sem Bool} (y : W prog w A (eval o env) (kM1 prog w A E env pos name pl args Q) E h)
    (he : eval (.Call (.Attribute o name apos) args [] pos) env = (do
      let ov ← eval o env
      standAt apos.atName
      let (f, first) ← holding [ov] (getMethod ov name pl)
      callWith pos f first (backTo pos (starEach args env)) [])) : W prog w A (eval (.Call (.Attribute o name apos) args [] pos) env) Q E h := W.method y he
theorem V.list {es : List Expr} (y : W prog w A (spliced (backTo pos (starEach es env))) (kLi prog w A E Q) E h) : W prog w A (eval (.List es pos) env) Q E h := W.list y
theorem V.tuple {es : List Expr} {k : Nat} (y : W prog w A (spliced (backTo pos (starEach es env))) (kTu prog w A E Q) E h) : W prog w A (eval (.Tuple es k pos) env) Q E h := W.tuple y
theorem V.subscr {value slice : Expr} (y : W prog w A (eval value env) (kS1 prog w A E env value slice Q) E h) : W prog w A (eval (.Subscript value slice pos) env) Q E h := W.subscr y
end
theorem V.items1 {Q : List Value → Heap → Prop} {e : Expr} {r : List Expr} (y : W prog w A (eval e env) (kI1 prog w A E env pos r Q) E h) (he : starEach (e :: r) env = (false, eval e env) :: starEach r env) : W prog w A (spliced (backTo pos (starEach (e :: r) env))) Q E h := W.items1 y he
section
variable {Q : Flow → Heap → Prop}
theorem V.if {test : Expr} {body orelse : List Stmt} (y : W prog w A (isTrue test env (eval test env)) (kIf prog w A E env body orelse Q) E h) : W prog w A (exec (.If test body orelse pos) env) Q E h := W.if y
theorem V.return {e : Expr} (y : W prog w A (eval e env) (kRet Q) E h) : W prog w A (exec (.Return (some e) pos) env) Q E h := W.return y
theorem V.assign {p : Pos} {value : Expr} (y : W prog w A (eval value env) (kAs prog w A E env x Q) E h) (hs : swapsWith value (some (.Name x p)) pos.line env = Pure.pure false) : W prog w A (exec (.Assign [.Name x p] value pos) env) Q E h := W.assign y hs
theorem V.aug {p : Pos} {op : Operator} {value : Expr} (y : W prog w A (loadName env x) (kA1 prog w A E env x op value Q) E h) : W prog w A (exec (.AugAssign (.Name x p) op value pos) env) Q E h := W.aug y
theorem V.expr {e : Expr} (y : W prog w A (eval e env) (kEx Q) E h) (hi : interactive env = false) (hs : swapsWith e none pos.line env = Pure.pure false) : W prog w A (exec (.Expr e pos) env) Q E h := W.expr y hi hs
end
section
variable {Q : Bool → Heap → Prop}
theorem V.tcompare {l r : Expr} {op : CmpOp} {whole : Sem Value} (y : W prog w A (eval l env) (kC1 prog w A E env op r (kTr prog w A E Q)) E h) (hm : behindInMarks op r = false) : W prog w A (isTrue (.Compare l [op] [r] pos) env whole) Q E h := W.tcompare y hm
theorem V.chain {l : Expr} {op₁ op₂ : CmpOp} {ops : List CmpOp} {r₁ r₂ : Expr} {rs : List Expr} {whole : Sem Value} (y : W prog w A (eval l env) (kCh prog w A E env pos op₁ op₂ ops r₁ r₂ rs Q) E h)
    (hm : lastMarks (op₁ :: op₂ :: ops) (r₁ :: r₂ :: rs) = false) : W prog w A (isTrue (.Compare l (op₁ :: op₂ :: ops) (r₁ :: r₂ :: rs) pos) env whole) Q E h := W.chain y hm
theorem V.link {op op' : CmpOp} {ops : List CmpOp} {m m' : Sem Value} {rs : List (Sem Value)} (y : W prog w A m (kL1 prog w A E pos op op' ops m' rs v Q) E h) : W prog w A (testChain pos v (op :: op' :: ops) (m :: m' :: rs)) Q E h := W.link y
theorem V.last {op : CmpOp} {m : Sem Value} (y : W prog w A m (kLa prog w A E op v Q) E h) : W prog w A (testChain pos v [op] [m]) Q E h := W.last y
theorem V.last0 {op : CmpOp} {m : Sem Value} {env' : Env} (y : W prog w A m (kLa prog w A E op v Q) E h) : W prog w A (testChain pos v [op] (m :: evalEach [] env')) Q E h := W.last0 y
theorem V.tvalue {e : Expr} {whole : Sem Value} (y : W prog w A whole (kTr prog w A E Q) E h) (he : isTrue e env whole = (do let v ← whole; standAt e.pos; holding [v] (truthy v))) : W prog w A (isTrue e env whole) Q E h := W.tvalue y he
theorem V.tnot {e : Expr} {whole : Sem Value} (y : W prog w A (isTrue e env (eval e env)) (kNo Q) E h) : W prog w A (isTrue (.UnaryOp .Not e pos) env whole) Q E h := W.tnot y
theorem V.and_cons {e : Expr} {r : List Expr} (y : W prog w A (isTrue e env (eval e env)) (kAn prog w A E env r Q) E h) : W prog w A (allTrue .And (e :: r) env) Q E h := W.and_cons y
theorem V.or_cons {e : Expr} {r : List Expr} (y : W prog w A (isTrue e env (eval e env)) (kOr prog w A E env r Q) E h) : W prog w A (allTrue .Or (e :: r) env) Q E h := W.or_cons y
end
theorem V.bcons {r : List (Str × Value)} {k : Heap → Prop} (y : W prog w A (storeName env x v) (kBd prog w A env r k) (fun _ _ => False) h) : bindK prog w A env ((x, v) :: r) k h := bindK.cons y
end
end J

namespace J
set_option compiler.extract_closed false
local macro_rules | `(tactic| wtm_at "asm") => `(tactic| with_reducible assumption)
local macro_rules | `(tactic| wtm_at "la") => `(tactic| first | lia | omega)
local macro_rules | `(tactic| wtm_at "lk") => `(tactic| first | with_reducible assumption | with_reducible exact lk0 | ((with_reducible refine' lkS ?n ?e); (case n => kernel_rfl); (case e => wtm_at "lk")) | fail "no lk")
local macro_rules | `(tactic| wtm_at "mem") => `(tactic| first | with_reducible exact mem0 | ((with_reducible refine' memT ?m); (case m => wtm_at "mem")) | fail "no mem")
local macro_rules | `(tactic| wtm_at "upd") => `(tactic| first | with_reducible exact Upd.head | ((with_reducible refine' Upd.tail ?m); (case m => wtm_at "upd")) | fail "no upd")
local macro_rules | `(tactic| wtm_at "room") => `(tactic| with_reducible exact Room.le (by assumption) (by decide))
local macro_rules | `(tactic| wtm_at "ok") => `(tactic| first | with_reducible assumption | with_reducible exact St.ok (by assumption))
local macro_rules | `(tactic| wtm_at "om") => `(tactic| first | with_reducible assumption | decide | wtm_at "la" | with_reducible exact ($(Lean.mkIdent `maskU0) _).1 | with_reducible exact ($(Lean.mkIdent `maskU0) _).2 | with_reducible exact ($(Lean.mkIdent `zz_range) (by assumption) (by assumption)).1 | with_reducible exact ($(Lean.mkIdent `zz_range) (by assumption) (by assumption)).2)
local macro_rules | `(tactic| wtm_at "len") => `(tactic| first | decide | with_reducible exact Nat.le_trans (by assumption) (by decide) | wtm_at "la" | (simp only [List.length_append, List.length_cons, List.length_nil]; wtm_at "la"))
local macro_rules | `(tactic| wtm_at "ints") => `(tactic| first | with_reducible assumption | with_reducible exact $(Lean.mkIdent `IntsAre.nil) | with_reducible exact $(Lean.mkIdent `IntsAre.cons) _ _ (by wtm_at "ints"))
local macro_rules | `(tactic| wtm_at "use") => `(tactic| ((with_reducible refine $(Lean.mkIdent `St.useI) (by assumption) ?_); intro _ _ _))
local macro_rules | `(tactic| wtm_at "name") => `(tactic| first
  | ((with_reducible refine' W.loc ?S ?v ?k ?_); (case S => with_reducible assumption); (case v => wtm_at "lk"); (case k => kernel_rfl))
  | ((with_reducible refine' W.fre ?S ?v ?m ?k ?_); (case S => with_reducible assumption); (case v => wtm_at "lk"); (case m => wtm_at "mem"); (case k => kernel_rfl))
  | ((with_reducible refine' W.cel ?S ?v ?m ?k ?_); (case S => with_reducible assumption); (case v => wtm_at "lk"); (case m => wtm_at "mem"); (case k => kernel_rfl))
  | ((with_reducible first | refine W.g0 (by assumption) ?_ ?_ ?_ | refine W.g1 (by assumption) ?_ ?_ ?_ | refine W.g2 (by assumption) ?_ ?_ ?_ | refine W.g3 (by assumption) ?_ ?_ ?_ | refine W.g4 (by assumption) ?_ ?_ ?_ | refine W.g5 (by assumption) ?_ ?_ ?_ | refine W.g6 (by assumption) ?_ ?_ ?_); wtm_at "ok"; kernel_rfl; intro _)
  | ((with_reducible first | refine W.b0 (by assumption) ?_ ?_ ?_ | refine W.b1 (by assumption) ?_ ?_ ?_ | refine W.b2 (by assumption) ?_ ?_ ?_ | refine W.b3 (by assumption) ?_ ?_ ?_ | refine W.b4 (by assumption) ?_ ?_ ?_ | refine W.b5 (by assumption) ?_ ?_ ?_ | refine W.b6 (by assumption) ?_ ?_ ?_ | refine W.b7 (by assumption) ?_ ?_ ?_ | refine W.df (by assumption) ?_ ?_ ?_); wtm_at "ok"; kernel_rfl)
  | ((with_reducible refine' $(Lean.mkIdent `W.cellC) ?S ?v ?m ?x ?k ?e ?_); (case S => with_reducible assumption); (case v => wtm_at "lk"); (case m => wtm_at "mem"); (case x => kernel_rfl!); (case k => kernel_rfl); (case e => kernel_rfl))
  | ((with_reducible refine' W.local ?S ?v ?x ?y ?k ?e ?_); (case S => with_reducible assumption); (case v => wtm_at "lk"); (case x => kernel_rfl!); (case y => kernel_rfl!); (case k => kernel_rfl); (case e => kernel_rfl))
  | ((with_reducible refine W.gdef (by assumption) ?_ ?_ ?_ ?_ ?_ ?_ ?_); wtm_at "ok"; kernel_rfl; kernel_rfl; kernel_rfl; kernel_rfl; kernel_rfl))
local macro_rules | `(tactic| wtm_at "fnat") => `(tactic| first
  | with_reducible assumption
  | ((with_reducible refine $(Lean.mkIdent `EncV.up) (by assumption) ?_); wtm_at "ok")
  | ((with_reducible refine $(Lean.mkIdent `FnM.up) (by assumption) ?_); wtm_at "ok")
  | ((with_reducible refine $(Lean.mkIdent `FnI.up) (by assumption) ?_); wtm_at "ok")
  | (with_reducible refine ($(Lean.mkIdent `WrOk.fnat) ($(Lean.mkIdent `WrOk.ext) (by assumption) (St.ext (by assumption)))))
  | ((with_reducible refine Hyp.up (by assumption) ?_ ?_); wtm_at "ok"; kernel_rfl))
local macro_rules | `(tactic| wtm_at "exec") => `(tactic| first
  | (with_reducible first | refine V.if ?_ | refine V.return ?_ | refine V.aug ?_ | refine W.assert ?_)
  | ((with_reducible refine' $(Lean.mkIdent `W.assignT) ?_ ?e ?f); (case e => rfl); (case f => rfl))
  | ((with_reducible refine' V.assign ?_ ?e); (case e => rfl))
  | ((with_reducible refine' V.expr ?_ ?e ?f); (case e => rfl); (case f => rfl))
  | ((with_reducible refine' W.for ?_ ?e); (case e => intro _; rfl)))
local macro_rules | `(tactic| wtm_at "test") => `(tactic| first
  | ((with_reducible first | refine' V.tcompare ?_ ?w | refine' V.chain ?_ ?w); (case w => with_unfolding_all rfl))
  | (with_reducible first | refine V.tnot ?_ | refine W.tbool ?_)
  | ((with_reducible refine' V.tvalue ?_ ?e); (case e => rfl)))
local macro_rules | `(tactic| wtm_at "eval") => `(tactic| first
  | ((guard_target = W _ _ _ (eval (.Name _ _) _) _ _ _); wtm_at "name")
  | ((with_reducible first | refine W.cint ?_ | refine W.cstr ?_ | refine W.cbytes' ?_); intro _)
  | (with_reducible first | refine V.binop ?_ | refine W.cbool ?_ | refine W.cnone ?_ | refine V.unop ?_ | refine V.subscr ?_ | refine V.list ?_ | refine V.tuple ?_)
  | ((with_reducible first | refine' V.method ?_ ?e | refine' V.callE ?_ ?e); (case e => rfl))
  | ((with_reducible refine' V.compare ?_ ?w); (case w => with_unfolding_all rfl)))
local macro_rules | `(tactic| wtm_at "cw") => `(tactic| first
  | ((with_reducible refine' V.fn ?H ?_ ?e ?f); (case H => wtm_at "fnat"); (case e => rfl); (case f => rfl))
  | ((with_reducible first | refine' V.bi ?_ ?e ?f | refine' V.ty ?_ ?e ?f | refine' V.meth1 ?_ ?e ?f); (case e => rfl); (case f => rfl)))
local macro_rules | `(tactic| wtm_at "bin") => `(tactic| first
  | ((with_reducible refine $(Lean.mkIdent `W.mod14) ?_); intro _ _ _)
  | ((with_reducible refine $(Lean.mkIdent `W.mod29) ?_); intro _ _ _ _)
  | ((with_reducible refine $(Lean.mkIdent `W.badd) ?_ ?_); with_reducible wtm_at "len"; intro _)
  | ((with_reducible refine $(Lean.mkIdent `W.modE) ?_ ?_); (first | decide | wtm_at "la"); intro _)
  | ((with_reducible refine $(Lean.mkIdent `W.divE) ?_ ?_ ?_); (first | decide | wtm_at "la"); (first | decide | wtm_at "la"); intro _)
  | ((with_reducible refine W.mul ($(Lean.mkIdent `mulL) ($(Lean.mkIdent `pm1) _)) ?_); intro _)
  | ((with_reducible first | refine $(Lean.mkIdent `W.mod64) ?_ | refine $(Lean.mkIdent `W.mod256) ?_ | refine $(Lean.mkIdent `W.div256) ?_ | refine W.add ?_ | refine W.sub ?_ | refine W.band ?_ | refine W.bor ?_ | refine W.bxor ?_); intro _)
  | ((with_reducible refine' $(Lean.mkIdent `W.laddM) ?S ?m ?u ?z ?_); (case S => with_reducible assumption); (case m => wtm_at "mem"); (case u => wtm_at "mem"); (case z => with_reducible wtm_at "len"); intro _ _ _)
  | ((with_reducible refine W.shl ?_ ?_ ?_ ?_); (first | decide | wtm_at "la"); (first | decide | wtm_at "la"); (first | decide | wtm_at "la"); intro _)
  | ((with_reducible first | refine W.shr ?_ ?_ | refine W.mod ?_ ?_); (first | decide | wtm_at "la"); intro _)
  | ((with_reducible refine W.fdiv ?_ (PyProof.noPylong_small ?_) ?_); (first | decide | wtm_at "la"); (first | decide | wtm_at "la"); intro _)
  | ((with_reducible refine W.mul ($(Lean.mkIdent `mulL) ?_) ?_); decide; intro _)
  | ((with_reducible refine W.mul ($(Lean.mkIdent `mulR) ?_) ?_); (first | decide | wtm_at "la"); intro _)
  | ((with_reducible refine W.mul ($(Lean.mkIdent `mulL) ?_) ?_); (first | decide | wtm_at "la"); intro _))
local macro_rules | `(tactic| wtm_at "cmp") => `(tactic| first
  | (with_reducible first | refine W.le ?_ | refine W.lt ?_ | refine W.gt ?_ | refine W.ge ?_ | refine W.eq ?_ | refine W.ne ?_ | refine W.eqS ?_ | refine $(Lean.mkIdent `W.bne) ?_)
  | ((with_reducible refine' $(Lean.mkIdent `W.inTupM) ?S ?m ?i ?_); (case S => with_reducible assumption); (case m => wtm_at "mem"); (case i => wtm_at "ints")))
local macro_rules | `(tactic| wtm_at "call") => `(tactic| first
  | ((with_reducible refine $(Lean.mkIdent `s_law_varintN) ?_ ?_ ?_ ?_ ?_); wtm_at "asm"; wtm_at "ok"; wtm_at "room"; (first | decide | wtm_at "la"); wtm_at "use")
  | ((with_reducible first | refine $(Lean.mkIdent `s_VarintSize) ?_ ?_ ?_ ?_ ?_ ?_ | refine $(Lean.mkIdent `s_SignedVarintSize) ?_ ?_ ?_ ?_ ?_ ?_ | refine $(Lean.mkIdent `s_VarU64) ?_ ?_ ?_ ?_ ?_ ?_ | refine $(Lean.mkIdent `s_ZigZag) ?_ ?_ ?_ ?_ ?_ ?_ | refine $(Lean.mkIdent `s_VarintBytes) ?_ ?_ ?_ ?_ ?_ ?_ | refine $(Lean.mkIdent `s_law_varint) ?_ ?_ ?_ ?_ ?_ ?_ | refine $(Lean.mkIdent `s_TagSize) ?_ ?_ ?_ ?_ ?_ ?_ | refine $(Lean.mkIdent `s_TagByteSize) ?_ ?_ ?_ ?_ ?_ ?_ | refine $(Lean.mkIdent `s_Fixed32ByteSize) ?_ ?_ ?_ ?_ ?_ ?_ | refine $(Lean.mkIdent `s_Fixed64ByteSize) ?_ ?_ ?_ ?_ ?_ ?_ | refine $(Lean.mkIdent `s_SFixed32ByteSize) ?_ ?_ ?_ ?_ ?_ ?_ | refine $(Lean.mkIdent `s_SFixed64ByteSize) ?_ ?_ ?_ ?_ ?_ ?_ | refine $(Lean.mkIdent `s_BoolByteSize) ?_ ?_ ?_ ?_ ?_ ?_); wtm_at "asm"; wtm_at "ok"; wtm_at "room"; with_reducible wtm_at "om"; with_reducible wtm_at "om"; wtm_at "use")
  | ((with_reducible first | refine $(Lean.mkIdent `s_PackTag) ?_ ?_ ?_ ?_ ?_ ?_ ?_ ?_ | refine $(Lean.mkIdent `s_TagBytes) ?_ ?_ ?_ ?_ ?_ ?_ ?_ ?_ | refine $(Lean.mkIdent `s_UInt64ByteSize) ?_ ?_ ?_ ?_ ?_ ?_ ?_ ?_ | refine $(Lean.mkIdent `s_UInt32ByteSize) ?_ ?_ ?_ ?_ ?_ ?_ ?_ ?_ | refine $(Lean.mkIdent `s_EnumByteSize) ?_ ?_ ?_ ?_ ?_ ?_ ?_ ?_ | refine $(Lean.mkIdent `s_Int64ByteSize) ?_ ?_ ?_ ?_ ?_ ?_ ?_ ?_ | refine $(Lean.mkIdent `s_Int32ByteSize) ?_ ?_ ?_ ?_ ?_ ?_ ?_ ?_ | refine $(Lean.mkIdent `s_SInt64ByteSize) ?_ ?_ ?_ ?_ ?_ ?_ ?_ ?_ | refine $(Lean.mkIdent `s_SInt32ByteSize) ?_ ?_ ?_ ?_ ?_ ?_ ?_ ?_); wtm_at "asm"; wtm_at "ok"; wtm_at "room"; with_reducible wtm_at "om"; with_reducible wtm_at "om"; with_reducible wtm_at "om"; with_reducible wtm_at "om"; wtm_at "use")
  | ((with_reducible refine $(Lean.mkIdent `s_BytesByteSize) ?_ ?_ ?_ ?_ ?_ ?_ ?_); wtm_at "asm"; wtm_at "ok"; wtm_at "room"; with_reducible wtm_at "om"; with_reducible wtm_at "om"; (first | decide | wtm_at "la"); wtm_at "use")
  | ((with_reducible refine $(Lean.mkIdent `s_law_eight) ?_ ?_ ?_ (by assumption) (by assumption) ?_); wtm_at "asm"; wtm_at "ok"; wtm_at "room"; wtm_at "use")
  | ((with_reducible first | refine $(Lean.mkIdent `s_law_wire) ?_ ?_ ?_ (by assumption) ?_ | refine $(Lean.mkIdent `s_pack) _ ?_ ?_ ?_ (by assumption) ?_); wtm_at "asm"; wtm_at "ok"; wtm_at "room"; wtm_at "use")
  | ((with_reducible first | refine $(Lean.mkIdent `s_calcI) ?_ ?_ ?_ ?_ | refine $(Lean.mkIdent `s_calci) ?_ ?_ ?_ ?_ | refine $(Lean.mkIdent `s_calcQ) ?_ ?_ ?_ ?_ | refine $(Lean.mkIdent `s_calcq) ?_ ?_ ?_ ?_ | refine $(Lean.mkIdent `s_calcsize) _ ?_ ?_ ?_ ?_); wtm_at "asm"; wtm_at "ok"; wtm_at "room"; wtm_at "use")
  | ((with_reducible refine $(Lean.mkIdent `FnI.call) (by assumption) ?_ ?_ ?_ ?_); wtm_at "ok"; wtm_at "room"; with_reducible wtm_at "om"; wtm_at "use")
  | ((with_reducible refine $(Lean.mkIdent `FnM.call) (by assumption) ?_ ?_ ?_ ?_); wtm_at "ok"; wtm_at "room"; with_reducible wtm_at "om"; wtm_at "use")
  | ((with_reducible refine' $(Lean.mkIdent `W.encV) ?S ?H ?g ?m ?u ?R ?z ?a ?_); (case S => with_reducible assumption); (case H => with_reducible assumption); (case g => with_reducible assumption); (case m => wtm_at "mem"); (case u => intro _; wtm_at "upd"); (case R => wtm_at "room"); (case z => with_reducible wtm_at "len"); (case a => with_reducible wtm_at "om"); intro _ _ _ _ _ _ _)
  | ((with_reducible refine' $(Lean.mkIdent `W.write) ?S ?H ?u ?R ?z ?_); (case S => with_reducible assumption); (case H => with_reducible assumption); (case u => wtm_at "upd"); (case R => wtm_at "room"); (case z => with_reducible wtm_at "len"); intro _ _)
  | ((with_reducible refine' $(Lean.mkIdent `W.appendU) ?S ?u ?o ?_); (case S => with_reducible assumption); (case u => wtm_at "upd"); (case o => first | decide | wtm_at "la"); intro _ _)
  | ((with_reducible refine' $(Lean.mkIdent `W.lenF) ?S ?m ?o ?_); (case S => with_reducible assumption); (case m => wtm_at "mem"); (case o => first | decide | wtm_at "la"); intro _)
  | ((with_reducible refine' $(Lean.mkIdent `W.lenO) ?S ?m ?o ?_); (case S => with_reducible assumption); (case m => wtm_at "mem"); (case o => first | decide | wtm_at "la"); intro _)
  | ((with_reducible refine $(Lean.mkIdent `W.encodeS) (by assumption) ?_); intro _)
  | ((with_reducible refine $(Lean.mkIdent `W.blen) ?_ ?_); with_reducible wtm_at "len"; intro _)
  | (with_reducible refine $(Lean.mkIdent `W.bytesB) ?_)
  | ((with_reducible first | refine $(Lean.mkIdent `W.ord) ?_ | refine $(Lean.mkIdent `W.intB) ?_); intro _)
  | ((with_reducible refine $(Lean.mkIdent `W.rangeC) (by assumption) ?_); intro _ _ _ _ _ _)
  | ((with_reducible refine $(Lean.mkIdent `W.absN) ?_); intro _ _)
  | ((with_reducible refine' $(Lean.mkIdent `W.listF) ?S ?m ?o ?_); (case S => with_reducible assumption); (case m => wtm_at "mem"); (case o => first | decide | wtm_at "la"); intro _ _ _)
  | ((with_reducible refine' $(Lean.mkIdent `s_law_cellM) ?H ?S ?m ?g ?e ?R ?o ?_); (case H => with_reducible assumption); (case S => with_reducible assumption); (case m => wtm_at "mem"); (case g => with_reducible assumption); (case e => with_reducible assumption); (case R => wtm_at "room"); (case o => first | decide | wtm_at "la"); intro _ _ _ _))
local macro_rules | `(tactic| wtm_at "more") => `(tactic| first
  | (with_reducible first | refine $(Lean.mkIdent `W.assignName) ?_ | refine $(Lean.mkIdent `W.getEncode) ?_ | refine $(Lean.mkIdent `W.getJoinB) ?_ | refine $(Lean.mkIdent `W.getJoinS) ?_ | refine $(Lean.mkIdent `W.getToBytes) ?_ | refine $(Lean.mkIdent `W.inOrder1) ?_ | refine $(Lean.mkIdent `W.inOrder0) ?_)
  | ((with_reducible refine' $(Lean.mkIdent `W.nest0) ?H ?S ?C ?d ?a ?b ?c ?k ?e ?f ?g ?i ?_); (case H => with_reducible assumption); (case S => with_reducible assumption); (case C => with_reducible assumption); (case d => rfl); (case a => rfl); (case b => rfl); (case c => rfl); (case k => kernel_rfl); (case e => rfl); (case f => rfl); (case g => rfl); (case i => kernel_rfl); intro _ _ _ _ _ _)
  | ((with_reducible refine' $(Lean.mkIdent `W.nest1) ?H ?S ?C ?d ?a ?b ?c ?k ?e ?f ?g ?i ?_); (case H => with_reducible assumption); (case S => with_reducible assumption); (case C => with_reducible assumption); (case d => rfl); (case a => rfl); (case b => rfl); (case c => rfl); (case k => kernel_rfl); (case e => rfl); (case f => rfl); (case g => rfl); (case i => kernel_rfl); intro _ _ _ _ _ _)
  | ((with_reducible refine' $(Lean.mkIdent `W.getAppendM) ?S ?m ?_); (case S => with_reducible assumption); (case m => wtm_at "mem"))
  | ((with_reducible first | refine $(Lean.mkIdent `W.newList1) (by assumption) ?_ ?_ | refine $(Lean.mkIdent `W.newTuple1) (by assumption) ?_ ?_); (first | exact Nat.le_of_ble_eq_true rfl | wtm_at "len"); intro _ _ _)
  | ((with_reducible refine $(Lean.mkIdent `W.ishr) ?_ ?_); (first | decide | wtm_at "la"); intro _)
  | ((with_reducible refine' $(Lean.mkIdent `W.itemFx) ?S ?m ?g ?o ?_ ?w); (case S => with_reducible assumption); (case m => wtm_at "mem"); (case g => with_reducible assumption); (case o => first | decide | wtm_at "la"); (case w => with_unfolding_all rfl))
  | ((with_reducible refine' $(Lean.mkIdent `W.itemOx) ?S ?m ?g ?o ?_ ?w); (case S => with_reducible assumption); (case m => wtm_at "mem"); (case g => with_reducible assumption); (case o => first | decide | wtm_at "la"); (case w => with_unfolding_all rfl))
  | ((with_reducible refine' $(Lean.mkIdent `W.itemIM) ?S ?m ?i ?o ?z ?e ?_ ?w); (case S => with_reducible assumption); (case m => wtm_at "mem"); (case i => wtm_at "ints"); (case o => first | decide | wtm_at "la"); (case z => first | exact Nat.le_of_ble_eq_true rfl | wtm_at "len"); (case e => first | exact Nat.le_of_ble_eq_true rfl | wtm_at "len"); (case w => with_unfolding_all rfl); intro _)
  | ((with_reducible refine' $(Lean.mkIdent `W.itemIF) ?S ?m ?i ?o ?z ?e ?_ ?w); (case S => with_reducible assumption); (case m => wtm_at "mem"); (case i => wtm_at "ints"); (case o => first | decide | wtm_at "la"); (case z => first | exact Nat.le_of_ble_eq_true rfl | wtm_at "len"); (case e => first | exact Nat.le_of_ble_eq_true rfl | wtm_at "len"); (case w => with_unfolding_all rfl); intro _))
local macro_rules | `(tactic| wtm_at "k") => `(tactic| first
  | ((with_reducible refine $(Lean.mkIdent `iteK.eqY) ?_ ?_); rfl)
  | ((with_reducible refine $(Lean.mkIdent `iteK.anyI) ?_ ?_) <;> intro _)
  | ((with_reducible refine $(Lean.mkIdent `iteK.tt') ?_ ?_); kernel_rfl!)
  | ((with_reducible refine $(Lean.mkIdent `iteK.ff') ?_ ?_); kernel_rfl!))
local macro_rules | `(tactic| wtm_at "j") => `(tactic| first
  | ((guard_target = W _ _ _ _ _ _ _); (first
    | ((guard_target = W _ _ _ (eval _ _) _ _ _); wtm_at "eval")
    | ((guard_target = W _ _ _ (exec _ _) _ _ _); wtm_at "exec")
    | (with_reducible first | refine W.one ?_ | refine W.cons ?_ | refine W.nil ?_)
    | ((guard_target = W _ _ _ (isTrue _ _ _) _ _ _); wtm_at "test")
    | ((guard_target = W _ _ _ (binaryOp _ _ _) _ _ _); wtm_at "bin")
    | ((guard_target = W _ _ _ (compareOp _ _ _) _ _ _); wtm_at "cmp")
    | ((guard_target = W _ _ _ (PySem.call _ _) _ _ _); wtm_at "call")
    | ((with_reducible refine' V.items1 ?_ ?e); (case e => rfl))
    | (with_reducible refine W.items0 ?_)
    | ((with_reducible refine' W.stc ?S ?v ?u ?k ?_); (case S => with_reducible assumption); (case v => wtm_at "lk"); (case u => wtm_at "upd"); (case k => kernel_rfl); intro _ _)
    | ((with_reducible refine W.sto (by assumption) ?_ ?_); kernel_rfl; intro _ _)
    | ((with_reducible refine W.storeL (by assumption) ?_ ?_ ?_ ?_); kernel_rfl!; kernel_rfl!; kernel_rfl; intro _ _)
    | ((with_reducible refine' W.lds ?S ?v ?k ?_); (case S => with_reducible assumption); (case v => wtm_at "lk"); (case k => kernel_rfl))
    | ((with_reducible first | refine W.iadd ?_ | refine W.inv ?_ | refine W.neg ?_); intro _)
    | (with_reducible first | refine W.truthyB ?_ | refine W.truthyI ?_ | refine V.link ?_ | refine V.last0 ?_ | refine V.last ?_ | refine W.and_nil ?_ | refine W.or_nil ?_ | refine V.and_cons ?_ | refine V.or_cons ?_)
    | wtm_at "more"))
  | (with_reducible first | refine seqK.next ?_ | refine seqK.ret ?_ | refine retK.ret ?_ | refine V.bcons ?_ | refine iteK.tt ?_ | refine iteK.ff ?_ | refine iteK.not ?_ | refine seqK.brk ?_ | refine seqK.cont ?_ | refine retK.next ?_)
  | ((with_reducible first | refine iteK.dec ?_ ?_ | refine iteK.beqI ?_ ?_ | refine iteK.bneI ?_ ?_) <;> intro _)
  | (with_reducible refine bindK.nil (by assumption) ?_)
  | wtm_at "cw"
  | ((with_reducible refine gFA ?_ ?_); wtm_at "fnat")
  | wtm_at "k")
set_option compiler.extract_closed true

/-! varints in plain words -/
noncomputable def vint (n : Nat) : List UInt8 := if n < 128 then [n.toUInt8] else (128 + n % 128).toUInt8 :: vint (n / 128)
termination_by n
noncomputable def vz (z : Int) : Int := (vint z.toNat).length
theorem vint_lt {n : Nat} (h : n < 128) : vint n = [n.toUInt8] := by rw [vint, if_pos h]
theorem vint_ge {n : Nat} (h : ¬ n < 128) : vint n = (128 + n % 128).toUInt8 :: vint (n / 128) := by rw [vint, if_neg h]
theorem vlen : ∀ (k n : Nat), n < 128 ^ (k + 1) → (vint n).length ≤ k + 1 ∧ (128 ^ k ≤ n → (vint n).length = k + 1)
  | 0, n, h => by rw [vint_lt (by simpa using h)]; exact ⟨Nat.le_refl _, fun _ => rfl⟩
  | k + 1, n, h => by
    by_cases q : n < 128
    · rw [vint_lt q]
      refine ⟨by simp, fun h' => ?_⟩
      have : 128 ≤ 128 ^ (k + 1) := by rw [Nat.pow_succ]; have := Nat.pow_pos (n := k) (show 0 < 128 by decide); wtm_at "la"
      wtm_at "la"
    · rw [vint_ge q]
      have e : (128 : Nat) ^ (k + 1 + 1) = 128 ^ (k + 1) * 128 := Nat.pow_succ ..
      have e2 : (128 : Nat) ^ (k + 1) = 128 ^ k * 128 := Nat.pow_succ ..
      have h2 := vlen k (n / 128) (by wtm_at "la")
      refine ⟨by simp; wtm_at "la", fun h' => ?_⟩
      have := h2.2 (by wtm_at "la")
      simp [this]
theorem vz_ite {z : Int} (h0 : 0 ≤ z) (h1 : z < 18446744073709551616) : vz z = if z ≤ 127 then 1 else if z ≤ 16383 then 2 else if z ≤ 2097151 then 3 else if z ≤ 268435455 then 4 else if z ≤ 34359738367 then 5 else if z ≤ 4398046511103 then 6
  else if z ≤ 562949953421311 then 7 else if z ≤ 72057594037927935 then 8 else if z ≤ 9223372036854775807 then 9 else 10 := by
  obtain ⟨n, rfl⟩ := Int.eq_ofNat_of_zero_le h0
  unfold vz
  simp only [Int.toNat_natCast]
  have g : ∀ k, 128 ^ k ≤ n → n < 128 ^ (k + 1) → ((vint n).length : Int) = (k + 1 : Nat) := fun k a c => by rw [(vlen k n c).2 a]
  by_cases q : n < 128
  · rw [vint_lt q, if_pos (by wtm_at "la")]; rfl
  rw [if_neg (by wtm_at "la")]
  split
  · exact g 1 (by wtm_at "la") (by wtm_at "la")
  split
  · exact g 2 (by wtm_at "la") (by wtm_at "la")
  split
  · exact g 3 (by wtm_at "la") (by wtm_at "la")
  split
  · exact g 4 (by wtm_at "la") (by wtm_at "la")
  split
  · exact g 5 (by wtm_at "la") (by wtm_at "la")
  split
  · exact g 6 (by wtm_at "la") (by wtm_at "la")
  split
  · exact g 7 (by wtm_at "la") (by wtm_at "la")
  split
  · exact g 8 (by wtm_at "la") (by wtm_at "la")
  exact g 9 (by wtm_at "la") (by wtm_at "la")


noncomputable def vm (z : Int) : Int := vz (z % 18446744073709551616)
noncomputable def zz (z : Int) : Int := if 0 ≤ z then 2 * z else -2 * z - 1
theorem vm_neg {z : Int} (h0 : -9223372036854775808 ≤ z) (h1 : z < 0) : vm z = 10 := by
  have e : z % 18446744073709551616 = z + 18446744073709551616 := by wtm_at "la"
  unfold vm
  rw [e, vz_ite (by wtm_at "la") (by wtm_at "la")]
  repeat rw [if_neg (by wtm_at "la")]
theorem vm_pos {z : Int} (h0 : 0 ≤ z) (h1 : z < 18446744073709551616) : vm z = vz z := by
  unfold vm; rw [Int.emod_eq_of_lt h0 h1]
theorem maskU (z : Int) : Builtin.bitAnd 18446744073709551615 z = z % 18446744073709551616 := kbt_mask' z 64
theorem maskU' (z : Int) : Builtin.bitAnd z 18446744073709551615 = z % 18446744073709551616 := kbt_mask z 64
theorem maskU0 (z : Int) : 0 ≤ Builtin.bitAnd 18446744073709551615 z ∧ Builtin.bitAnd 18446744073709551615 z < 18446744073709551616 := by rw [maskU]; wtm_at "la"
theorem zz_range {z : Int} (h0 : -9223372036854775808 ≤ z) (h1 : z < 9223372036854775808) : 0 ≤ zz z ∧ zz z < 18446744073709551616 := by unfold zz; split <;> wtm_at "la"
theorem and_zero (x : Int) : Builtin.bitAnd x 0 = 0 := by
  have := kbt_mask x 0
  simp at this
  rw [this]
theorem and8 {f y : Int} (h0 : 0 ≤ y) (h1 : y < 8) : Builtin.bitAnd (f * 2 ^ 3) y = 0 := by
  rw [kbt_halves, kbt_halves, kbt_halves]
  have e : y / 2 / 2 / 2 = 0 := by wtm_at "la"
  rw [e, and_zero, if_neg (by wtm_at "la"), if_neg (by wtm_at "la"), if_neg (by wtm_at "la")]
  wtm_at "la"
theorem or8 {f y : Int} (h0 : 0 ≤ y) (h1 : y < 8) : Builtin.bitOr (f * 2 ^ 3) y = 8 * f + y := by
  rw [bitOr_and, and8 h0 h1]; wtm_at "la"
theorem xor_m1 (v : Int) (h : v < 0) : Builtin.bitXor (v * 2 ^ 1) (Builtin.bitNot 0) = -2 * v - 1 := by
  rw [bitXor_and]
  have e : Builtin.bitAnd (v * 2 ^ 1) (Builtin.bitNot 0) = v * 2 ^ 1 := by
    unfold Builtin.bitAnd Builtin.bitNot
    rw [decide_eq_false (by wtm_at "la"), decide_eq_false (by wtm_at "la")]
    simp
    wtm_at "la"
  rw [e]
  unfold Builtin.bitNot
  wtm_at "la"

section
variable {prog : Program} {w : World} {A : Around} {E : Value → Heap → Prop} {h h₀ : Heap} {b : Bs} {v : Value} {Q : Value → Heap → Prop} {z y : Int} {t u : Tok}

theorem leafI {n r : Int} {h' : Heap} {fz : List (Addr × K)} {L : Addr} {l : List (Str × Value)} {ob : List (Addr × K)} (q : ∀ t h', Ext b.B [] h h' → Q (.int r t) h') (S : St b h [] fz L l ob h') (e : n = r) : Q (.int n t) h' := e ▸ q t h' S.ext
theorem St.useI {P : Tok → Heap → Prop} {X : List Addr} {fz : List (Addr × K)} {L : Addr} {l : List (Str × Value)} {ob : List (Addr × K)} (S : St b h₀ X fz L l ob h) (q : ∀ t h', St b h₀ X fz L l ob h' → P t h') : ∀ t h', Ext b.B [] h h' → P t h' := fun t h' x => q t h' (S.ext0 x)
theorem s_VarintSize (H : Hyp b) (O : Ok b h) (R : Room 1 A) (h0 : 0 ≤ z) (h1 : z < 18446744073709551616) (q : ∀ t h', Ext b.B [] h h' → Q (.int (vz z) t) h') :
    W prog w A (PySem.call (.ref (b.fa "_VarintSize")) [.int z t]) Q E h := by
  have F := H.fn 32 (by decide)
  refine W.def0 H O F R [("value", .int z t)] (fun _ _ _ _ _ _ _ => by rfl) ?_
  intro L h₁ A' cd R' S
  repeat' wtm_at "j"
  all_goals (refine leafI q (by assumption) ?_; rw [vz_ite h0 h1]; simp only [*, if_true, if_false])
theorem s_SignedVarintSize (H : Hyp b) (O : Ok b h) (R : Room 1 A) (h0 : -9223372036854775808 ≤ z) (h1 : z < 18446744073709551616) (q : ∀ t h', Ext b.B [] h h' → Q (.int (vm z) t) h') :
    W prog w A (PySem.call (.ref (b.fa "_SignedVarintSize")) [.int z t]) Q E h := by
  have F := H.fn 33 (by decide)
  refine W.def0 H O F R [("value", .int z t)] (fun _ _ _ _ _ _ _ => by rfl) ?_
  intro L h₁ A' cd R' S
  repeat' wtm_at "j"
  · exact leafI q (by assumption) (vm_neg h0 (by assumption)).symm
  all_goals (refine leafI q (by assumption) ?_; rw [vm_pos (by wtm_at "la") h1, vz_ite (by wtm_at "la") h1]; simp only [*, if_true, if_false])
theorem s_VarU64 (H : Hyp b) (O : Ok b h) (R : Room 1 A) (h0 : 0 ≤ z) (h1 : z < 18446744073709551616) (q : ∀ t h', Ext b.B [] h h' → Q (.int (vz z) t) h') :
    W prog w A (PySem.call (.ref (b.fa "_VarUInt64ByteSizeNoTag")) [.int z t]) Q E h := by
  have F := H.fn 30 (by decide)
  refine W.def0 H O F R [("uint64", .int z t)] (fun _ _ _ _ _ _ _ => by rfl) ?_
  intro L h₁ A' cd R' S
  repeat' wtm_at "j"
  all_goals first
    | (exfalso; wtm_at "la")
    | (refine leafI q (by assumption) ?_; rw [vz_ite h0 h1]; simp only [*, if_true, if_false])
theorem s_PackTag (H : Hyp b) (O : Ok b h) (R : Room 1 A) (h0 : 0 ≤ y) (h1 : y ≤ 5) (h2 : 0 ≤ z) (h3 : z < 2 ^ 30) (q : ∀ t h', Ext b.B [] h h' → Q (.int (8 * z + y) t) h') :
    W prog w A (PySem.call (.ref (b.fa "PackTag")) [.int z t, .int y u]) Q E h := by
  have F := H.fn 13 (by decide)
  refine W.def0 H O F R [("field_number", .int z t), ("wire_type", .int y u)] (fun _ _ _ _ _ _ _ => by rfl) ?_
  intro L h₁ A' cd R' S
  repeat' wtm_at "j"
  all_goals first
    | (exfalso; wtm_at "la")
    | (refine leafI q (by assumption) ?_; exact or8 (by wtm_at "la") (by wtm_at "la"))
theorem s_ZigZag (H : Hyp b) (O : Ok b h) (R : Room 1 A) (h0 : -9223372036854775808 ≤ z) (h1 : z < 9223372036854775808) (q : ∀ t h', Ext b.B [] h h' → Q (.int (zz z) t) h') :
    W prog w A (PySem.call (.ref (b.fa "ZigZagEncode")) [.int z t]) Q E h := by
  have F := H.fn 14 (by decide)
  refine W.def0 H O F R [("value", .int z t)] (fun _ _ _ _ _ _ _ => by rfl) ?_
  intro L h₁ A' cd R' S
  repeat' wtm_at "j"
  · exact leafI q (by assumption) (by unfold zz; rw [if_pos (by assumption)]; show z * 2 ^ 1 = _; wtm_at "la")
  · exact leafI q (by assumption) (by unfold zz; rw [if_neg (by assumption)]; exact xor_m1 z (by wtm_at "la"))
theorem s_TagSize (H : Hyp b) (O : Ok b h) (R : Room 2 A) (h2 : 0 ≤ z) (h3 : z < 2 ^ 30) (q : ∀ t h', Ext b.B [] h h' → Q (.int (vz (8 * z)) t) h') :
    W prog w A (PySem.call (.ref (b.fa "_TagSize")) [.int z t]) Q E h := by
  have F := H.fn 34 (by decide)
  refine W.def0 H O F R [("field_number", .int z t)] (fun _ _ _ _ _ _ _ => by rfl) ?_
  intro L h₁ A' cd R' S
  repeat' wtm_at "j"
  exact leafI q (by assumption) (by rw [Int.add_zero])
theorem s_TagByteSize (H : Hyp b) (O : Ok b h) (R : Room 2 A) (h2 : 0 ≤ z) (h3 : z < 2 ^ 30) (q : ∀ t h', Ext b.B [] h h' → Q (.int (vz (8 * z)) t) h') :
    W prog w A (PySem.call (.ref (b.fa "TagByteSize")) [.int z t]) Q E h := by
  have F := H.fn 29 (by decide)
  refine W.def0 H O F R [("field_number", .int z t)] (fun _ _ _ _ _ _ _ => by rfl) ?_
  intro L h₁ A' cd R' S
  repeat' wtm_at "j"
  exact leafI q (by assumption) (by rw [Int.add_zero])
theorem s_UInt64ByteSize (H : Hyp b) (O : Ok b h) (R : Room 3 A) (h2 : 0 ≤ z) (h3 : z < 2 ^ 30) (h0 : 0 ≤ y) (h1 : y < 18446744073709551616) (q : ∀ t h', Ext b.B [] h h' → Q (.int (vz (8 * z) + vz y) t) h') :
    W prog w A (PySem.call (.ref (b.fa "UInt64ByteSize")) [.int z t, .int y u]) Q E h := by
  have F := H.fn 18 (by decide)
  refine W.def0 H O F R [("field_number", .int z t), ("uint64", .int y u)] (fun _ _ _ _ _ _ _ => by rfl) ?_
  intro L h₁ A' cd R' S
  repeat' wtm_at "j"
  exact leafI q (by assumption) (by rfl)
theorem s_UInt32ByteSize (H : Hyp b) (O : Ok b h) (R : Room 4 A) (h2 : 0 ≤ z) (h3 : z < 2 ^ 30) (h0 : 0 ≤ y) (h1 : y < 18446744073709551616) (q : ∀ t h', Ext b.B [] h h' → Q (.int (vz (8 * z) + vz y) t) h') :
    W prog w A (PySem.call (.ref (b.fa "UInt32ByteSize")) [.int z t, .int y u]) Q E h := by
  have F := H.fn 17 (by decide)
  refine W.def0 H O F R [("field_number", .int z t), ("uint32", .int y u)] (fun _ _ _ _ _ _ _ => by rfl) ?_
  intro L h₁ A' cd R' S
  repeat' wtm_at "j"
  exact leafI q (by assumption) (by rfl)
theorem s_EnumByteSize (H : Hyp b) (O : Ok b h) (R : Room 5 A) (h2 : 0 ≤ z) (h3 : z < 2 ^ 30) (h0 : 0 ≤ y) (h1 : y < 18446744073709551616) (q : ∀ t h', Ext b.B [] h h' → Q (.int (vz (8 * z) + vz y) t) h') :
    W prog w A (PySem.call (.ref (b.fa "EnumByteSize")) [.int z t, .int y u]) Q E h := by
  have F := H.fn 26 (by decide)
  refine W.def0 H O F R [("field_number", .int z t), ("enum", .int y u)] (fun _ _ _ _ _ _ _ => by rfl) ?_
  intro L h₁ A' cd R' S
  repeat' wtm_at "j"
  exact leafI q (by assumption) (by rfl)
theorem s_Int64ByteSize (H : Hyp b) (O : Ok b h) (R : Room 4 A) (h2 : 0 ≤ z) (h3 : z < 2 ^ 30) (h0 : -9223372036854775808 ≤ y) (h1 : y < 9223372036854775808) (q : ∀ t h', Ext b.B [] h h' → Q (.int (vz (8 * z) + vm y) t) h') :
    W prog w A (PySem.call (.ref (b.fa "Int64ByteSize")) [.int z t, .int y u]) Q E h := by
  have F := H.fn 16 (by decide)
  refine W.def0 H O F R [("field_number", .int z t), ("int64", .int y u)] (fun _ _ _ _ _ _ _ => by rfl) ?_
  intro L h₁ A' cd R' S
  repeat' wtm_at "j"
  exact leafI q (by assumption) (by rw [maskU]; rfl)
theorem s_Int32ByteSize (H : Hyp b) (O : Ok b h) (R : Room 5 A) (h2 : 0 ≤ z) (h3 : z < 2 ^ 30) (h0 : -9223372036854775808 ≤ y) (h1 : y < 9223372036854775808) (q : ∀ t h', Ext b.B [] h h' → Q (.int (vz (8 * z) + vm y) t) h') :
    W prog w A (PySem.call (.ref (b.fa "Int32ByteSize")) [.int z t, .int y u]) Q E h := by
  have F := H.fn 15 (by decide)
  refine W.def0 H O F R [("field_number", .int z t), ("int32", .int y u)] (fun _ _ _ _ _ _ _ => by rfl) ?_
  intro L h₁ A' cd R' S
  repeat' wtm_at "j"
  exact leafI q (by assumption) (by rfl)
theorem s_SInt64ByteSize (H : Hyp b) (O : Ok b h) (R : Room 4 A) (h2 : 0 ≤ z) (h3 : z < 2 ^ 30) (h0 : -9223372036854775808 ≤ y) (h1 : y < 9223372036854775808) (q : ∀ t h', Ext b.B [] h h' → Q (.int (vz (8 * z) + vz (zz y)) t) h') :
    W prog w A (PySem.call (.ref (b.fa "SInt64ByteSize")) [.int z t, .int y u]) Q E h := by
  have F := H.fn 20 (by decide)
  refine W.def0 H O F R [("field_number", .int z t), ("int64", .int y u)] (fun _ _ _ _ _ _ _ => by rfl) ?_
  intro L h₁ A' cd R' S
  repeat' wtm_at "j"
  exact leafI q (by assumption) (by rfl)
theorem s_SInt32ByteSize (H : Hyp b) (O : Ok b h) (R : Room 5 A) (h2 : 0 ≤ z) (h3 : z < 2 ^ 30) (h0 : -9223372036854775808 ≤ y) (h1 : y < 9223372036854775808) (q : ∀ t h', Ext b.B [] h h' → Q (.int (vz (8 * z) + vz (zz y)) t) h') :
    W prog w A (PySem.call (.ref (b.fa "SInt32ByteSize")) [.int z t, .int y u]) Q E h := by
  have F := H.fn 19 (by decide)
  refine W.def0 H O F R [("field_number", .int z t), ("int32", .int y u)] (fun _ _ _ _ _ _ _ => by rfl) ?_
  intro L h₁ A' cd R' S
  repeat' wtm_at "j"
  exact leafI q (by assumption) (by rfl)
theorem s_Fixed32ByteSize (H : Hyp b) (O : Ok b h) (R : Room 3 A) (h2 : 0 ≤ z) (h3 : z < 2 ^ 30) {v : Value} (q : ∀ t h', Ext b.B [] h h' → Q (.int (vz (8 * z) + 4) t) h') :
    W prog w A (PySem.call (.ref (b.fa "Fixed32ByteSize")) [.int z t, v]) Q E h := by
  have F := H.fn 21 (by decide)
  refine W.def0 H O F R [("field_number", .int z t), ("fixed32", v)] (fun _ _ _ _ _ _ _ => by rfl) ?_
  intro L h₁ A' cd R' S
  repeat' wtm_at "j"
  exact leafI q (by assumption) (by rfl)
theorem s_Fixed64ByteSize (H : Hyp b) (O : Ok b h) (R : Room 3 A) (h2 : 0 ≤ z) (h3 : z < 2 ^ 30) {v : Value} (q : ∀ t h', Ext b.B [] h h' → Q (.int (vz (8 * z) + 8) t) h') :
    W prog w A (PySem.call (.ref (b.fa "Fixed64ByteSize")) [.int z t, v]) Q E h := by
  have F := H.fn 22 (by decide)
  refine W.def0 H O F R [("field_number", .int z t), ("fixed64", v)] (fun _ _ _ _ _ _ _ => by rfl) ?_
  intro L h₁ A' cd R' S
  repeat' wtm_at "j"
  exact leafI q (by assumption) (by rfl)
theorem s_SFixed32ByteSize (H : Hyp b) (O : Ok b h) (R : Room 3 A) (h2 : 0 ≤ z) (h3 : z < 2 ^ 30) {v : Value} (q : ∀ t h', Ext b.B [] h h' → Q (.int (vz (8 * z) + 4) t) h') :
    W prog w A (PySem.call (.ref (b.fa "SFixed32ByteSize")) [.int z t, v]) Q E h := by
  have F := H.fn 23 (by decide)
  refine W.def0 H O F R [("field_number", .int z t), ("sfixed32", v)] (fun _ _ _ _ _ _ _ => by rfl) ?_
  intro L h₁ A' cd R' S
  repeat' wtm_at "j"
  exact leafI q (by assumption) (by rfl)
theorem s_SFixed64ByteSize (H : Hyp b) (O : Ok b h) (R : Room 3 A) (h2 : 0 ≤ z) (h3 : z < 2 ^ 30) {v : Value} (q : ∀ t h', Ext b.B [] h h' → Q (.int (vz (8 * z) + 8) t) h') :
    W prog w A (PySem.call (.ref (b.fa "SFixed64ByteSize")) [.int z t, v]) Q E h := by
  have F := H.fn 24 (by decide)
  refine W.def0 H O F R [("field_number", .int z t), ("sfixed64", v)] (fun _ _ _ _ _ _ _ => by rfl) ?_
  intro L h₁ A' cd R' S
  repeat' wtm_at "j"
  exact leafI q (by assumption) (by rfl)
theorem s_BoolByteSize (H : Hyp b) (O : Ok b h) (R : Room 3 A) (h2 : 0 ≤ z) (h3 : z < 2 ^ 30) {v : Value} (q : ∀ t h', Ext b.B [] h h' → Q (.int (vz (8 * z) + 1) t) h') :
    W prog w A (PySem.call (.ref (b.fa "BoolByteSize")) [.int z t, v]) Q E h := by
  have F := H.fn 25 (by decide)
  refine W.def0 H O F R [("field_number", .int z t), ("b", v)] (fun _ _ _ _ _ _ _ => by rfl) ?_
  intro L h₁ A' cd R' S
  repeat' wtm_at "j"
  exact leafI q (by assumption) (by rfl)
end

inductive BytesAre : List Value → List (List UInt8) → Prop
  | nil : BytesAre [] []
  | cons (x : List UInt8) (t : Tok) {vs : List Value} {bs : List (List UInt8)} : BytesAre vs bs → BytesAre (.bytes x.toArray t :: vs) (x :: bs)
theorem BytesAre.append {vs us : List Value} {bs cs : List (List UInt8)} (x : BytesAre vs bs) (y : BytesAre us cs) : BytesAre (vs ++ us) (bs ++ cs) := by
  induction x with
  | nil => exact y
  | cons x t _ ih => exact .cons x t ih
theorem BytesAre.length {vs : List Value} {bs : List (List UInt8)} (x : BytesAre vs bs) : vs.length = bs.length := by
  induction x with
  | nil => rfl
  | cons x t _ ih => simp [ih]
theorem BytesAre.get {vs : List Value} {bs : List (List UInt8)} (x : BytesAre vs bs) : ∀ {i : Nat}, i < vs.length → ∃ b t, bs[i]? = some b ∧ vs[i]? = some (.bytes b.toArray t) := by
  induction x with
  | nil => intro i h; simp at h
  | cons x t _ ih =>
    intro i h
    cases i with
    | zero => exact ⟨x, t, rfl, rfl⟩
    | succ i => obtain ⟨b, t, e1, e2⟩ := ih (i := i) (by simpa using h); exact ⟨b, t, by simpa using e1, by simpa using e2⟩

theorem joined_go (l : List (Array UInt8)) : ∀ (k : Nat) (acc : Array UInt8), ((l.zipIdx k).foldl (fun out (p : Array UInt8 × Nat) => (if p.2 > 0 then out ++ #[] else out) ++ p.1) acc) = acc ++ (l.map (·.toList)).flatten.toArray := by
  induction l with
  | nil => intro k acc; simp
  | cons x r ih =>
    intro k acc
    rw [List.zipIdx_cons, List.foldl_cons, ih]
    split <;> (apply Array.toList_inj.mp; simp)
theorem joined_eq (bs : List (List UInt8)) : Builtin.Bytes.joined #[] (bs.map (·.toArray)) = bs.flatten.toArray := by
  unfold Builtin.Bytes.joined
  have := joined_go (bs.map (·.toArray)) 0 #[]
  simp only [List.map_map] at this
  refine Eq.trans ?_ (this.trans ?_)
  · rfl
  · simp [Function.comp_def]
theorem wp_joinLetGo {M : Model} {A : Around} {E : Value → Shared → Prop} {s : Shared} {Q : Unit → Shared → Prop} (h : Q () s) : ∀ (taken : List (Value × Option Value)) (keep : List Value), (∀ p ∈ taken, p.2 = none) → wpAny M A (Builtin.Bytes.joinLetGo taken keep) Q E s
  | [], keep, _ => wpAny_pure h
  | (x, w) :: rest, keep, hn => by
    have e : w = none := hn _ (.head _)
    subst e
    unfold Builtin.Bytes.joinLetGo
    exact wpAny_bind (wpAny_letGo (wp_joinLetGo h rest keep fun p hp => hn p (.tail _ hp)))
theorem take_quiet {id : String} {b : Array UInt8} {t : Tok} : Builtin.Bytes.takeBufferQuiet? id (.bytes b t) 0 = pure (some (b, none)) := by
  have tb : Builtin.Bytes.takeBuffer? id (.bytes b t) 0 = pure (some (b, none)) := by
    unfold Builtin.Bytes.takeBuffer?
    rw [show ((0 : Int) == Builtin.Bytes.fullReadOnly) = false from by decide +kernel]
    rw [KBy.special_eq KBy.look_buffer, KBy.own_buffer, KBy.buffer_eq]
    kernel_rfl
  unfold Builtin.Bytes.takeBufferQuiet?
  rw [tb]
  rfl
theorem flat_len (bs : List (List UInt8)) : ∀ n : Nat, ((bs.map (·.toArray)).toArray.foldl (fun a (p : Array UInt8) => a + p.size) n) = n + bs.flatten.length := by
  induction bs with
  | nil => intro n; simp
  | cons x r ih => intro n; have := ih (n + x.length); simp at this ⊢; rw [this]; wtm_at "la"
theorem jm (vs : List Value) : (∃ x, vs = [x]) ∨ ∀ (α : Type) (h1 : Value → α) (h2 : Array Value → α), Builtin.Bytes.joinM.match_1 (fun _ => α) vs.toArray h1 h2 = h2 vs.toArray := by
  match vs with
  | [] => exact .inr fun _ _ _ => rfl
  | [x] => exact .inl ⟨x, rfl⟩
  | x :: y :: r => exact .inr fun _ _ _ => rfl
open PySem.Builtin PySem.Calls in
theorem jbody {prog : Program} {w : World} {A : Around} {s : Shared} {a : Addr} {n : Nat} {vs : List Value} {bs : List (List UInt8)} {t : Tok} {Q : Fin → Shared → Prop} {E : Value → Shared → Prop}
    (hl : s.heap.get? a = some { cls := .type "list", data := .seq vs.toArray n }) (hb : BytesAre vs bs) (hz : bs.flatten.length ≤ 16777216) (hQ : ∀ t k, Q (.done (.ret (.bytes bs.flatten.toArray t))) { s with toks := k }) :
    wpAny (model prog w) A («bytes.join» ⟨[.bytes #[] t, .ref a], []⟩) Q E s := by
  unfold Builtin.«bytes.join» Builtin.Bytes.joinM
  refine wpAny_bind (wpAny_of_eq (a := (Value.bytes #[] t, Value.ref a)) rfl ?_)
  have e1 : wpAny (model prog w) A (Builtin.Bytes.joinItems (.ref a)) (fun v s' => v = .ref a ∧ s' = s) E s := by
    unfold Builtin.Bytes.joinItems
    refine wpAny_bind (wpAny_typeOf ⟨_, hl, rfl⟩ ?_)
    exact wpAny_pure ⟨rfl, rfl⟩
  refine wpAny_bind (wpAny_mono e1 (fun v s' ⟨ev, es⟩ => ?_) fun _ _ e => e)
  subst ev es
  refine wpAny_bind (wpAny_seqItems hl rfl ?_)
  dsimp only
  rw [if_pos (show (Bytes.Kind.bytes == Bytes.Kind.bytes) = true from rfl)]
  rcases jm vs with ⟨x, hv⟩ | hm
  · subst hv
    cases hb with
    | cons y u hb' =>
      cases hb'
      refine wpAny_bind (wpAny_typeOf (typeIs_bytes _ _ _) ?_)
      have := hQ u s'.toks
      simp only [List.flatten_cons, List.flatten_nil, List.append_nil] at this
      exact wpAny_bind (wpAny_rule (wpAny_pure this))
  · rw [hm]
    refine wpAny_bind ?_
    rw [Std.Legacy.Range.forIn_eq_forIn_range']
    simp only [Std.Legacy.Range.size, Nat.sub_zero, Nat.add_sub_cancel, Nat.div_one]
    refine wpAny_forIn_list _
      (fun rest (st : Array (Array UInt8) × List (Value × Option Value)) s'' => s'' = s' ∧ ∃ i, rest = List.range' i (vs.length - i) ∧ i ≤ vs.length ∧ st.1 = ((bs.take i).map (·.toArray)).toArray ∧ ∀ p ∈ st.2, p.2 = none ∧ p.1.onHeap = false)
      _ ?_ ?_ _ _ ⟨rfl, 0, by simp, Nat.zero_le _, by simp, fun _ h => nomatch h⟩
    · rintro x rest ⟨parts, taken⟩ s'' ⟨rfl, i, hr, hi, hp, ht⟩
      have hlt : i < vs.length := by
        rcases Nat.lt_or_ge i vs.length with h | h
        · exact h
        · rw [Nat.sub_eq_zero_of_le h] at hr; simp at hr
      obtain ⟨rfl, hrest⟩ : x = i ∧ rest = List.range' (i + 1) (vs.length - (i + 1)) := by
        have e : vs.length - i = (vs.length - (i + 1)) + 1 := by wtm_at "la"
        rw [e, List.range'_succ] at hr
        injection hr with h1 h2
        exact ⟨h1, h2⟩
      obtain ⟨bx, tx, e1, e2⟩ := hb.get hlt
      refine wpAny_bind (wpAny_seqItems hl rfl ?_)
      dsimp only
      rw [show vs.toArray.getD x Value.none = .bytes bx.toArray tx from by simp [Array.getD, hlt]; simpa [hlt] using e2]
      rw [show (Bytes.Kind.bytes == Bytes.Kind.bytearray || taken.any fun x => x.1.onHeap) = false from by
        have : (taken.any fun x => x.1.onHeap) = false := by
          rw [List.any_eq_false]; intro p hp; rw [(ht p hp).2]; nofun
        rw [this]; rfl]
      rw [if_neg Bool.false_ne_true]
      refine wpAny_bind (wpAny_holding (wpAny_of_eq take_quiet ?_))
      dsimp only
      refine wpAny_bind (wpAny_seqItems hl rfl ?_)
      dsimp only
      rw [if_neg (by simp)]
      refine wpAny_pure ⟨rfl, x + 1, hrest, hlt, ?_, fun p hp => ?_⟩
      · dsimp only at hp ⊢
        rw [hp, List.take_add_one, e1]; simp
      · rcases List.mem_append.mp hp with hp | hp
        · exact ht p hp
        · rw [List.mem_singleton] at hp; subst hp; exact ⟨rfl, rfl⟩
    · rintro ⟨parts, taken⟩ s'' ⟨rfl, i, hr, hi, hp, ht⟩
      have hi : i = vs.length := by
        rcases Nat.lt_or_ge i vs.length with h | h
        · have e : vs.length - i = (vs.length - (i + 1)) + 1 := by wtm_at "la"
          rw [e, List.range'_succ] at hr; cases hr
        · wtm_at "la"
      have hp : parts = (bs.map (·.toArray)).toArray := by
        dsimp only at hp
        rw [hp, hi, hb.length, List.take_length]
      subst hp
      refine wpAny_bind (wpAny_of_eq (a := #[]) rfl ?_)
      rw [if_neg (by
        rw [show (#[] : Array UInt8).size = 0 from rfl, Nat.zero_mul, flat_len]
        rw [KBy.tooLong_not (by wtm_at "la")]; nofun)]
      refine wpAny_bind (wpAny_mkBytes ?_ (by rw [sizeLine_eq, joined_eq]; simpa using hz))
      rw [joined_eq]
      refine wpAny_bind (wpAny_holding (wpAny_point (wpAny_bind (wp_joinLetGo ?_ _ _ fun p hp => (ht p hp).1))))
      exact wpAny_pure (hQ _ _)
theorem bytesFold (l : List Nat) : ∀ acc : Array UInt8, l.foldl (fun acc y => acc ++ (Str.utf8Of y).toArray) acc = acc ++ (l.flatMap Str.utf8Of).toArray := by
  induction l with
  | nil => intro acc; simp
  | cons x r ih => intro acc; rw [List.foldl_cons, ih]; simp
theorem utf8_le (l : List Nat) : (l.flatMap Str.utf8Of).length ≤ 4 * l.length := by
  induction l with
  | nil => simp
  | cons x r ih =>
    have : (Str.utf8Of x).length ≤ 4 := by
      unfold Str.utf8Of
      by_cases h1 : x < 0x80
      · rw [if_pos h1]; simp
      · rw [if_neg h1]
        by_cases h2 : x < 0x800
        · rw [if_pos h2]; simp
        · rw [if_neg h2]
          by_cases h3 : x < 0x10000
          · rw [if_pos h3]; simp
          · rw [if_neg h3]; simp
    simp only [List.flatMap_cons, List.length_append, List.length_cons]
    wtm_at "la"
open PySem.Builtin PySem.Calls Builtin._codecs in
theorem narrow {M : Model} {A : Around} {s : Shared} {x : Str} {id : String} {self : Value} {Q : Array UInt8 → Shared → Prop} {E : Value → Shared → Prop}
    (hn : ∀ c ∈ x.cps.toList, Str.isSurrogate c = false) (hz : x.cps.size ≤ 1000) (hQ : Q (x.cps.toList.flatMap Str.utf8Of).toArray s) : wpAny M A (encodeNarrow id utf8Codec none self x) Q E s := by
  unfold encodeNarrow
  refine wpAny_bind ?_
  rw [Std.Legacy.Range.forIn_eq_forIn_range']
  have hl : x.length = x.cps.size := rfl
  have small : (x.cps.toList.flatMap Str.utf8Of).toArray.size ≤ sizeLine := by
    have := utf8_le x.cps.toList
    rw [sizeLine_eq]
    simp at this ⊢
    wtm_at "la"
  refine wpAny_forIn_list _
      (fun rest (st : Nat × Array UInt8 × Faults) s'' => s'' = s ∧ ((st.1 = 0 ∧ st.2.1 = #[] ∧ rest.length = x.cps.size) ∨ (st.1 = x.cps.size ∧ st.2.1 = (x.cps.toList.flatMap Str.utf8Of).toArray)))
      _ ?_ ?_ _ _ ⟨rfl, .inl ⟨rfl, rfl, by simp [hl, Std.Legacy.Range.size]⟩⟩
  · rintro k rest ⟨i, out, st⟩ s'' ⟨rfl, h⟩
    rcases h with ⟨h1, h2, h3⟩ | ⟨h1, h2⟩
    · dsimp only at h1 h2
      subst h1 h2
      have hpos : 0 < x.cps.size := by rw [← h3]; simp
      dsimp only
      rw [if_neg (by simp [sizeLine])]
      rw [Array.getElem?_eq_getElem hpos]
      dsimp only
      have h0 : utf8Codec.bad x.cps[0] = false := hn _ (by simp)
      rw [h0]
      rw [if_pos (show (!false) = true from rfl)]
      have hf : (x.cps.extract 0 x.cps.size).findIdx? utf8Codec.bad = none := by
        rw [Array.extract_size, Array.findIdx?_eq_none_iff]
        intro c hc; exact hn c (by simpa using hc)
      refine wpAny_pure ⟨rfl, .inr ⟨?_, ?_⟩⟩
      · dsimp only; rw [hf]; simp
      · dsimp only; rw [hf]; simp only [Option.getD_none, Array.extract_size]
        rw [← Array.foldl_toList]
        exact (bytesFold _ _).trans (by simp)
    · dsimp only at h1 h2
      subst h1 h2
      dsimp only
      rw [if_neg (by wtm_at "la")]
      rw [Array.getElem?_eq_none (Nat.le_refl _)]
      exact wpAny_pure (wpAny_pure hQ)
  · rintro ⟨i, out, st⟩ s'' ⟨rfl, h⟩
    refine wpAny_pure ?_
    rcases h with ⟨h1, h2, h3⟩ | ⟨h1, h2⟩
    · dsimp only at h1 h2 ⊢
      have : x.cps = #[] := Array.eq_empty_of_size_eq_zero (by rw [← h3]; rfl)
      rw [this] at hQ
      rw [h2]; exact hQ
    · dsimp only at h2 ⊢; rw [h2]; exact hQ
open PySem.Builtin PySem.Calls Builtin._codecs in
theorem encode1 (x : Str) (t u : Tok) : «str.encode» ⟨[.str x t, .str (Str.ofString "utf-8") u], []⟩ = (do ret (← encodeRoad "str.encode" (.str x t) x (Str.ofString "utf-8") none)) := by
  kernel_rfl!
namespace FJ
open PySem.Builtin PySem.Calls
theorem slot_join : Slot "bytes" "join" "bytes.join" :=
  .of (owner := "bytes") (n := "join") (by rw [typeLookup_type, builtinLookup_eq_fast]; kernel_rfl) (by decide +kernel) (by decide +kernel) (by decide +kernel)
    (by first | exact .inl (by decide +kernel) | exact .inr (by decide +kernel)) (by rw [isSubtype_type]; kernel_rfl)
theorem type_join : typeOf (.builtin "bytes.join") = pure (.type "method_descriptor") := by show builtinType _ = _; rw [builtinType_eq_fast]; kernel_rfl
theorem entry_join : entryFor table "bytes.join" = some Builtin.«bytes.join» := entryFor_of_tree (by kernel_rfl)
theorem args_join (a b : Value) : argsOk "bytes.join" ⟨[a, b], []⟩ := by
  unfold argsOk; rw [signature?_of (id := "bytes.join") (n := ['n', 'i', 'o', 'j']) (o := ['s', 'e', 't', 'y', 'b']) (by kernel_rfl) FB.owner_bytes]; kernel_rfl
theorem look_bytes : typeLookup (.type "bytes") "__bytes__" = pure (some (.builtin "bytes.__bytes__")) := by rw [typeLookup_type, builtinLookup_eq_fast]; kernel_rfl
end FJ

section
variable {prog : Program} {w : World} {A : Around} {E : Value → Heap → Prop} {h h₀ h₁ : Heap} {b : Bs} {X : List Addr} {fz : List (Addr × K)} {L : Addr} {l : List (Str × Value)} {ob : List (Addr × K)}
  {env : Env} {pos : Pos} {v : Value} {i n : Nat} {a : Addr} {t u : Tok}

theorem W.getJoinB {x : Array UInt8} {pl : Sem Bool} {Q : Value × List Value → Heap → Prop} (q : Q (.builtin "bytes.join", [.bytes x t]) h) : W prog w A (getMethod (.bytes x t) "join" pl) Q E h :=
  fun s _ _ e q' _ => by with_reducible exact KBd.method_of (.bytes x t) (typeIs_bytes _ _ _) FJ.slot_join FJ.type_join KBd.noRef (q' _ _ s.toks (e ▸ q))
theorem W.getJoinS {x : Str} {pl : Sem Bool} {Q : Value × List Value → Heap → Prop} (q : Q (.builtin "str.join", [.str x t]) h) : W prog w A (getMethod (.str x t) "join" pl) Q E h :=
  fun s _ _ e q' _ => GM.join (q' _ _ s.toks (e ▸ q))
theorem W.getEncode {x : Str} {pl : Sem Bool} {Q : Value × List Value → Heap → Prop} (q : Q (.builtin "str.encode", [.str x t]) h) : W prog w A (getMethod (.str x t) "encode" pl) Q E h :=
  fun s _ _ e q' _ => by with_reducible exact GM.of (.str x t) (typeIs_str _ _ _) F.slot_str_encode F.type_str_encode GM.noRef (q' _ _ s.toks (e ▸ q))
theorem W.getToBytes {x : Int} {pl : Sem Bool} {Q : Value × List Value → Heap → Prop} (q : Q (.builtin "int.to_bytes", [.int x t]) h) : W prog w A (getMethod (.int x t) "to_bytes" pl) Q E h :=
  fun s _ _ e q' _ => KTBy.method (q' _ _ s.toks (e ▸ q))
section
variable {Q : Value → Heap → Prop}
theorem W.joinB {vs : List Value} {bs : List (List UInt8)} (hl : h.PlainList a vs.toArray) (hb : BytesAre vs bs) (hz : bs.flatten.length ≤ 16777216) (q : ∀ t, Q (.bytes bs.flatten.toArray t) h) :
    W prog w A (PySem.call (.builtin "bytes.join") [.bytes [].toArray t, .ref a]) Q E h := by
  intro s Q' E' e q' r
  subst e
  obtain ⟨n, hl⟩ := hl
  refine wpAny_call (codeAny_call_builtin FJ.slot_join.plain FJ.entry_join (FJ.slot_join.check _ _ _ _ _ _ _ _ (typeIs_bytes _ _ _) (FJ.args_join _ _) ?_))
  exact jbody hl hb hz fun t k => q' _ _ _ (q t)
noncomputable def strVals (cs : List Str) (vs : List Value) : Prop := ∃ l : List (Str × Tok), vs = strValues l ∧ l.map (·.1) = cs
theorem W.joinS {vs : List Value} {cs : List Str} {x : Str} (hl : h.PlainList a vs.toArray) (hb : strVals cs vs) (hz : JoinOk x cs = true) (q : ∀ t, Q (.str (Txt.join x cs) t) h) :
    W prog w A (PySem.call (.builtin "str.join") [.str x t, .ref a]) Q E h := by
  intro s Q' E' e q' r
  subst e
  obtain ⟨l, rfl, hm⟩ := hb
  exact SC.join hl.isList hm hz fun t k => q' _ _ _ (q t)
noncomputable def u8 (x : Str) : List UInt8 := x.cps.toList.flatMap Str.utf8Of
theorem W.encode {x : Str} (hn : ∀ c ∈ x.cps.toList, Str.isSurrogate c = false) (hz : x.cps.size ≤ 1000) (q : ∀ t, Q (.bytes (u8 x).toArray t) h) :
    W prog w A (PySem.call (.builtin "str.encode") [.str x t, .str (Str.ofString "utf-8") u]) Q E h := by
  intro s Q' E' e q' r
  subst e
  refine wpAny_call (codeAny_call_builtin F.slot_str_encode.plain F.entry_str_encode (F.slot_str_encode.check _ _ _ _ _ _ _ _ (typeIs_str _ _ _) (F.args_str_encode_2 _ _) ?_))
  rw [encode1, encodeRoad_utf8]
  have small : (u8 x).toArray.size ≤ sizeLine := by
    have := utf8_le x.cps.toList
    rw [sizeLine_eq]
    simp [u8] at this ⊢
    wtm_at "la"
  exact wpAny_bind (wpAny_bind (narrow hn hz (wpAny_mkBytes (wpAny_pure (q' _ _ _ (q _))) small)))
theorem bl_of {c : Array UInt8} {ns : List Int} (e : KBw.bInts c = ns) : c = (bl ns).toArray := by
  subst e
  apply Array.toList_inj.mp
  unfold KBw.bInts bl
  simp [Function.comp_def]
theorem W.toLittle {x B : Int} {k : Nat} (hk : k ≤ 8) (hB : (256 : Int) ^ k = B) (h0 : 0 ≤ x) (h1 : x < B) {v : Tok} (q : ∀ t, Q (.bytes (bl (KTBy.little k x)).toArray t) h) :
    W prog w A (PySem.call (.builtin "int.to_bytes") [.int x t, .int (k : Int) u, .str (Str.ofString "little") v]) Q E h := fun s _ _ e q' _ =>
  KTBy.to_little hk hB h0 h1 fun c t' k' hc _ => by
    subst e
    rw [bl_of hc]
    exact q' _ _ _ (q _)
theorem W.bytesB {x : Array UInt8} (q : Q (.bytes x t) h) : W prog w A (PySem.call (.type "bytes") [.bytes x t]) Q E h := by
  intro s Q' E' e q' r
  subst e
  refine callType_codes (Q₁ := fun obj s₁ => s₁.TypeIs obj "bytes" ∧ Q' obj s₁) F.bm_called (F.bm_typeCall _) F.entry_object_init ?_ fun obj s₁ h₁ => ?_
  · refine codeAny_of_tree ?_
    show wpAny _ _ (do checkBuiltinCall "bytes.__new__" ⟨[.type "bytes", .bytes x t], []⟩; again (.builtin "bytes.__new__" ⟨[.type "bytes", .bytes x t], []⟩)) _ _ s
    refine wpAny_bind (wpAny_of_eq (F.bm_newCall _) (wpAny_pure ⟨plainId_quiet F.bm_plain _, codeAny_builtin F.bm_entry ?_⟩))
    rw [Around.under_plainId F.bm_plain _]
    unfold Builtin.«bytes.__new__»
    refine wpAny_bind (wpAny_of_eq (a := true) rfl ?_)
    refine bm_if_false rfl ?_
    refine wpAny_bind (wpAny_of_eq F.bm_sub ?_)
    refine bm_if_false rfl ?_
    refine wpAny_bind (wpAny_of_eq (F.bm_bind _) ?_)
    refine wpAny_bind (wpAny_of_eq (a := ()) rfl ?_)
    refine wpAny_bind (wpAny_of_eq (a := ()) rfl ?_)
    refine bm_if_false rfl ?_
    refine wpAny_bind (wpAny_of_eq (KBy.special_eq FJ.look_bytes) ?_)
    dsimp only
    split
    · refine wpAny_bind (wpAny_rule (wpAny_bind (wpAny_typeOf (typeIs_bytes _ _ _) ?_)))
      exact wpAny_pure ⟨typeIs_bytes _ _ _, q' _ _ s.toks q⟩
    · rename_i hx hy; exact (hx (Option.some.inj hy).symm).elim
    · rename_i hx; cases hx
  · exact ⟨h₁.1, F.args_object_init_2 obj _, object_init_meets F.bm_called.init.lookup F.bm_called.made (by decide) prog w A.in1 _ s₁ ⟨h₁.1, rfl, h₁.2⟩⟩
/-- two lists with the same values -/
theorem W.eqL {c : Addr} {vs : List Value} (hu : A.units < cLine) (ha : h.PlainList a vs.toArray) (hc : h.PlainList c vs.toArray) (q : Q (.bool true) h) : W prog w A (compareOp .Eq (.ref a) (.ref c)) Q E h := fun s _ _ e q' _ => by
  subst e
  refine SeqAt.eq_listAt (e := fun _ => true) ha.isList hc.isList rfl hu (fun j h1 h2 => SeqAt.EqAt.same _) ?_
  have : ((List.range vs.toArray.size).all fun _ => true) = true := by simp
  rw [this]
  exact q' _ _ s.toks q
end
/-! unpacking -/
theorem W.assignT {Q : Flow → Heap → Prop} {elts : List Expr} {k : Nat} {tpos : Pos} {value : Expr} (x : W prog w A (eval value env) (fun v h₁ => W prog w A (PySem.assign (.Tuple elts k tpos) env v) (fun _ => Q .next) E h₁) E h)
    (hs : swapsWithSole [.Tuple elts k tpos] value pos.line env = Pure.pure false) (hw : swappedStores [.Tuple elts k tpos] value env = Pure.pure none) : W prog w A (exec (.Assign [.Tuple elts k tpos] value pos) env) Q E h :=
  fun s Q' E' e q r => Assign_Tuple (x s _ E' e (fun v h' tk y => y _ _ E' rfl (fun _ h₂ t₂ z => q _ h₂ t₂ z) fun v h₂ t₂ z => r v h₂ t₂ z) r) hs hw
theorem W.unpack {Q : Unit → Heap → Prop} {elts : List Expr} {k : Nat} {tpos : Pos} {xs : List Value} (R : A.handled = none) (S : St b h₀ X fz L l ob h) (hi : (a, .tup xs) ∈ ob)
    (hn : (assignEach elts env).length = xs.length) (hstar : (assignEach elts env).findIdx? (·.1) = none) (x : ∀ h', St b h₀ X fz L l ob h' → W prog w A (assignInOrder ((assignEach elts env).map (·.2)) xs) Q E h') :
    W prog w A (PySem.assign (.Tuple elts k tpos) env (.ref a)) Q E h := fun s Q' E' e q r => by
  subst e
  have e1 : s.heap.get? a = _ := S.obs _ hi
  refine assign_Tuple_tuple (items := xs.toArray) R ⟨_, e1, rfl, _, rfl⟩ (by simpa using hn) hstar fun h' he => ?_
  exact x h' (S.keeps fun c o ec => he c o (Nat.ne_of_lt (Heap.lt_size ec)) ec) _ Q' E' rfl (fun v h₂ t₂ z => q v h₂ t₂ z) fun v h₂ t₂ z => r v h₂ t₂ z
theorem W.inOrder0 {Q : Unit → Heap → Prop} (x : Q () h) : W prog w A (assignInOrder [] []) Q E h := W.pure x
theorem W.inOrder1 {Q : Unit → Heap → Prop} {f : Value → Sem Unit} {fs : List (Value → Sem Unit)} {vs : List Value} (x : W prog w A (f v) (fun _ h₁ => W prog w A (assignInOrder fs vs) Q E h₁) E h) : W prog w A (assignInOrder (f :: fs) (v :: vs)) Q E h :=
  fun s Q' E' e q r => assignInOrder_cons (x s _ E' e (fun _ h' tk y => y _ Q' E' rfl (fun v h₂ t₂ z => q v h₂ t₂ z) fun v h₂ t₂ z => r v h₂ t₂ z) r)

/-! loops over the signs of a text -/
theorem strIter {s : Shared} {x : Str} {t : Tok} {Q : Value → Shared → Prop} {E : Value → Shared → Prop} (hQ : ∀ ty, (ty = "str_ascii_iterator" ∨ ty = "str_iterator") → Q (.ref s.heap.objs.size) { s with heap := s.heap.push { cls := .type ty, data := .fields #[.str x t, .int 0 0] } }) :
    wpAny (model prog w) A (pyIter (.str x t)) Q E s := by
  cases ha : x.cps.all (· < 128) with
  | true => exact wpAny_pyIter_ascii ha (hQ _ (.inl rfl))
  | false => exact wpAny_pyIter_wide ha (hQ _ (.inr rfl))
theorem strNext {s : Shared} {x : Str} {t : Tok} {it : Addr} {ty : String} {i c : Nat} {Q : Option Value → Shared → Prop} {E : Value → Shared → Prop} (hty : ty = "str_ascii_iterator" ∨ ty = "str_iterator") (hit : s.heap.IsStrIter it ty x t i) (hx : x.cps[i]? = some c)
    (hQ : ∀ h', h'.IsStrIter it ty x t (i + 1) → Heap.SameBut it s.heap h' → Q (some (.str ⟨#[c]⟩ s.toks)) { s with heap := h', toks := s.toks + 1 }) : wpAny (model prog w) A (pyNext (.ref it)) Q E s := by
  rcases hty with rfl | rfl
  · exact wpAny_pyNext_ascii_item hit hx hQ
  · exact wpAny_pyNext_wide_item hit hx hQ
theorem forK.str {Q : Flow → Heap → Prop} {s₀ : Str} {x : Str} {px : Pos} {body : List Stmt} (J : Nat → List (Str × Value) → List (Addr × K) → Prop) (R : A.handled = none) (S : St b h₀ X fz L l ob h) (h0 : J 0 l ob)
    (turn : ∀ it k i c tk l ob h, s₀.cps[i]? = some c → J i l ob → h₀.get? it = none → St b h₀ X fz L l ((it, k) :: ob) h →
      W prog w A (PySem.assign (.Name x px) env (.str ⟨#[c]⟩ tk)) (fun _ h₁ => W prog w A (execs body env) (loopK (fun m h₂ => m + i + 1 = s₀.cps.size ∧ ∃ l ob, J (i + 1) l ob ∧ St b h₀ X fz L l ((it, k) :: ob) h₂) (s₀.cps.size - i) Q) (fun _ _ => False) h₁) (fun _ _ => False) h)
    (fin : ∀ l ob h, J s₀.cps.size l ob → St b h₀ X fz L l ob h → Q .next h) : forK prog w A (.Name x px) body env Q (.str s₀ t) h := by
  intro s Q' E' e q r
  subst e
  refine strIter fun ty hty => ?_
  refine q _ _ s.toks ?_
  have htc : ty ≠ "code" := by rcases hty with rfl | rfl <;> decide
  have S₁ := S.push { cls := .type ty, data := .fields #[.str s₀ t, .int 0 0] } rfl (.inr ⟨_, rfl, htc⟩)
  have hit0 : h₀.get? s.heap.objs.size = none := S.ext.fresh (Heap.get?_none_of_le (Nat.le_refl _))
  revert S₁ hit0
  generalize s.heap.objs.size = it
  generalize s.heap.push { cls := .type ty, data := .fields #[.str s₀ t, .int 0 0] } = h₁
  intro S₁ hit0 s R' e q r
  subst e
  refine codeAny_forLoop_any (fun n s' => s' = { s with heap := s'.heap, toks := s'.toks } ∧ ∃ i l ob o, n + i = s₀.cps.size ∧ J i l ob ∧ o.cls = .type ty ∧ o.data = .fields #[.str s₀ t, .int i 0] ∧ St b h₀ X fz L l ((it, .ob o) :: ob) s'.heap) (fun n s' hI => ?_) s₀.cps.size ⟨rfl, 0, _, _, _, rfl, h0, rfl, rfl, S₁⟩
  obtain ⟨es, i, l', ob', o, hn, hJ, hoc, hod, S'⟩ := hI
  have hit : s'.heap.IsStrIter it ty s₀ t i := ⟨o, (S'.obs _ (.head _)).1, hoc, hod⟩
  cases hv : s₀.cps[i]? with
  | none =>
    have fin' : ∀ h', Heap.ExtBut it s'.heap h' → wpAny (model prog w) A (execs [] env) (fun f s' => R' (.ok f) s') (fun e s' => R' (.error e) s') { s' with heap := h' } := fun h' he => by
      refine wpAny_execs_nil ?_
      have hi : i = s₀.cps.size := by have := Array.getElem?_eq_none_iff.mp hv; wtm_at "la"
      have := q .next h' s'.toks (fin l' ob' h' (hi ▸ hJ) (S'.dropBut hit0 he))
      rw [es]; exact this
    rcases hty with rfl | rfl
    · exact wpAny_pyNext_ascii_end R hit hv fun h' he => fin' h' he
    · exact wpAny_pyNext_wide_end R hit hv fun h' he => fin' h' he
  | some c =>
    refine strNext hty hit hv fun h' hit' hs => ?_
    obtain ⟨o', ho', hoc', hod'⟩ := hit'
    have S₂ : St b h₀ X fz L l' ((it, .ob o') :: ob') h' := S'.upd (i := 0) rfl hs.extBut ⟨ho', .inr ⟨_, hoc', htc⟩, fun _ _ => by rw [hod']; nofun⟩ (fun z => absurd hod (z _))
    show wpAny _ A (letOwnedTupleGo (.Name x px) (.ref it) _) _ _ _
    refine wpAny_pure ?_
    refine turn it (.ob o') i c _ l' ob' h' hv hJ hit0 S₂ _ _ _ rfl (fun _ h₃ t₃ y => ?_) fun _ _ _ y => y.elim
    refine y _ _ _ rfl (fun f h₄ t₄ z => ?_) fun _ _ _ y => y.elim
    have hi : i < s₀.cps.size := (Array.getElem?_eq_some_iff.mp hv).1
    cases f with
    | next => obtain ⟨m, hm, h1, l₂, ob₂, h2, h3⟩ := z; exact ⟨m, by wtm_at "la", by rw [es], i + 1, l₂, ob₂, o', by wtm_at "la", h2, hoc', hod', h3⟩
    | cont => obtain ⟨m, hm, h1, l₂, ob₂, h2, h3⟩ := z; exact ⟨m, by wtm_at "la", by rw [es], i + 1, l₂, ob₂, o', by wtm_at "la", h2, hoc', hod', h3⟩
    | brk => have := q _ h₄ t₄ z; rw [es]; exact this
    | ret v => have := q _ h₄ t₄ z; rw [es]; exact this
end

/-! closures -/
/-- a code and its open table -/
noncomputable def Code (b : Bs) (h : Heap) (c P : Addr) : Prop := CodeHd h c P ∧ TabOk b.B h P
theorem Code.ext {b : Bs} {h h' : Heap} {c P : Addr} (x : Code b h c P) (e : Ext b.B [] h h') : Code b h' c P :=
  ⟨codeHd_at x.1 fun o eo => by
    obtain ⟨o', _, _, _, _, _, _, _, _, e1, e2, e3, _⟩ := id x.1
    rw [eo] at e1; cases e1
    exact e.keep _ _ eo List.not_mem_nil (.inl (by rw [e2]; nofun)) (fun _ _ => by rw [e3]; nofun), e.tabs _ x.2⟩
structure Cl (b : Bs) (h : Heap) (f : Addr) (qn : Str) (params : Arguments) (body : List Stmt) (sc : Scope) (cl : List (Str × Addr)) (dv : List Value) (c P : Addr) : Prop where
  fn : ∃ dV, FnO h f qn params body sc cl dV (.ref c) ∧ DvIs h dv dV
  code : Code b h c P
theorem FnO.ext {B h h' : Heap} {a c : Addr} {qn : Str} {params : Arguments} {body : List Stmt} {sc : Scope} {cl : List (Str × Addr)} {dV : Value} {P : Addr} (x : FnO h a qn params body sc cl dV (.ref c)) (C : CodeHd h c P) (e : Ext B [] h h') : FnO h' a qn params body sc cl dV (.ref c) :=
  FnO.keeps x (fun b o eo t d => e.keep b o eo List.not_mem_nil t d) fun c' o ec eo => by
    cases ec
    obtain ⟨o', _, _, _, _, _, _, _, _, e1, e2, e3, _⟩ := id C
    rw [eo] at e1; cases e1
    exact .inl (by rw [e2]; nofun)
theorem Cl.ext {b : Bs} {h h' : Heap} {f c P : Addr} {qn : Str} {params : Arguments} {body : List Stmt} {sc : Scope} {cl : List (Str × Addr)} {dv : List Value} (x : Cl b h f qn params body sc cl dv c P) (e : Ext b.B [] h h') : Cl b h' f qn params body sc cl dv c P :=
  ⟨let ⟨dV, F, D⟩ := x.fn; ⟨dV, F.ext x.code.1 e, D.ext e⟩, x.code.ext e⟩
theorem Cl.fnat {b : Bs} {h : Heap} {f c P : Addr} {qn : Str} {params : Arguments} {body : List Stmt} {sc : Scope} {cl : List (Str × Addr)} {dv : List Value} (x : Cl b h f qn params body sc cl dv c P) : FnAt f h := let ⟨_, F, _⟩ := x.fn; FnAt.ofO F

section
variable {prog : Program} {w : World} {A : Around} {E : Value → Heap → Prop} {h h₀ h₁ : Heap} {b : Bs} {X : List Addr} {fz : List (Addr × K)} {L : Addr} {l : List (Str × Value)} {ob : List (Addr × K)}
  {env : Env} {pos : Pos} {v : Value} {i n : Nat} {a c P f : Addr} {t u : Tok} {qn : Str} {params : Arguments} {body : List Stmt} {sc : Scope} {cl : List (Str × Addr)} {vs : List Value} {binds : List (Str × Value)}
theorem Cl.store {h' : Heap} {dv : List Value} {m : Str → Option Value} (x : Cl b h f qn params body sc cl dv c P) (n : h.Ns L m) (e : Heap.SameBut L h h') : Cl b h' f qn params body sc cl dv c P := by
  obtain ⟨dV, F, D⟩ := x.fn
  obtain ⟨oL, _, _, hL, hd, _⟩ := n
  have k : ∀ b' o, h.get? b' = some o → NoDict o → h'.get? b' = some o := fun b' o eo nd => e.extBut b' o (fun q => by subst q; rw [hL] at eo; cases eo; exact nd _ _ hd) eo
  have hc : ∀ o, h.get? c = some o → h'.get? c = some o := fun o eo => by
    obtain ⟨o', _, _, _, _, _, _, _, _, e1, e2, e3, _⟩ := id x.code.1
    rw [eo] at e1; cases e1
    exact k _ _ eo (fun _ _ => by rw [e3]; nofun)
  refine ⟨⟨dV, FnO.keeps F (fun b' o eo _ nd => k b' o eo nd) (fun c' o ec eo => ?_), ?_⟩, codeHd_at x.code.1 hc, x.code.2.but (fun b' o nb eo => e.extBut b' o nb eo) (fun o eo => by rw [hL] at eo; cases eo; exact .inl (by rw [hd]; nofun))⟩
  · cases ec
    obtain ⟨o', _, _, _, _, _, _, _, _, e1, e2, e3, _⟩ := id x.code.1
    rw [eo] at e1; cases e1
    exact .inl (by rw [e2]; nofun)
  · cases dv with
    | nil => exact D
    | cons d r => obtain ⟨T, e1, e2⟩ := D; exact ⟨T, e1, k _ _ e2 nofun⟩
theorem W.storeL2 {x : Str} {Q : Unit → Heap → Prop} (S : St b h₀ X fz L l ob h) (hL : env.locals = L) (hk : env.scope.kind = .function) (hx : env.kindOf x = some .local) (q : ∀ h', St b h₀ X fz L ((x, v) :: l) ob h' → Heap.SameBut L h h' → Q () h') :
    W prog w A (storeName env x v) Q E h :=
  fun s _ _ e q' _ => wpAny_storeName_local hx (e ▸ hL ▸ S.ns) (fun h' hn hs => q' _ _ _ (q h' (S.store (e ▸ hL ▸ hs) (hL ▸ hn)) (e ▸ hL ▸ hs))) (by rw [hk]; rfl)
/-- a def within a def -/
theorem W.nest0 {Q : Flow → Heap → Prop} {name : Str} {scope : Scope} {clos : List (Str × Addr)} (H : Hyp b) (S : St b h₀ [] fz L l ob h) (hC : Code b h₀ c P) (hd : defaultsOf params env = ([], [])) (ha : annTrees params none env = []) (hc : env.code = .ref c) (hg : env.globals = mainGlobals)
    (hq : nm pos = qualnameIn env name name) (hcl : closureFor scope env = Pure.pure clos)
    (hL : env.locals = L) (hk : env.scope.kind = .function) (hx : env.kindOf name = some .local)
    (k : ∀ f c' P' h', St b h₀ [] fz L ((name, .ref f) :: l) ob h' → Cl b h' f (qualnameIn env name name) params body scope clos [] c' P' → Q .next h') :
    W prog w A (exec (.FunctionDef name params body [] none [] scope none name pos) env) Q E h := by
  have C := hC.ext S.ext
  refine W.nestDef0 hd ha (W.makeFn (dv := []) H.g S hc hg C.1 C.2 hq hcl fun f c' P' dV doc pm ct h' S' hr hC' hT' D => ?_)
  exact W.storeL2 S'.drop hL hk hx fun h'' S'' hs => k f c' P' h'' S'' (Cl.store ⟨⟨dV, ⟨_, name, .none, doc, pm, none, ct, (S'.obs _ (.head _)).1, rfl, hr⟩, D⟩, hC', hT'⟩ S'.ns hs)
theorem W.nest1 {Q : Flow → Heap → Prop} {name : Str} {scope : Scope} {clos : List (Str × Addr)} {k₀ : Nat} {p : Pos} (H : Hyp b) (S : St b h₀ [] fz L l ob h) (hC : Code b h₀ c P) (hd : defaultsOf params env = ([eval (.Constant .none k₀ p) env], [])) (ha : annTrees params none env = []) (hc : env.code = .ref c) (hg : env.globals = mainGlobals)
    (hq : nm pos = qualnameIn env name name) (hcl : closureFor scope env = Pure.pure clos)
    (hL : env.locals = L) (hk : env.scope.kind = .function) (hx : env.kindOf name = some .local)
    (k : ∀ f c' P' h', St b h₀ [] fz L ((name, .ref f) :: l) ob h' → Cl b h' f (qualnameIn env name name) params body scope clos [.none] c' P' → Q .next h') :
    W prog w A (exec (.FunctionDef name params body [] none [] scope none name pos) env) Q E h := by
  have C := hC.ext S.ext
  refine W.nestDef1 hd ha (W.makeFn (dv := [.none]) H.g S hc hg C.1 C.2 hq hcl fun f c' P' dV doc pm ct h' S' hr hC' hT' D => ?_)
  exact W.storeL2 S'.drop hL hk hx fun h'' S'' hs => k f c' P' h'' S'' (Cl.store ⟨⟨dV, ⟨_, name, .none, doc, pm, none, ct, (S'.obs _ (.head _)).1, rfl, hr⟩, D⟩, hC', hT'⟩ S'.ns hs)
/-- a call of a closure, turning nothing -/
theorem W.clos0 {Q : Value → Heap → Prop} (H : Hyp b) (O : Ok b h) (F : Cl b h f qn params body sc cl [] c P) (R : Room (n + 1) A) (fz : List (Addr × K)) (binds : List (Str × Value))
    (hb : ∀ cd name kV doc pm an ct, bindArgs (fnX name qn params body sc cl .none kV doc pm an cd ct) ⟨vs, []⟩ = Pure.pure binds)
    (hfz : ∀ p ∈ fz, p.2.at h p.1)
    (k : ∀ L h₁ A' cs os, cellsFrom (L + 1) sc.names cl = cs → cellObs (L + 1) sc.names = os → Room n A' → St b h [] fz L [] os h₁ → bindK prog w A.in1 (envX qn sc L f (.ref c) cs) binds (fun h₂ => Ok b h₂ ∧
      W prog w A' (execs body (envX qn sc L f (.ref c) cs)) (retK Q) (fun _ _ => False) h₂) h₁)
    (hco : sc.isCoroutine = false := by rfl) (hgen : sc.isGenerator = false := by rfl) : W prog w A (PySem.call (.ref f) vs) Q E h := by
  obtain ⟨dV, F, D⟩ := F.fn
  have e : dV = .none := D
  subst e
  refine W.frame (ob₀ := []) (X := []) (fz := fz) (dv := []) H.g O F D R (fun s name kV doc pm an ct _ => BindsTo.of_eq (hb _ name kV doc pm an ct)) (fun _ h => nomatch h) (fun p hp => ⟨hfz p hp, List.not_mem_nil⟩) (fun _ h => nomatch h) List.nodup_nil (fun L h₁ A' R' S => ?_) hco hgen
  rw [List.append_nil] at S
  exact k L h₁ A' _ _ rfl rfl R' S
theorem St.all {h' : Heap} (S : St b h₀ X fz L l ob h) (x : Ext b.B [] h h') : ∀ p ∈ ob ++ fz, p.2.at h' p.1 := fun p hp =>
  (List.mem_append.mp hp).elim (fun hp => K.ext x List.not_mem_nil (S.obs p hp)) fun hp => K.ext x List.not_mem_nil (S.fzAt (by simpa using hp))
theorem W.closS {h' : Heap} {Q : Value → Heap → Prop} {L₀ : Addr} (H : Hyp b) (S : St b h₀ X fz L₀ l ob h) (x : Ext b.B [] h h') (F : Cl b h f qn params body sc cl [] c P) (O : Ok b h') (R : Room (n + 1) A) (ex : List (Addr × K)) (hex : ∀ p ∈ ex, p.2.at h' p.1) (binds : List (Str × Value))
    (hb : ∀ cd name kV doc pm an ct, bindArgs (fnX name qn params body sc cl .none kV doc pm an cd ct) ⟨vs, []⟩ = Pure.pure binds)
    (k : ∀ L h₁ A' cs os, cellsFrom (L + 1) sc.names cl = cs → cellObs (L + 1) sc.names = os → Room n A' → Code b h' c P → St b h' [] (ex ++ (ob ++ fz)) L [] os h₁ → bindK prog w A.in1 (envX qn sc L f (.ref c) cs) binds (fun h₂ => Ok b h₂ ∧
      W prog w A' (execs body (envX qn sc L f (.ref c) cs)) (retK Q) (fun _ _ => False) h₂) h₁)
    (hco : sc.isCoroutine = false := by rfl) (hgen : sc.isGenerator = false := by rfl) : W prog w A (PySem.call (.ref f) vs) Q E h' :=
  W.clos0 H O (F.ext x) R (ex ++ (ob ++ fz)) binds hb (fun p hp => (List.mem_append.mp hp).elim (hex p) (S.all x p)) (fun L h₁ A' cs os hcs hos R' S' => k L h₁ A' cs os hcs hos R' (F.ext x).code S') hco hgen
/-- a maker of the top -/
theorem W.mkr1 {Q : Value → Heap → Prop} (H : Hyp b) (O : Ok b h) (F : ∃ c P, FnO b.B a qn params body sc [] .none (.ref c) ∧ CodeHd b.B c P ∧ P ∈ b.ts) (R : Room (n + 1) A) (binds : List (Str × Value))
    (hb : ∀ cd name kV doc pm an ct, bindArgs (fnX name qn params body sc [] .none kV doc pm an cd ct) ⟨vs, []⟩ = Pure.pure binds)
    (k : ∀ L h₁ A' cs os, cellsFrom (L + 1) sc.names [] = cs → cellObs (L + 1) sc.names = os → ∀ c P, Room n A' → Code b h c P → St b h [] [] L [] os h₁ → bindK prog w A.in1 (envX qn sc L a (.ref c) cs) binds (fun h₂ => Ok b h₂ ∧
      W prog w A' (execs body (envX qn sc L a (.ref c) cs)) (retK Q) (fun _ _ => False) h₂) h₁)
    (hco : sc.isCoroutine = false := by rfl) (hgen : sc.isGenerator = false := by rfl) : W prog w A (PySem.call (.ref a) vs) Q E h :=
  W.mkr0 H O F R binds hb (fun L h₁ A' c P R' hc S => k L h₁ A' _ _ rfl rfl c P R' (hc h O) S) hco hgen
end

theorem nk1 : (NameKind.cell == NameKind.cell) = true := rfl
theorem nk2 : (NameKind.local == NameKind.cell) = false := rfl
theorem nk3 : (NameKind.free == NameKind.cell) = false := rfl
theorem nk4 : (NameKind.globalImplicit == NameKind.cell) = false := rfl
theorem elimCO {P : List (Str × Addr) → List (Addr × K) → Prop} {x : List (Str × Addr)} {y : List (Addr × K)} (p : P x y) : ∀ cs os, x = cs → y = os → P cs os := by rintro cs os rfl rfl; exact p
theorem cf0 {n : Nat} {acc : List (Str × Addr)} : cellsFrom n [] acc = acc := rfl
theorem cfc {n : Nat} {x : Str} {r : List (Str × NameKind)} {acc : List (Str × Addr)} : cellsFrom n ((x, .cell) :: r) acc = cellsFrom (n + 1) r ((x, n) :: acc) := rfl
theorem cfl {n : Nat} {x : Str} {r : List (Str × NameKind)} {acc : List (Str × Addr)} : cellsFrom n ((x, .local) :: r) acc = cellsFrom n r acc := rfl
theorem cff {n : Nat} {x : Str} {r : List (Str × NameKind)} {acc : List (Str × Addr)} : cellsFrom n ((x, .free) :: r) acc = cellsFrom n r acc := rfl
theorem cfg {n : Nat} {x : Str} {r : List (Str × NameKind)} {acc : List (Str × Addr)} : cellsFrom n ((x, .globalImplicit) :: r) acc = cellsFrom n r acc := rfl
theorem co0 {n : Nat} : cellObs n [] = [] := rfl
theorem coc {n : Nat} {x : Str} {r : List (Str × NameKind)} : cellObs n ((x, .cell) :: r) = (n, .cell none) :: cellObs (n + 1) r := rfl
theorem col {n : Nat} {x : Str} {r : List (Str × NameKind)} : cellObs n ((x, .local) :: r) = cellObs n r := rfl
theorem cof {n : Nat} {x : Str} {r : List (Str × NameKind)} : cellObs n ((x, .free) :: r) = cellObs n r := rfl
theorem cog {n : Nat} {x : Str} {r : List (Str × NameKind)} : cellObs n ((x, .globalImplicit) :: r) = cellObs n r := rfl

/-! values -/
inductive PV where
  | i (z : Int)
  | b (x : Bool)
  | s (x : Str)
  | y (x : List UInt8)
noncomputable def PV.is : PV → Value → Prop
  | .i z, v => ∃ t, v = .int z t
  | .b x, v => v = .bool x
  | .s x, v => ∃ t, v = .str x t
  | .y x, v => ∃ t, v = .bytes x.toArray t
inductive PVs : List Value → List PV → Prop
  | nil : PVs [] []
  | cons {v : Value} {p : PV} {vs : List Value} {ps : List PV} : p.is v → PVs vs ps → PVs (v :: vs) (p :: ps)
theorem PVs.length {vs : List Value} {ps : List PV} (x : PVs vs ps) : vs.length = ps.length := by
  induction x with
  | nil => rfl
  | cons _ _ ih => simp [ih]
theorem PVs.get {vs : List Value} {ps : List PV} (x : PVs vs ps) : ∀ {i : Nat} {v : Value}, vs[i]? = some v → ∃ p, ps[i]? = some p ∧ p.is v := by
  induction x with
  | nil => intro i v h; simp at h
  | cons y _ ih =>
    intro i v h
    cases i with
    | zero => exact ⟨_, rfl, by simp at h; rw [← h]; exact y⟩
    | succ i => exact ih (by simpa using h)
inductive Mode | plain | rep | pack
@[reducible] def Mode.r : Mode → Bool | .plain => false | _ => true
@[reducible] def Mode.p : Mode → Bool | .pack => true | _ => false
inductive Arg where
  | one (p : PV)
  | many (ps : List PV)
noncomputable def Arg.is (h : Heap) : Arg → Value → Prop
  | .one p, v => p.is v
  | .many ps, v => ∃ a xs, v = .ref a ∧ h.PlainList a xs.toArray ∧ PVs xs ps ∧ ps.length ≤ 5
noncomputable def Arg.fit : Mode → Arg → Prop
  | .plain, .one _ | .rep, .many _ | .pack, .many _ => True
  | _, _ => False
noncomputable def Arg.all (ok : PV → Prop) : Arg → Prop
  | .one p => ok p
  | .many ps => ∀ p ∈ ps, ok p
noncomputable def sumI (sz : PV → Int) : List PV → Int
  | [] => 0
  | p :: ps => sz p + sumI sz ps
theorem sumI_snoc (sz : PV → Int) : ∀ (ps : List PV) (p : PV), sumI sz (ps ++ [p]) = sumI sz ps + sz p
  | [], p => by simp [sumI]
  | q :: ps, p => by simp only [List.cons_append, sumI]; rw [sumI_snoc sz ps p]; wtm_at "la"
theorem sumI_take (sz : PV → Int) {ps : List PV} {i : Nat} {p : PV} (e : ps[i]? = some p) : sumI sz (ps.take (i + 1)) = sumI sz (ps.take i) + sz p := by
  rw [List.take_add_one, e]; exact sumI_snoc sz _ p
theorem sumI_range (sz : PV → Int) {ps : List PV} {m : Int} (h : ∀ p ∈ ps, 0 ≤ sz p ∧ sz p ≤ m) : 0 ≤ sumI sz ps ∧ sumI sz ps ≤ m * ps.length := by
  induction ps with
  | nil => simp [sumI]
  | cons p r ih =>
    have h1 := h p (.head _)
    have h2 := ih fun q hq => h q (.tail _ hq)
    simp only [sumI, List.length_cons]
    have e : m * ((r.length + 1 : Nat) : Int) = m * (r.length : Int) + m := by rw [Int.natCast_add, Int.mul_add]; simp
    rw [e]; wtm_at "la"
theorem vz_range {z : Int} (h0 : 0 ≤ z) (h1 : z < 18446744073709551616) : 1 ≤ vz z ∧ vz z ≤ 10 := by
  rw [vz_ite h0 h1]
  repeat' split
  all_goals wtm_at "la"
theorem mulR {a b : Int} (h : b.natAbs < 2 ^ 64) : IntMulOk a b := .of_right (intBits_le_iff.mpr h)
theorem mulL {a b : Int} (h : a.natAbs < 2 ^ 64) : IntMulOk a b := .of_left (intBits_le_iff.mpr h)
noncomputable def fsize (num : Int) (sz : PV → Int) : Mode → Arg → Int
  | .plain, .one p => vz (8 * num) + sz p
  | .rep, .many ps => vz (8 * num) * ps.length + sumI sz ps
  | .pack, .many ps => sumI sz ps + vz (sumI sz ps) + vz (8 * num)
  | _, _ => 0
structure SizerOk (b : Bs) (h : Heap) (g : Addr) (num : Int) (m : Mode) (sz : PV → Int) (ok : PV → Prop) : Prop where
  fnat : FnAt g h
  run : ∀ {prog w A h' Q E arg v}, Ext b.B [] h h' → Ok b h' → Room 3 A → arg.is h' v → arg.fit m → arg.all ok → (∀ t h'', Ext b.B [] h' h'' → Q (.int (fsize num sz m arg) t) h'') → W prog w A (PySem.call (.ref g) [v]) Q E h'
structure SizerMk (b : Bs) (h : Heap) (f : Addr) (sz : PV → Int) (ok : PV → Prop) : Prop where
  fnat : FnAt f h
  run : ∀ {prog w A h' Q E num t m}, Ext b.B [] h h' → Ok b h' → Room 4 A → 0 ≤ num → num < 2 ^ 30 → (∀ g h'', Ext b.B [] h' h'' → SizerOk b h'' g num m sz ok → Q (.ref g) h'') → W prog w A (PySem.call (.ref f) [.int num t, .bool m.r, .bool m.p]) Q E h'
structure FnI (b : Bs) (a : Addr) (ok : Int → Prop) (sz : Int → Int) : Prop where
  rng : ∀ z, ok z → 0 ≤ sz z ∧ sz z ≤ 1000000
  fnat : FnAt a b.B
  run : ∀ {prog w A h z t Q E}, Ok b h → Room 1 A → ok z → (∀ t h', Ext b.B [] h h' → Q (.int (sz z) t) h') → W prog w A (PySem.call (.ref a) [.int z t]) Q E h
theorem FnI.up {a : Addr} {ok : Int → Prop} {sz : Int → Int} (x : FnI b a ok sz) (O : Ok b h) : FnAt a h := FnAt.up x.fnat O
theorem FnI.call {a : Addr} {ok : Int → Prop} {sz : Int → Int} {z : Int} {t : Tok} {Q : Value → Heap → Prop} (F : FnI b a ok sz) (O : Ok b h) (R : Room 1 A) (h0 : ok z) (q : ∀ t h', Ext b.B [] h h' → Q (.int (sz z) t) h') : W prog w A (PySem.call (.ref a) [.int z t]) Q E h := F.run O R h0 q
noncomputable def okI (ok : Int → Prop) : PV → Prop
  | .i z => ok z
  | _ => False
noncomputable def szI (sz : Int → Int) : PV → Int
  | .i z => sz z
  | _ => 0

section
variable {prog : Program} {w : World} {A : Around} {E : Value → Heap → Prop} {h h₀ : Heap} {b : Bs} {v : Value} {Q : Value → Heap → Prop} {z y : Int} {t u : Tok} {a : Addr}
theorem St.useR {P : Addr → Heap → Prop} {X : List Addr} {fz : List (Addr × K)} {L : Addr} {l : List (Str × Value)} {ob : List (Addr × K)} {C : Heap → Addr → Prop} (S : St b h₀ X fz L l ob h) (q : ∀ g h', St b h₀ X fz L l ob h' → C h' g → P g h') : ∀ g h', Ext b.B [] h h' → C h' g → P g h' := fun t h' x y => q t h' (S.ext0 x) y
theorem W.lenF {X : List Addr} {fz : List (Addr × K)} {L : Addr} {l : List (Str × Value)} {ob : List (Addr × K)} {xs : List Value} (S : St b h₀ X fz L l ob h) (hm : (a, .lst xs) ∈ fz) (hz : xs.length < 2 ^ 62) (q : ∀ t, Q (.int xs.length t) h) : W prog w A (PySem.call (.builtin "len") [.ref a]) Q E h :=
  W.lenL (S.fzAt hm) hz q
theorem W.lenO {X : List Addr} {fz : List (Addr × K)} {L : Addr} {l : List (Str × Value)} {ob : List (Addr × K)} {xs : List Value} (S : St b h₀ X fz L l ob h) (hm : (a, .lst xs) ∈ ob) (hz : xs.length < 2 ^ 62) (q : ∀ t, Q (.int xs.length t) h) : W prog w A (PySem.call (.builtin "len") [.ref a]) Q E h :=
  W.lenL (S.obs _ hm) hz q
theorem forK.over {Q : Flow → Heap → Prop} {X : List Addr} {fz : List (Addr × K)} {L : Addr} {l : List (Str × Value)} {ob : List (Addr × K)} {xs : List Value} {ps : List PV} {x : Str} {px : Pos} {body : List Stmt} {env : Env} (J : Nat → List (Str × Value) → List (Addr × K) → Prop) (R : A.handled = none) (S : St b h₀ X fz L l ob h)
    (hl : (a, .lst xs) ∈ fz) (hps : PVs xs ps) (h0 : J 0 l ob)
    (turn : ∀ it i v p l ob h, ps[i]? = some p → p.is v → J i l ob → h₀.get? it = none → St b h₀ X fz L l ((it, .it a (i + 1)) :: ob) h →
      W prog w A (PySem.assign (.Name x px) env v) (fun _ h₁ => W prog w A (execs body env) (fun f h₂ => f = .next ∧ ∃ l ob, J (i + 1) l ob ∧ St b h₀ X fz L l ((it, .it a (i + 1)) :: ob) h₂) (fun _ _ => False) h₁) (fun _ _ => False) h)
    (fin : ∀ l ob h, J ps.length l ob → St b h₀ X fz L l ob h → Q .next h) : forK prog w A (.Name x px) body env Q (.ref a) h := by
  refine forK.list J R S h0 (fun i l ob h _ S => S.fzAt hl) (fun it i v l ob h hv hJ hit S => ?_) (fun l ob h hJ S => fin l ob h (hps.length ▸ hJ) S)
  obtain ⟨p, hp, hpv⟩ := hps.get hv
  refine W.mono (turn it i v p l ob h hp hpv hJ hit S) (fun _ h₁ y => W.mono y (fun f h₂ z => ?_) fun _ _ z => z) fun _ _ z => z
  obtain ⟨rfl, l', ob', hJ', S'⟩ := z
  have hi := (List.getElem?_eq_some_iff.mp hv).1
  exact loopK.next (m := xs.length - i - 1) (by wtm_at "la") ⟨by wtm_at "la", l', ob', hJ', S'⟩
theorem szI_range {ok : Int → Prop} {sz : Int → Int} (F : ∀ z, ok z → 0 ≤ sz z ∧ sz z ≤ 1000000) {ps : List PV} (hall : ∀ p ∈ ps, okI ok p) : 0 ≤ sumI (szI sz) ps ∧ sumI (szI sz) ps ≤ 1000000 * ps.length :=
  sumI_range _ fun p hp => by
    have := hall p hp
    cases p with
    | i z => exact F z this
    | _ => exact this.elim
theorem s_SimpleSizer {ok : Int → Prop} {sz : Int → Int} (H : Hyp b) (O : Ok b h) (R : Room 5 A) (F : FnI b a ok sz) (q : ∀ g h', Ext b.B [] h h' → SizerMk b h' g (szI sz) (okI ok) → Q (.ref g) h') :
    W prog w A (PySem.call (.ref (b.fa "_SimpleSizer")) [.ref a]) Q E h := by
  have Fm := H.mkr 35 (by decide)
  refine W.mkr1 H O Fm R [("compute_value_size", .ref a)] (fun _ _ _ _ _ _ _ => by rfl) ?_
  intro L h₁ A'
  refine elimCO ?_
  intro c P R' C S
  dsimp only [cf0, cfc, cfl, cff, cfg, co0, coc, col, cof, cog, List.nil_append, List.cons_append] at S ⊢
  repeat' wtm_at "j"
  rename_i S₁ f c' P' h₂ S₂ C₂
  refine q f h₂ S₂.ext ⟨C₂.fnat, ?_⟩
  intro prog w A h₃ Q E num t m x₃ O₃ R₃ h0 h1 q
  refine W.closS H S₂ x₃ C₂ O₃ R₃ [] (fun _ h => nomatch h) [("field_number", .int num t), ("is_repeated", .bool m.r), ("is_packed", .bool m.p)] (fun _ _ _ _ _ _ _ => by rfl) ?_
  clear S₁ S₂ C S
  intro L₄ h₄ A₄
  refine elimCO ?_
  intro R₄ C₃ S₄
  dsimp only [cf0, cfc, cfl, cff, cfg, co0, coc, col, cof, cog, List.nil_append, List.cons_append] at S₄ ⊢
  cases m <;> dsimp only [Mode.r, Mode.p]
  · repeat' wtm_at "j"
    rename_i S₅ f₅ c₅ P₅ h₅ S₆ C₅
    refine q f₅ h₅ S₆.ext ⟨C₅.fnat, ?_⟩
    intro prog w A h₆ Q E arg v x₆ O₆ R₆ hv hfit hall q
    cases arg with
    | many _ => exact hfit.elim
    | one p =>
      cases p with
      | i z =>
        obtain ⟨tz, rfl⟩ := hv
        refine W.closS H S₆ x₆ C₅ O₆ R₆ [] (fun _ h => nomatch h) [("value", .int z tz)] (fun _ _ _ _ _ _ _ => by rfl) ?_
        clear S₅ S₆ S₄
        have hz : ok z := hall
        intro L₇ h₇ A₇
        refine elimCO ?_
        intro R₇ C₇ S₇
        dsimp only [cf0, cfc, cfl, cff, cfg, co0, coc, col, cof, cog, List.nil_append, List.cons_append] at S₇ ⊢
        try generalize qualnameIn _ _ _ = qn
        repeat' wtm_at "j"
        exact leafI q (by assumption) rfl
      | _ => exact hall.elim
  · repeat' wtm_at "j"
    rename_i S₅ f₅ c₅ P₅ h₅ S₆ C₅
    refine q f₅ h₅ S₆.ext ⟨C₅.fnat, ?_⟩
    intro prog w A h₆ Q E arg v x₆ O₆ R₆ hv hfit hall q
    cases arg with
    | one _ => exact hfit.elim
    | many ps =>
      obtain ⟨al, xs, rfl, hl, hps, hlen⟩ := hv
      refine W.closS H S₆ x₆ C₅ O₆ R₆ [(al, .lst xs)] (fun p hp => by rw [List.mem_singleton] at hp; subst hp; exact hl) [("value", .ref al)] (fun _ _ _ _ _ _ _ => by rfl) ?_
      clear S₅ S₆ S₄
      intro L₇ h₇ A₇
      refine elimCO ?_
      intro R₇ C₇ S₇
      dsimp only [cf0, cfc, cfl, cff, cfg, co0, coc, col, cof, cog, List.nil_append, List.cons_append] at S₇ ⊢
      try generalize qualnameIn _ _ _ = qn
      repeat' wtm_at "j"
      have hxl := hps.length
      have hr := vz_range (z := 8 * num) (by wtm_at "la") (by wtm_at "la")
      repeat' wtm_at "j"
      refine forK.over (fun i l ob' => ob' = [] ∧ ∃ t, l.lookup (Str.ofString "result") = some (.int (vz (8 * num) * ps.length + sumI (szI sz) (ps.take i)) t)) R₇.hh (by assumption) (by wtm_at "mem") hps ⟨rfl, _, lk0.trans (congrArg (fun z => some (Value.int z _)) (by rw [hxl]; simp [sumI]))⟩ ?_ ?_
      · rintro it i v p l ob h hp hpv ⟨rfl, t, hr⟩ hit S
        have hok := hall p (List.mem_of_getElem? hp)
        cases p with
        | i z =>
          obtain ⟨tz, rfl⟩ := hpv
          have hz : ok z := hok
          repeat' wtm_at "j"
          exact ⟨rfl, _, _, ⟨rfl, _, lk0.trans (congrArg (fun z => some (Value.int z _)) (by rw [sumI_take _ hp, ← Int.add_assoc]))⟩, by assumption⟩
        | _ => exact hok.elim
      · rintro l ob h ⟨rfl, t, hr⟩ S
        repeat' wtm_at "j"
        exact leafI q (by assumption) (by rw [List.take_length]; rfl)
  · repeat' wtm_at "j"
    rename_i S₅ f₅ c₅ P₅ h₅ S₆ C₅
    refine q f₅ h₅ S₆.ext ⟨C₅.fnat, ?_⟩
    intro prog w A h₆ Q E arg v x₆ O₆ R₆ hv hfit hall q
    cases arg with
    | one _ => exact hfit.elim
    | many ps =>
      obtain ⟨al, xs, rfl, hl, hps, hlen⟩ := hv
      refine W.closS H S₆ x₆ C₅ O₆ R₆ [(al, .lst xs)] (fun p hp => by rw [List.mem_singleton] at hp; subst hp; exact hl) [("value", .ref al)] (fun _ _ _ _ _ _ _ => by rfl) ?_
      clear S₅ S₆ S₄
      intro L₇ h₇ A₇
      refine elimCO ?_
      intro R₇ C₇ S₇
      dsimp only [cf0, cfc, cfl, cff, cfg, co0, coc, col, cof, cog, List.nil_append, List.cons_append] at S₇ ⊢
      try generalize qualnameIn _ _ _ = qn
      have hs := szI_range F.rng hall
      repeat' wtm_at "j"
      refine forK.over (fun i l ob' => ob' = [] ∧ ∃ t, l.lookup (Str.ofString "result") = some (.int (sumI (szI sz) (ps.take i)) t)) R₇.hh (by assumption) (by wtm_at "mem") hps ⟨rfl, _, lk0⟩ ?_ ?_
      · rintro it i v p l ob h hp hpv ⟨rfl, t, hr⟩ hit S
        have hok := hall p (List.mem_of_getElem? hp)
        cases p with
        | i z =>
          obtain ⟨tz, rfl⟩ := hpv
          have hz : ok z := hok
          repeat' wtm_at "j"
          exact ⟨rfl, _, _, ⟨rfl, _, lk0.trans (congrArg (fun z => some (Value.int z _)) (by rw [sumI_take _ hp]))⟩, by assumption⟩
        | _ => exact hok.elim
      · rintro l ob h ⟨rfl, t, hr⟩ S
        rw [List.take_length] at hr
        repeat' wtm_at "j"
        exact leafI q (by assumption) rfl
end

section
variable {prog : Program} {w : World} {A : Around} {E : Value → Heap → Prop} {h h₀ : Heap} {b : Bs} {v : Value} {Q : Value → Heap → Prop} {z y : Int} {t u : Tok} {a : Addr}
structure FnM (b : Bs) (a : Addr) (ok : Int → Prop) (g : Int → Int) : Prop where
  fnat : FnAt a b.B
  run : ∀ {prog w A h z t Q E}, Ok b h → Room 1 A → ok z → (∀ t h', Ext b.B [] h h' → Q (.int (g z) t) h') → W prog w A (PySem.call (.ref a) [.int z t]) Q E h
theorem FnM.up {a : Addr} {ok : Int → Prop} {g : Int → Int} (x : FnM b a ok g) (O : Ok b h) : FnAt a h := FnAt.up x.fnat O
theorem FnM.call {a : Addr} {ok : Int → Prop} {g : Int → Int} {z : Int} {t : Tok} {Q : Value → Heap → Prop} (F : FnM b a ok g) (O : Ok b h) (R : Room 1 A) (h0 : ok z) (q : ∀ t h', Ext b.B [] h h' → Q (.int (g z) t) h') : W prog w A (PySem.call (.ref a) [.int z t]) Q E h := F.run O R h0 q
theorem s_ModifiedSizer {ok ok' : Int → Prop} {sz md : Int → Int} {a' : Addr} (H : Hyp b) (O : Ok b h) (R : Room 5 A) (F' : FnI b a ok' sz) (FM : FnM b a' ok md) (hmd : ∀ z, ok z → ok' (md z)) (F : ∀ z, ok z → 0 ≤ sz (md z) ∧ sz (md z) ≤ 1000000) (q : ∀ g h', Ext b.B [] h h' → SizerMk b h' g (szI fun z => sz (md z)) (okI ok) → Q (.ref g) h') :
    W prog w A (PySem.call (.ref (b.fa "_ModifiedSizer")) [.ref a, .ref a']) Q E h := by
  have Fm := H.mkr 36 (by decide)
  refine W.mkr1 H O Fm R [("compute_value_size", .ref a), ("modify_value", .ref a')] (fun _ _ _ _ _ _ _ => by rfl) ?_
  intro L h₁ A'
  refine elimCO ?_
  intro c P R' C S
  dsimp only [cf0, cfc, cfl, cff, cfg, co0, coc, col, cof, cog, List.nil_append, List.cons_append] at S ⊢
  repeat' wtm_at "j"
  rename_i S₁ f c' P' h₂ S₂ C₂
  refine q f h₂ S₂.ext ⟨C₂.fnat, ?_⟩
  intro prog w A h₃ Q E num t m x₃ O₃ R₃ h0 h1 q
  refine W.closS H S₂ x₃ C₂ O₃ R₃ [] (fun _ h => nomatch h) [("field_number", .int num t), ("is_repeated", .bool m.r), ("is_packed", .bool m.p)] (fun _ _ _ _ _ _ _ => by rfl) ?_
  clear S₁ S₂ C S
  intro L₄ h₄ A₄
  refine elimCO ?_
  intro R₄ C₃ S₄
  dsimp only [cf0, cfc, cfl, cff, cfg, co0, coc, col, cof, cog, List.nil_append, List.cons_append] at S₄ ⊢
  cases m <;> dsimp only [Mode.r, Mode.p]
  · repeat' wtm_at "j"
    rename_i S₅ f₅ c₅ P₅ h₅ S₆ C₅
    refine q f₅ h₅ S₆.ext ⟨C₅.fnat, ?_⟩
    intro prog w A h₆ Q E arg v x₆ O₆ R₆ hv hfit hall q
    cases arg with
    | many _ => exact hfit.elim
    | one p =>
      cases p with
      | i z =>
        obtain ⟨tz, rfl⟩ := hv
        refine W.closS H S₆ x₆ C₅ O₆ R₆ [] (fun _ h => nomatch h) [("value", .int z tz)] (fun _ _ _ _ _ _ _ => by rfl) ?_
        clear S₅ S₆ S₄
        have hz : ok z := hall
        have hz' := hmd z hz
        intro L₇ h₇ A₇
        refine elimCO ?_
        intro R₇ C₇ S₇
        dsimp only [cf0, cfc, cfl, cff, cfg, co0, coc, col, cof, cog, List.nil_append, List.cons_append] at S₇ ⊢
        try generalize qualnameIn _ _ _ = qn
        repeat' wtm_at "j"
        exact leafI q (by assumption) rfl
      | _ => exact hall.elim
  · repeat' wtm_at "j"
    rename_i S₅ f₅ c₅ P₅ h₅ S₆ C₅
    refine q f₅ h₅ S₆.ext ⟨C₅.fnat, ?_⟩
    intro prog w A h₆ Q E arg v x₆ O₆ R₆ hv hfit hall q
    cases arg with
    | one _ => exact hfit.elim
    | many ps =>
      obtain ⟨al, xs, rfl, hl, hps, hlen⟩ := hv
      refine W.closS H S₆ x₆ C₅ O₆ R₆ [(al, .lst xs)] (fun p hp => by rw [List.mem_singleton] at hp; subst hp; exact hl) [("value", .ref al)] (fun _ _ _ _ _ _ _ => by rfl) ?_
      clear S₅ S₆ S₄
      intro L₇ h₇ A₇
      refine elimCO ?_
      intro R₇ C₇ S₇
      dsimp only [cf0, cfc, cfl, cff, cfg, co0, coc, col, cof, cog, List.nil_append, List.cons_append] at S₇ ⊢
      try generalize qualnameIn _ _ _ = qn
      repeat' wtm_at "j"
      have hxl := hps.length
      have hr := vz_range (z := 8 * num) (by wtm_at "la") (by wtm_at "la")
      repeat' wtm_at "j"
      refine forK.over (fun i l ob' => ob' = [] ∧ ∃ t, l.lookup (Str.ofString "result") = some (.int (vz (8 * num) * ps.length + sumI (szI fun z => sz (md z)) (ps.take i)) t)) R₇.hh (by assumption) (by wtm_at "mem") hps ⟨rfl, _, lk0.trans (congrArg (fun z => some (Value.int z _)) (by rw [hxl]; simp [sumI]))⟩ ?_ ?_
      · rintro it i v p l ob h hp hpv ⟨rfl, t, hr⟩ hit S
        have hok := hall p (List.mem_of_getElem? hp)
        cases p with
        | i z =>
          obtain ⟨tz, rfl⟩ := hpv
          have hz : ok z := hok
          have hz' := hmd z hz
          repeat' wtm_at "j"
          exact ⟨rfl, _, _, ⟨rfl, _, lk0.trans (congrArg (fun z => some (Value.int z _)) (by rw [sumI_take _ hp, ← Int.add_assoc]))⟩, by assumption⟩
        | _ => exact hok.elim
      · rintro l ob h ⟨rfl, t, hr⟩ S
        repeat' wtm_at "j"
        exact leafI q (by assumption) (by rw [List.take_length]; rfl)
  · repeat' wtm_at "j"
    rename_i S₅ f₅ c₅ P₅ h₅ S₆ C₅
    refine q f₅ h₅ S₆.ext ⟨C₅.fnat, ?_⟩
    intro prog w A h₆ Q E arg v x₆ O₆ R₆ hv hfit hall q
    cases arg with
    | one _ => exact hfit.elim
    | many ps =>
      obtain ⟨al, xs, rfl, hl, hps, hlen⟩ := hv
      refine W.closS H S₆ x₆ C₅ O₆ R₆ [(al, .lst xs)] (fun p hp => by rw [List.mem_singleton] at hp; subst hp; exact hl) [("value", .ref al)] (fun _ _ _ _ _ _ _ => by rfl) ?_
      clear S₅ S₆ S₄
      intro L₇ h₇ A₇
      refine elimCO ?_
      intro R₇ C₇ S₇
      dsimp only [cf0, cfc, cfl, cff, cfg, co0, coc, col, cof, cog, List.nil_append, List.cons_append] at S₇ ⊢
      try generalize qualnameIn _ _ _ = qn
      have hs := szI_range F hall
      repeat' wtm_at "j"
      refine forK.over (fun i l ob' => ob' = [] ∧ ∃ t, l.lookup (Str.ofString "result") = some (.int (sumI (szI fun z => sz (md z)) (ps.take i)) t)) R₇.hh (by assumption) (by wtm_at "mem") hps ⟨rfl, _, lk0⟩ ?_ ?_
      · rintro it i v p l ob h hp hpv ⟨rfl, t, hr⟩ hit S
        have hok := hall p (List.mem_of_getElem? hp)
        cases p with
        | i z =>
          obtain ⟨tz, rfl⟩ := hpv
          have hz : ok z := hok
          have hz' := hmd z hz
          repeat' wtm_at "j"
          exact ⟨rfl, _, _, ⟨rfl, _, lk0.trans (congrArg (fun z => some (Value.int z _)) (by rw [sumI_take _ hp]))⟩, by assumption⟩
        | _ => exact hok.elim
      · rintro l ob h ⟨rfl, t, hr⟩ S
        rw [List.take_length] at hr
        repeat' wtm_at "j"
        exact leafI q (by assumption) rfl
end

section
variable {prog : Program} {w : World} {A : Around} {E : Value → Heap → Prop} {h h₀ : Heap} {b : Bs} {v : Value} {Q : Value → Heap → Prop} {z y : Int} {t u : Tok} {a : Addr}
theorem sumI_const (k : Int) : ∀ ps : List PV, sumI (fun _ => k) ps = k * ps.length
  | [] => by simp [sumI]
  | p :: ps => by simp only [sumI, List.length_cons]; rw [sumI_const k ps, Int.natCast_add, Int.mul_add]; simp; wtm_at "la"
theorem s_FixedSizer {k : Int} {tk : Tok} (H : Hyp b) (O : Ok b h) (R : Room 5 A) (k0 : 0 ≤ k) (k1 : k ≤ 8) (q : ∀ g h', Ext b.B [] h h' → SizerMk b h' g (fun _ => k) (fun _ => True) → Q (.ref g) h') :
    W prog w A (PySem.call (.ref (b.fa "_FixedSizer")) [.int k tk]) Q E h := by
  have Fm := H.mkr 37 (by decide)
  refine W.mkr1 H O Fm R [("value_size", .int k tk)] (fun _ _ _ _ _ _ _ => by rfl) ?_
  intro L h₁ A'
  refine elimCO ?_
  intro c P R' C S
  dsimp only [cf0, cfc, cfl, cff, cfg, co0, coc, col, cof, cog, List.nil_append, List.cons_append] at S ⊢
  repeat' wtm_at "j"
  rename_i S₁ f c' P' h₂ S₂ C₂
  refine q f h₂ S₂.ext ⟨C₂.fnat, ?_⟩
  intro prog w A h₃ Q E num t m x₃ O₃ R₃ h0 h1 q
  refine W.closS H S₂ x₃ C₂ O₃ R₃ [] (fun _ h => nomatch h) [("field_number", .int num t), ("is_repeated", .bool m.r), ("is_packed", .bool m.p)] (fun _ _ _ _ _ _ _ => by rfl) ?_
  clear S₁ S₂ C S
  intro L₄ h₄ A₄
  refine elimCO ?_
  intro R₄ C₃ S₄
  dsimp only [cf0, cfc, cfl, cff, cfg, co0, coc, col, cof, cog, List.nil_append, List.cons_append] at S₄ ⊢
  have hv := vz_range (z := 8 * num) (by wtm_at "la") (by wtm_at "la")
  cases m <;> dsimp only [Mode.r, Mode.p]
  · repeat' wtm_at "j"
    rename_i S₅ f₅ c₅ P₅ h₅ S₆ C₅
    refine q f₅ h₅ S₆.ext ⟨C₅.fnat, ?_⟩
    intro prog w A h₆ Q E arg v x₆ O₆ R₆ hv hfit hall q
    cases arg with
    | many _ => exact hfit.elim
    | one p =>
      refine W.closS H S₆ x₆ C₅ O₆ R₆ [] (fun _ h => nomatch h) [("value", v)] (fun _ _ _ _ _ _ _ => by rfl) ?_
      clear S₅ S₆ S₄
      intro L₇ h₇ A₇
      refine elimCO ?_
      intro R₇ C₇ S₇
      dsimp only [cf0, cfc, cfl, cff, cfg, co0, coc, col, cof, cog, List.nil_append, List.cons_append] at S₇ ⊢
      try generalize qualnameIn _ _ _ = qn
      repeat' wtm_at "j"
      exact leafI q (by assumption) (show k + vz (8 * num) = vz (8 * num) + k by wtm_at "la")
  · repeat' wtm_at "j"
    rename_i S₅ f₅ c₅ P₅ h₅ S₆ C₅
    refine q f₅ h₅ S₆.ext ⟨C₅.fnat, ?_⟩
    intro prog w A h₆ Q E arg v x₆ O₆ R₆ hv hfit hall q
    cases arg with
    | one _ => exact hfit.elim
    | many ps =>
      obtain ⟨al, xs, rfl, hl, hps, hlen⟩ := hv
      refine W.closS H S₆ x₆ C₅ O₆ R₆ [(al, .lst xs)] (fun p hp => by rw [List.mem_singleton] at hp; subst hp; exact hl) [("value", .ref al)] (fun _ _ _ _ _ _ _ => by rfl) ?_
      clear S₅ S₆ S₄
      intro L₇ h₇ A₇
      refine elimCO ?_
      intro R₇ C₇ S₇
      dsimp only [cf0, cfc, cfl, cff, cfg, co0, coc, col, cof, cog, List.nil_append, List.cons_append] at S₇ ⊢
      try generalize qualnameIn _ _ _ = qn
      have hxl := hps.length
      repeat' wtm_at "j"
      exact leafI q (by assumption) (show _ = vz (8 * num) * ps.length + sumI (fun _ => k) ps by rw [sumI_const, hxl, Int.mul_add, Int.mul_comm (vz _), Int.mul_comm k]; wtm_at "la")
  · repeat' wtm_at "j"
    rename_i S₅ f₅ c₅ P₅ h₅ S₆ C₅
    refine q f₅ h₅ S₆.ext ⟨C₅.fnat, ?_⟩
    intro prog w A h₆ Q E arg v x₆ O₆ R₆ hv hfit hall q
    cases arg with
    | one _ => exact hfit.elim
    | many ps =>
      obtain ⟨al, xs, rfl, hl, hps, hlen⟩ := hv
      refine W.closS H S₆ x₆ C₅ O₆ R₆ [(al, .lst xs)] (fun p hp => by rw [List.mem_singleton] at hp; subst hp; exact hl) [("value", .ref al)] (fun _ _ _ _ _ _ _ => by rfl) ?_
      clear S₅ S₆ S₄
      intro L₇ h₇ A₇
      refine elimCO ?_
      intro R₇ C₇ S₇
      dsimp only [cf0, cfc, cfl, cff, cfg, co0, coc, col, cof, cog, List.nil_append, List.cons_append] at S₇ ⊢
      try generalize qualnameIn _ _ _ = qn
      have hxl := hps.length
      have b1 : 0 ≤ (xs.length : Int) * k ∧ (xs.length : Int) * k ≤ 40 := by
        have h5 : (xs.length : Int) ≤ 5 := by wtm_at "la"
        exact ⟨Int.mul_nonneg (by wtm_at "la") k0, Int.le_trans (Int.mul_le_mul h5 k1 k0 (by wtm_at "la")) (by decide)⟩
      repeat' wtm_at "j"
      exact leafI q (by assumption) (show _ = sumI (fun _ => k) ps + vz (sumI (fun _ => k) ps) + vz (8 * num) by rw [sumI_const, ← hxl, Int.mul_comm k])

/-- texts within the walk -/
noncomputable def okS : PV → Prop
  | .s x => (∀ c ∈ x.cps.toList, Str.isSurrogate c = false) ∧ x.cps.size ≤ 1000
  | _ => False
noncomputable def szS : PV → Int
  | .s x => vz ((u8 x).length : Int) + ((u8 x).length : Int)
  | _ => 0
noncomputable def okY : PV → Prop
  | .y x => x.length ≤ 4000
  | _ => False
noncomputable def szY : PV → Int
  | .y x => vz (x.length : Int) + (x.length : Int)
  | _ => 0
theorem u8_le {x : Str} (h : x.cps.size ≤ 1000) : (u8 x).length ≤ 4000 := by
  have := utf8_le x.cps.toList
  simp [u8] at this ⊢
  wtm_at "la"
theorem W.encodeS {x : Str} (hok : okS (.s x)) (q : ∀ t, Q (.bytes (u8 x).toArray t) h) : W prog w A (PySem.call (.builtin "str.encode") [.str x t, .str (Str.ofString "utf-8") u]) Q E h := W.encode hok.1 hok.2 q
theorem s_StringSizer {num : Int} {m : Mode} (H : Hyp b) (O : Ok b h) (R : Room 4 A) (h0 : 0 ≤ num) (h1 : num < 2 ^ 30) (hm : m ≠ .pack) (q : ∀ g h', Ext b.B [] h h' → SizerOk b h' g num m szS okS → Q (.ref g) h') :
    W prog w A (PySem.call (.ref (b.fa "StringSizer")) [.int num t, .bool m.r, .bool m.p]) Q E h := by
  have Fm := H.mkr 50 (by decide)
  have hv := vz_range (z := 8 * num) (by wtm_at "la") (by wtm_at "la")
  refine W.mkr1 H O Fm R [("field_number", .int num t), ("is_repeated", .bool m.r), ("is_packed", .bool m.p)] (fun _ _ _ _ _ _ _ => by rfl) ?_
  intro L₄ h₄ A₄
  refine elimCO ?_
  intro c P R₄ C₃ S₄
  dsimp only [cf0, cfc, cfl, cff, cfg, co0, coc, col, cof, cog, List.nil_append, List.cons_append] at S₄ ⊢
  cases m <;> dsimp only [Mode.r, Mode.p]
  · repeat' wtm_at "j"
    refine ⟨rfl, ?_⟩
    repeat' wtm_at "j"
    rename_i S₅ f₅ c₅ P₅ h₅ S₆ C₅
    refine q f₅ h₅ S₆.ext ⟨C₅.fnat, ?_⟩
    intro prog w A h₆ Q E arg v x₆ O₆ R₆ hv hfit hall q
    cases arg with
    | many _ => exact hfit.elim
    | one p =>
      cases p with
      | s x =>
        obtain ⟨tz, rfl⟩ := hv
        refine W.closS H S₆ x₆ C₅ O₆ R₆ [] (fun _ h => nomatch h) [("value", .str x tz)] (fun _ _ _ _ _ _ _ => by rfl) ?_
        clear S₅ S₆ S₄
        have hok : okS (.s x) := hall
        have hu := u8_le hok.2
        intro L₇ h₇ A₇
        refine elimCO ?_
        intro R₇ C₇ S₇
        dsimp only [cf0, cfc, cfl, cff, cfg, co0, coc, col, cof, cog, List.nil_append, List.cons_append] at S₇ ⊢
        try generalize qualnameIn _ _ _ = qn
        repeat' wtm_at "j"
        exact leafI q (by assumption) (Int.add_assoc _ _ _)
      | _ => exact hall.elim
  · repeat' wtm_at "j"
    refine ⟨rfl, ?_⟩
    repeat' wtm_at "j"
    rename_i S₅ f₅ c₅ P₅ h₅ S₆ C₅
    refine q f₅ h₅ S₆.ext ⟨C₅.fnat, ?_⟩
    intro prog w A h₆ Q E arg v x₆ O₆ R₆ hv hfit hall q
    cases arg with
    | one _ => exact hfit.elim
    | many ps =>
      obtain ⟨al, xs, rfl, hl, hps, hlen⟩ := hv
      refine W.closS H S₆ x₆ C₅ O₆ R₆ [(al, .lst xs)] (fun p hp => by rw [List.mem_singleton] at hp; subst hp; exact hl) [("value", .ref al)] (fun _ _ _ _ _ _ _ => by rfl) ?_
      clear S₅ S₆ S₄
      intro L₇ h₇ A₇
      refine elimCO ?_
      intro R₇ C₇ S₇
      dsimp only [cf0, cfc, cfl, cff, cfg, co0, coc, col, cof, cog, List.nil_append, List.cons_append] at S₇ ⊢
      try generalize qualnameIn _ _ _ = qn
      have hxl := hps.length
      repeat' wtm_at "j"
      refine forK.over (fun i l ob' => ob' = [] ∧ ∃ t, l.lookup (Str.ofString "result") = some (.int (vz (8 * num) * ps.length + sumI szS (ps.take i)) t)) R₇.hh (by assumption) (by wtm_at "mem") hps ⟨rfl, _, lk0.trans (congrArg (fun z => some (Value.int z _)) (by rw [hxl]; simp [sumI]))⟩ ?_ ?_
      · rintro it i v p l ob h hp hpv ⟨rfl, t, hr⟩ hit S
        have hok := hall p (List.mem_of_getElem? hp)
        cases p with
        | s x =>
          obtain ⟨tz, rfl⟩ := hpv
          have hu := u8_le hok.2
          repeat' wtm_at "j"
          exact ⟨rfl, _, _, ⟨rfl, _, lk0.trans (congrArg (fun z => some (Value.int z _)) (by rw [sumI_take _ hp, ← Int.add_assoc]; try rfl))⟩, by assumption⟩
        | _ => exact hok.elim
      · rintro l ob h ⟨rfl, t, hr⟩ S
        repeat' wtm_at "j"
        exact leafI q (by assumption) (by rw [List.take_length]; rfl)
  · exact absurd rfl hm
theorem s_BytesSizer {num : Int} {m : Mode} (H : Hyp b) (O : Ok b h) (R : Room 4 A) (h0 : 0 ≤ num) (h1 : num < 2 ^ 30) (hm : m ≠ .pack) (q : ∀ g h', Ext b.B [] h h' → SizerOk b h' g num m szY okY → Q (.ref g) h') :
    W prog w A (PySem.call (.ref (b.fa "BytesSizer")) [.int num t, .bool m.r, .bool m.p]) Q E h := by
  have Fm := H.mkr 51 (by decide)
  have hv := vz_range (z := 8 * num) (by wtm_at "la") (by wtm_at "la")
  refine W.mkr1 H O Fm R [("field_number", .int num t), ("is_repeated", .bool m.r), ("is_packed", .bool m.p)] (fun _ _ _ _ _ _ _ => by rfl) ?_
  intro L₄ h₄ A₄
  refine elimCO ?_
  intro c P R₄ C₃ S₄
  dsimp only [cf0, cfc, cfl, cff, cfg, co0, coc, col, cof, cog, List.nil_append, List.cons_append] at S₄ ⊢
  cases m <;> dsimp only [Mode.r, Mode.p]
  · repeat' wtm_at "j"
    refine ⟨rfl, ?_⟩
    repeat' wtm_at "j"
    rename_i S₅ f₅ c₅ P₅ h₅ S₆ C₅
    refine q f₅ h₅ S₆.ext ⟨C₅.fnat, ?_⟩
    intro prog w A h₆ Q E arg v x₆ O₆ R₆ hv hfit hall q
    cases arg with
    | many _ => exact hfit.elim
    | one p =>
      cases p with
      | y x =>
        obtain ⟨tz, rfl⟩ := hv
        refine W.closS H S₆ x₆ C₅ O₆ R₆ [] (fun _ h => nomatch h) [("value", .bytes x.toArray tz)] (fun _ _ _ _ _ _ _ => by rfl) ?_
        clear S₅ S₆ S₄
        have hok : okY (.y x) := hall
        have hu : x.length ≤ 4000 := hok
        intro L₇ h₇ A₇
        refine elimCO ?_
        intro R₇ C₇ S₇
        dsimp only [cf0, cfc, cfl, cff, cfg, co0, coc, col, cof, cog, List.nil_append, List.cons_append] at S₇ ⊢
        try generalize qualnameIn _ _ _ = qn
        repeat' wtm_at "j"
        exact leafI q (by assumption) (Int.add_assoc _ _ _)
      | _ => exact hall.elim
  · repeat' wtm_at "j"
    refine ⟨rfl, ?_⟩
    repeat' wtm_at "j"
    rename_i S₅ f₅ c₅ P₅ h₅ S₆ C₅
    refine q f₅ h₅ S₆.ext ⟨C₅.fnat, ?_⟩
    intro prog w A h₆ Q E arg v x₆ O₆ R₆ hv hfit hall q
    cases arg with
    | one _ => exact hfit.elim
    | many ps =>
      obtain ⟨al, xs, rfl, hl, hps, hlen⟩ := hv
      refine W.closS H S₆ x₆ C₅ O₆ R₆ [(al, .lst xs)] (fun p hp => by rw [List.mem_singleton] at hp; subst hp; exact hl) [("value", .ref al)] (fun _ _ _ _ _ _ _ => by rfl) ?_
      clear S₅ S₆ S₄
      intro L₇ h₇ A₇
      refine elimCO ?_
      intro R₇ C₇ S₇
      dsimp only [cf0, cfc, cfl, cff, cfg, co0, coc, col, cof, cog, List.nil_append, List.cons_append] at S₇ ⊢
      try generalize qualnameIn _ _ _ = qn
      have hxl := hps.length
      repeat' wtm_at "j"
      refine forK.over (fun i l ob' => ob' = [] ∧ ∃ t, l.lookup (Str.ofString "result") = some (.int (vz (8 * num) * ps.length + sumI szY (ps.take i)) t)) R₇.hh (by assumption) (by wtm_at "mem") hps ⟨rfl, _, lk0.trans (congrArg (fun z => some (Value.int z _)) (by rw [hxl]; simp [sumI]))⟩ ?_ ?_
      · rintro it i v p l ob h hp hpv ⟨rfl, t, hr⟩ hit S
        have hok := hall p (List.mem_of_getElem? hp)
        cases p with
        | y x =>
          obtain ⟨tz, rfl⟩ := hpv
          have hu : x.length ≤ 4000 := hok
          repeat' wtm_at "j"
          exact ⟨rfl, _, _, ⟨rfl, _, lk0.trans (congrArg (fun z => some (Value.int z _)) (by rw [sumI_take _ hp, ← Int.add_assoc]; try rfl))⟩, by assumption⟩
        | _ => exact hok.elim
      · rintro l ob h ⟨rfl, t, hr⟩ S
        repeat' wtm_at "j"
        exact leafI q (by assumption) (by rw [List.take_length]; rfl)
  · exact absurd rfl hm
end

section
variable {prog : Program} {w : World} {A : Around} {E : Value → Heap → Prop} {h h₀ : Heap} {b : Bs} {v : Value} {Q : Value → Heap → Prop} {z y : Int} {t u : Tok} {a : Addr}

/-- the ints of a field of four or eight octets, signed or not -/
noncomputable def okZ (z : Int) : Prop := -9223372036854775808 ≤ z ∧ z < 9223372036854775808
noncomputable def okU (z : Int) : Prop := 0 ≤ z ∧ z < 18446744073709551616
noncomputable def okW (z : Int) : Prop := -9223372036854775808 ≤ z ∧ z < 18446744073709551616
theorem vm_range {z : Int} (h0 : -9223372036854775808 ≤ z) (h1 : z < 18446744073709551616) : 0 ≤ vm z ∧ vm z ≤ 1000000 := by
  have := vz_range (z := z % 18446744073709551616) (by wtm_at "la") (by wtm_at "la")
  unfold vm; wtm_at "la"
theorem fni_S (H : Hyp b) : FnI b (b.fa "_SignedVarintSize") okW vm := ⟨fun z hz => vm_range hz.1 hz.2, (H.nm _ (by kernel_rfl)).2, fun O R hz q => s_SignedVarintSize H O R hz.1 hz.2 q⟩
theorem fni_V (H : Hyp b) : FnI b (b.fa "_VarintSize") okU vz := ⟨fun z hz => by have := vz_range hz.1 hz.2; wtm_at "la", (H.nm _ (by kernel_rfl)).2, fun O R hz q => s_VarintSize H O R hz.1 hz.2 q⟩
theorem fnm_Z (H : Hyp b) : FnM b (b.fa "ZigZagEncode") okZ zz := ⟨(H.nm _ (by kernel_rfl)).2, fun O R hz q => s_ZigZag H O R hz.1 hz.2 q⟩
theorem s_Int32Sizer {num : Int} {m : Mode} (H : Hyp b) (O : Ok b h) (R : Room 6 A) (h0 : 0 ≤ num) (h1 : num < 2 ^ 30) (q : ∀ g h', Ext b.B [] h h' → SizerOk b h' g num m (szI vm) (okI okW) → Q (.ref g) h') :
    W prog w A (PySem.call (.ref (b.fa "Int32Sizer")) [.int num t, .bool m.r, .bool m.p]) Q E h := by
  have F := H.fn 38 (by decide)
  refine W.def0 H O F R [("field_number", .int num t), ("is_repeated", .bool m.r), ("is_packed", .bool m.p)] (fun _ _ _ _ _ _ _ => by rfl) ?_
  intro L₄ h₄ A₄ c R₄ S₄
  dsimp only [cf0, cfc, cfl, cff, cfg, co0, coc, col, cof, cog, List.nil_append, List.cons_append] at S₄ ⊢
  repeat' wtm_at "j"
  refine s_SimpleSizer H (by wtm_at "ok") (R₄.le (by decide)) (fni_S H) ?_
  intro g h₅ x₅ mk
  have hf := mk.fnat
  have S₅ := St.ext0 (by assumption) x₅
  repeat' wtm_at "j"
  refine mk.run .refl S₅.ok (R₄.le (by decide)) h0 h1 ?_
  intro g' h₆ x₆ ok₆
  repeat' wtm_at "j"
  exact q _ _ (S₅.ext0 x₆).ext ok₆
theorem s_Int64Sizer {num : Int} {m : Mode} (H : Hyp b) (O : Ok b h) (R : Room 6 A) (h0 : 0 ≤ num) (h1 : num < 2 ^ 30) (q : ∀ g h', Ext b.B [] h h' → SizerOk b h' g num m (szI vm) (okI okW) → Q (.ref g) h') :
    W prog w A (PySem.call (.ref (b.fa "Int64Sizer")) [.int num t, .bool m.r, .bool m.p]) Q E h := by
  have F := H.fn 39 (by decide)
  refine W.def0 H O F R [("field_number", .int num t), ("is_repeated", .bool m.r), ("is_packed", .bool m.p)] (fun _ _ _ _ _ _ _ => by rfl) ?_
  intro L₄ h₄ A₄ c R₄ S₄
  dsimp only [cf0, cfc, cfl, cff, cfg, co0, coc, col, cof, cog, List.nil_append, List.cons_append] at S₄ ⊢
  repeat' wtm_at "j"
  refine s_SimpleSizer H (by wtm_at "ok") (R₄.le (by decide)) (fni_S H) ?_
  intro g h₅ x₅ mk
  have hf := mk.fnat
  have S₅ := St.ext0 (by assumption) x₅
  repeat' wtm_at "j"
  refine mk.run .refl S₅.ok (R₄.le (by decide)) h0 h1 ?_
  intro g' h₆ x₆ ok₆
  repeat' wtm_at "j"
  exact q _ _ (S₅.ext0 x₆).ext ok₆
theorem s_EnumSizer {num : Int} {m : Mode} (H : Hyp b) (O : Ok b h) (R : Room 6 A) (h0 : 0 ≤ num) (h1 : num < 2 ^ 30) (q : ∀ g h', Ext b.B [] h h' → SizerOk b h' g num m (szI vm) (okI okW) → Q (.ref g) h') :
    W prog w A (PySem.call (.ref (b.fa "EnumSizer")) [.int num t, .bool m.r, .bool m.p]) Q E h := by
  have F := H.fn 40 (by decide)
  refine W.def0 H O F R [("field_number", .int num t), ("is_repeated", .bool m.r), ("is_packed", .bool m.p)] (fun _ _ _ _ _ _ _ => by rfl) ?_
  intro L₄ h₄ A₄ c R₄ S₄
  dsimp only [cf0, cfc, cfl, cff, cfg, co0, coc, col, cof, cog, List.nil_append, List.cons_append] at S₄ ⊢
  repeat' wtm_at "j"
  refine s_SimpleSizer H (by wtm_at "ok") (R₄.le (by decide)) (fni_S H) ?_
  intro g h₅ x₅ mk
  have hf := mk.fnat
  have S₅ := St.ext0 (by assumption) x₅
  repeat' wtm_at "j"
  refine mk.run .refl S₅.ok (R₄.le (by decide)) h0 h1 ?_
  intro g' h₆ x₆ ok₆
  repeat' wtm_at "j"
  exact q _ _ (S₅.ext0 x₆).ext ok₆
theorem s_UInt32Sizer {num : Int} {m : Mode} (H : Hyp b) (O : Ok b h) (R : Room 6 A) (h0 : 0 ≤ num) (h1 : num < 2 ^ 30) (q : ∀ g h', Ext b.B [] h h' → SizerOk b h' g num m (szI vz) (okI okU) → Q (.ref g) h') :
    W prog w A (PySem.call (.ref (b.fa "UInt32Sizer")) [.int num t, .bool m.r, .bool m.p]) Q E h := by
  have F := H.fn 41 (by decide)
  refine W.def0 H O F R [("field_number", .int num t), ("is_repeated", .bool m.r), ("is_packed", .bool m.p)] (fun _ _ _ _ _ _ _ => by rfl) ?_
  intro L₄ h₄ A₄ c R₄ S₄
  dsimp only [cf0, cfc, cfl, cff, cfg, co0, coc, col, cof, cog, List.nil_append, List.cons_append] at S₄ ⊢
  repeat' wtm_at "j"
  refine s_SimpleSizer H (by wtm_at "ok") (R₄.le (by decide)) (fni_V H) ?_
  intro g h₅ x₅ mk
  have hf := mk.fnat
  have S₅ := St.ext0 (by assumption) x₅
  repeat' wtm_at "j"
  refine mk.run .refl S₅.ok (R₄.le (by decide)) h0 h1 ?_
  intro g' h₆ x₆ ok₆
  repeat' wtm_at "j"
  exact q _ _ (S₅.ext0 x₆).ext ok₆
theorem s_UInt64Sizer {num : Int} {m : Mode} (H : Hyp b) (O : Ok b h) (R : Room 6 A) (h0 : 0 ≤ num) (h1 : num < 2 ^ 30) (q : ∀ g h', Ext b.B [] h h' → SizerOk b h' g num m (szI vz) (okI okU) → Q (.ref g) h') :
    W prog w A (PySem.call (.ref (b.fa "UInt64Sizer")) [.int num t, .bool m.r, .bool m.p]) Q E h := by
  have F := H.fn 42 (by decide)
  refine W.def0 H O F R [("field_number", .int num t), ("is_repeated", .bool m.r), ("is_packed", .bool m.p)] (fun _ _ _ _ _ _ _ => by rfl) ?_
  intro L₄ h₄ A₄ c R₄ S₄
  dsimp only [cf0, cfc, cfl, cff, cfg, co0, coc, col, cof, cog, List.nil_append, List.cons_append] at S₄ ⊢
  repeat' wtm_at "j"
  refine s_SimpleSizer H (by wtm_at "ok") (R₄.le (by decide)) (fni_V H) ?_
  intro g h₅ x₅ mk
  have hf := mk.fnat
  have S₅ := St.ext0 (by assumption) x₅
  repeat' wtm_at "j"
  refine mk.run .refl S₅.ok (R₄.le (by decide)) h0 h1 ?_
  intro g' h₆ x₆ ok₆
  repeat' wtm_at "j"
  exact q _ _ (S₅.ext0 x₆).ext ok₆
theorem s_SInt32Sizer {num : Int} {m : Mode} (H : Hyp b) (O : Ok b h) (R : Room 6 A) (h0 : 0 ≤ num) (h1 : num < 2 ^ 30) (q : ∀ g h', Ext b.B [] h h' → SizerOk b h' g num m (szI fun z => vm (zz z)) (okI okZ) → Q (.ref g) h') :
    W prog w A (PySem.call (.ref (b.fa "SInt32Sizer")) [.int num t, .bool m.r, .bool m.p]) Q E h := by
  have F := H.fn 43 (by decide)
  refine W.def0 H O F R [("field_number", .int num t), ("is_repeated", .bool m.r), ("is_packed", .bool m.p)] (fun _ _ _ _ _ _ _ => by rfl) ?_
  intro L₄ h₄ A₄ c R₄ S₄
  dsimp only [cf0, cfc, cfl, cff, cfg, co0, coc, col, cof, cog, List.nil_append, List.cons_append] at S₄ ⊢
  repeat' wtm_at "j"
  refine s_ModifiedSizer H (by wtm_at "ok") (R₄.le (by decide)) (fni_S H) (fnm_Z H) (fun z hz => ⟨by have := (zz_range hz.1 hz.2); wtm_at "la", (zz_range hz.1 hz.2).2⟩) (fun z hz => by have := zz_range hz.1 hz.2; exact vm_range (by wtm_at "la") this.2) ?_
  intro g h₅ x₅ mk
  have hf := mk.fnat
  have S₅ := St.ext0 (by assumption) x₅
  repeat' wtm_at "j"
  refine mk.run .refl S₅.ok (R₄.le (by decide)) h0 h1 ?_
  intro g' h₆ x₆ ok₆
  repeat' wtm_at "j"
  exact q _ _ (S₅.ext0 x₆).ext ok₆
theorem s_SInt64Sizer {num : Int} {m : Mode} (H : Hyp b) (O : Ok b h) (R : Room 6 A) (h0 : 0 ≤ num) (h1 : num < 2 ^ 30) (q : ∀ g h', Ext b.B [] h h' → SizerOk b h' g num m (szI fun z => vm (zz z)) (okI okZ) → Q (.ref g) h') :
    W prog w A (PySem.call (.ref (b.fa "SInt64Sizer")) [.int num t, .bool m.r, .bool m.p]) Q E h := by
  have F := H.fn 44 (by decide)
  refine W.def0 H O F R [("field_number", .int num t), ("is_repeated", .bool m.r), ("is_packed", .bool m.p)] (fun _ _ _ _ _ _ _ => by rfl) ?_
  intro L₄ h₄ A₄ c R₄ S₄
  dsimp only [cf0, cfc, cfl, cff, cfg, co0, coc, col, cof, cog, List.nil_append, List.cons_append] at S₄ ⊢
  repeat' wtm_at "j"
  refine s_ModifiedSizer H (by wtm_at "ok") (R₄.le (by decide)) (fni_S H) (fnm_Z H) (fun z hz => ⟨by have := (zz_range hz.1 hz.2); wtm_at "la", (zz_range hz.1 hz.2).2⟩) (fun z hz => by have := zz_range hz.1 hz.2; exact vm_range (by wtm_at "la") this.2) ?_
  intro g h₅ x₅ mk
  have hf := mk.fnat
  have S₅ := St.ext0 (by assumption) x₅
  repeat' wtm_at "j"
  refine mk.run .refl S₅.ok (R₄.le (by decide)) h0 h1 ?_
  intro g' h₆ x₆ ok₆
  repeat' wtm_at "j"
  exact q _ _ (S₅.ext0 x₆).ext ok₆
theorem s_Fixed32Sizer {num : Int} {m : Mode} (H : Hyp b) (O : Ok b h) (R : Room 6 A) (h0 : 0 ≤ num) (h1 : num < 2 ^ 30) (q : ∀ g h', Ext b.B [] h h' → SizerOk b h' g num m (fun _ => 4) (fun _ => True) → Q (.ref g) h') :
    W prog w A (PySem.call (.ref (b.fa "Fixed32Sizer")) [.int num t, .bool m.r, .bool m.p]) Q E h := by
  have F := H.fn 45 (by decide)
  refine W.def0 H O F R [("field_number", .int num t), ("is_repeated", .bool m.r), ("is_packed", .bool m.p)] (fun _ _ _ _ _ _ _ => by rfl) ?_
  intro L₄ h₄ A₄ c R₄ S₄
  dsimp only [cf0, cfc, cfl, cff, cfg, co0, coc, col, cof, cog, List.nil_append, List.cons_append] at S₄ ⊢
  repeat' wtm_at "j"
  refine s_FixedSizer H (by wtm_at "ok") (R₄.le (by decide)) (by decide) (by decide) ?_
  intro g h₅ x₅ mk
  have hf := mk.fnat
  have S₅ := St.ext0 (by assumption) x₅
  repeat' wtm_at "j"
  refine mk.run .refl S₅.ok (R₄.le (by decide)) h0 h1 ?_
  intro g' h₆ x₆ ok₆
  repeat' wtm_at "j"
  exact q _ _ (S₅.ext0 x₆).ext ok₆
theorem s_SFixed32Sizer {num : Int} {m : Mode} (H : Hyp b) (O : Ok b h) (R : Room 6 A) (h0 : 0 ≤ num) (h1 : num < 2 ^ 30) (q : ∀ g h', Ext b.B [] h h' → SizerOk b h' g num m (fun _ => 4) (fun _ => True) → Q (.ref g) h') :
    W prog w A (PySem.call (.ref (b.fa "SFixed32Sizer")) [.int num t, .bool m.r, .bool m.p]) Q E h := by
  have F := H.fn 46 (by decide)
  refine W.def0 H O F R [("field_number", .int num t), ("is_repeated", .bool m.r), ("is_packed", .bool m.p)] (fun _ _ _ _ _ _ _ => by rfl) ?_
  intro L₄ h₄ A₄ c R₄ S₄
  dsimp only [cf0, cfc, cfl, cff, cfg, co0, coc, col, cof, cog, List.nil_append, List.cons_append] at S₄ ⊢
  repeat' wtm_at "j"
  refine s_FixedSizer H (by wtm_at "ok") (R₄.le (by decide)) (by decide) (by decide) ?_
  intro g h₅ x₅ mk
  have hf := mk.fnat
  have S₅ := St.ext0 (by assumption) x₅
  repeat' wtm_at "j"
  refine mk.run .refl S₅.ok (R₄.le (by decide)) h0 h1 ?_
  intro g' h₆ x₆ ok₆
  repeat' wtm_at "j"
  exact q _ _ (S₅.ext0 x₆).ext ok₆
theorem s_Fixed64Sizer {num : Int} {m : Mode} (H : Hyp b) (O : Ok b h) (R : Room 6 A) (h0 : 0 ≤ num) (h1 : num < 2 ^ 30) (q : ∀ g h', Ext b.B [] h h' → SizerOk b h' g num m (fun _ => 8) (fun _ => True) → Q (.ref g) h') :
    W prog w A (PySem.call (.ref (b.fa "Fixed64Sizer")) [.int num t, .bool m.r, .bool m.p]) Q E h := by
  have F := H.fn 47 (by decide)
  refine W.def0 H O F R [("field_number", .int num t), ("is_repeated", .bool m.r), ("is_packed", .bool m.p)] (fun _ _ _ _ _ _ _ => by rfl) ?_
  intro L₄ h₄ A₄ c R₄ S₄
  dsimp only [cf0, cfc, cfl, cff, cfg, co0, coc, col, cof, cog, List.nil_append, List.cons_append] at S₄ ⊢
  repeat' wtm_at "j"
  refine s_FixedSizer H (by wtm_at "ok") (R₄.le (by decide)) (by decide) (by decide) ?_
  intro g h₅ x₅ mk
  have hf := mk.fnat
  have S₅ := St.ext0 (by assumption) x₅
  repeat' wtm_at "j"
  refine mk.run .refl S₅.ok (R₄.le (by decide)) h0 h1 ?_
  intro g' h₆ x₆ ok₆
  repeat' wtm_at "j"
  exact q _ _ (S₅.ext0 x₆).ext ok₆
theorem s_SFixed64Sizer {num : Int} {m : Mode} (H : Hyp b) (O : Ok b h) (R : Room 6 A) (h0 : 0 ≤ num) (h1 : num < 2 ^ 30) (q : ∀ g h', Ext b.B [] h h' → SizerOk b h' g num m (fun _ => 8) (fun _ => True) → Q (.ref g) h') :
    W prog w A (PySem.call (.ref (b.fa "SFixed64Sizer")) [.int num t, .bool m.r, .bool m.p]) Q E h := by
  have F := H.fn 48 (by decide)
  refine W.def0 H O F R [("field_number", .int num t), ("is_repeated", .bool m.r), ("is_packed", .bool m.p)] (fun _ _ _ _ _ _ _ => by rfl) ?_
  intro L₄ h₄ A₄ c R₄ S₄
  dsimp only [cf0, cfc, cfl, cff, cfg, co0, coc, col, cof, cog, List.nil_append, List.cons_append] at S₄ ⊢
  repeat' wtm_at "j"
  refine s_FixedSizer H (by wtm_at "ok") (R₄.le (by decide)) (by decide) (by decide) ?_
  intro g h₅ x₅ mk
  have hf := mk.fnat
  have S₅ := St.ext0 (by assumption) x₅
  repeat' wtm_at "j"
  refine mk.run .refl S₅.ok (R₄.le (by decide)) h0 h1 ?_
  intro g' h₆ x₆ ok₆
  repeat' wtm_at "j"
  exact q _ _ (S₅.ext0 x₆).ext ok₆
theorem s_BoolSizer {num : Int} {m : Mode} (H : Hyp b) (O : Ok b h) (R : Room 6 A) (h0 : 0 ≤ num) (h1 : num < 2 ^ 30) (q : ∀ g h', Ext b.B [] h h' → SizerOk b h' g num m (fun _ => 1) (fun _ => True) → Q (.ref g) h') :
    W prog w A (PySem.call (.ref (b.fa "BoolSizer")) [.int num t, .bool m.r, .bool m.p]) Q E h := by
  have F := H.fn 49 (by decide)
  refine W.def0 H O F R [("field_number", .int num t), ("is_repeated", .bool m.r), ("is_packed", .bool m.p)] (fun _ _ _ _ _ _ _ => by rfl) ?_
  intro L₄ h₄ A₄ c R₄ S₄
  dsimp only [cf0, cfc, cfl, cff, cfg, co0, coc, col, cof, cog, List.nil_append, List.cons_append] at S₄ ⊢
  repeat' wtm_at "j"
  refine s_FixedSizer H (by wtm_at "ok") (R₄.le (by decide)) (by decide) (by decide) ?_
  intro g h₅ x₅ mk
  have hf := mk.fnat
  have S₅ := St.ext0 (by assumption) x₅
  repeat' wtm_at "j"
  refine mk.run .refl S₅.ok (R₄.le (by decide)) h0 h1 ?_
  intro g' h₆ x₆ ok₆
  repeat' wtm_at "j"
  exact q _ _ (S₅.ext0 x₆).ext ok₆
end

/-! lambdas that write -/
noncomputable def FnL (h : Heap) (a : Addr) (qual : Str) (params : Arguments) (body : Expr) (scope : Scope) (cl : List (Str × Addr)) (cd : Value) : Prop :=
  ∃ o name doc pm ct, h.get? a = some o ∧ o.data = .func (fdOf name qual params (.expr body) scope cl .none doc pm cd ct) ∧ h.CodeRec cd qual
theorem FnL.fnat {h : Heap} {a : Addr} {qual : Str} {params : Arguments} {body : Expr} {scope : Scope} {cl : List (Str × Addr)} {cd : Value} (x : FnL h a qual params body scope cl cd) : FnAt a h := by
  obtain ⟨⟨oc, od, dt, sl⟩, name, doc, pm, ct, e, d, _⟩ := x
  cases d
  exact ⟨_, _, _, _, e⟩
theorem ext_ne {B : Heap} {p : Addr} {h h' : Heap} {xs : Array Value} (hp : h.PlainList p xs) (e : Ext B [p] h h') {a : Addr} {o : Obj} (ho : h.get? a = some o) (hd : ∀ vs n, o.data ≠ .seq vs n) (t : NotTab o) (d : NoDict o) : h'.get? a = some o :=
  e.keep _ _ ho (fun q => by rw [List.mem_singleton] at q; subst q; obtain ⟨n, e1⟩ := hp; rw [e1] at ho; cases ho; exact hd _ _ rfl) t d
theorem FnL.ext {B : Heap} {p : Addr} {h h' : Heap} {xs : Array Value} {a c P : Addr} {qual : Str} {params : Arguments} {body : Expr} {scope : Scope} {cl : List (Str × Addr)} (x : FnL h a qual params body scope cl (.ref c)) (C : CodeHd h c P) (hp : h.PlainList p xs) (e : Ext B [p] h h') :
    FnL h' a qual params body scope cl (.ref c) := by
  obtain ⟨o, name, doc, pm, ct, e1, d, c', oc, vs, t, c1, c2, c3, c4⟩ := x
  refine ⟨o, name, doc, pm, ct, ext_ne hp e e1 (by rw [d]; nofun) (.inr (by rw [d]; nofun)) (fun _ _ => by rw [d]; nofun), d, c', oc, vs, t, c1, ext_ne hp e c2 (by rw [c3]; nofun) (.inl ?_) (fun _ _ => by rw [c3]; nofun), c3, c4⟩
  cases c1
  obtain ⟨o', _, _, _, _, _, _, _, _, f1, f2, f3, _⟩ := id C
  rw [c2] at f1; cases f1
  rw [f2]; nofun

section
variable {prog : Program} {w : World} {A : Around} {E : Value → Heap → Prop} {h h₀ h₁ : Heap} {b : Bs} {X : List Addr} {fz : List (Addr × K)} {L : Addr} {l : List (Str × Value)} {ob ob' : List (Addr × K)}
  {env : Env} {pos : Pos} {v : Value} {i n : Nat} {a c P f p : Addr} {t u : Tok} {qn : Str} {params : Arguments} {sc : Scope} {cl : List (Str × Addr)} {vs xs : List Value} {cd : Value}
theorem W.lam {Q : Value → Heap → Prop} {body : Expr} {scope : Scope} {clos : List (Str × Addr)} (H : Hyp b) (S : St b h₀ [] fz L l ob h) (hC : Code b h₀ c P) (hd : defaultsOf params env = ([], [])) (hc : env.code = .ref c) (hg : env.globals = mainGlobals)
    (hq : nm pos = env.qual ++ "<lambda>") (hcl : closureFor scope env = Pure.pure clos)
    (k : ∀ f c' P' h', St b h₀ [] fz L l ob h' → FnL h' f (env.qual ++ "<lambda>") params body scope clos (.ref c') → CodeHd h' c' P' → Q (.ref f) h') : W prog w A (eval (.Lambda params body scope pos) env) Q E h := by
  have C := hC.ext S.ext
  refine W.lambda hd (W.makeFn (dv := []) H.g S hc hg C.1 C.2 hq hcl fun f c' P' dV doc pm ct h' S' hr hC' hT' D => ?_)
  have e : dV = .none := D
  subst e
  exact k f c' P' h' S'.drop ⟨_, "<lambda>", doc, pm, ct, (S'.obs _ (.head _)).1, rfl, hr⟩ hC'
theorem W.callL {body : Expr} {binds : List (Str × Value)} {ob₀ : List (Addr × K)} {Q : Value → Heap → Prop}
    (G : Good b) (O : Ok b h) (F : FnL h a qn params body sc cl cd) (hroom : A.depth < recursionLimit)
    (hbind : ∀ s name doc pm ct, s.heap = h → BindsTo s (fdOf name qn params (.expr body) sc cl .none doc pm cd ct) ⟨vs, []⟩ binds)
    (hxb : ∀ x ∈ X, b.B.get? x = none) (hfz : ∀ p ∈ fz, p.2.at h p.1 ∧ p.1 ∉ X) (hob : ∀ p ∈ ob₀, p.2.at h p.1 ∧ p.1 ∈ X) (hnd : (ob₀.map (·.1)).Nodup)
    (k : ∀ L h₁, St b h X fz L [] (cellObs (L + 1) sc.names ++ ob₀) h₁ → bindK prog w A.in1 (envX qn sc L a cd (cellsFrom (L + 1) sc.names cl)) binds (fun h₂ => Ok b h₂ ∧
      W prog w (A.deeper (envX qn sc L a cd (cellsFrom (L + 1) sc.names cl))) (eval body (envX qn sc L a cd (cellsFrom (L + 1) sc.names cl))) Q (fun _ _ => False) h₂) h₁)
    (hco : sc.isCoroutine = false := by rfl) (hgen : sc.isGenerator = false := by rfl) : W prog w A (PySem.call (.ref a) vs) Q E h := by
  intro s Q' E' e q r
  subst e
  obtain ⟨o, name, doc, pm, ct, hget, hd, hcr⟩ := F
  refine wpAny_call (kla_callFunE hroom hget hd hco hgen rfl hcr (hbind s name doc pm ct rfl _ _ _ _ ?_))
  have hf0 : s.heap.get? s.heap.objs.size = none := Heap.get?_none_of_le (Nat.le_refl _)
  have hL : ∀ p ∈ ob₀, p.1 ≠ s.heap.objs.size := fun p hp q => by
    obtain ⟨o, e1, _⟩ := K.soft (hob p hp).1
    rw [q, hf0] at e1; cases e1
  have S₀ : St b s.heap X fz s.heap.objs.size [] ob₀ (s.heap.push { cls := .type "frame", data := .dict #[] }) :=
    { ok₀ := O, ext := .keeps fun _ _ e => Heap.get?_push_of_some _ e, xb := hxb, fz := hfz, ns := Heap.Ns.new s.heap (.type "frame"), new := hf0
      obs := fun p hp => K.same (fun o e => Heap.get?_push_of_some _ e) (hob p hp).1, obn := fun p hp => .inr (hob p hp).2
      nd := List.nodup_cons.mpr ⟨fun q => by obtain ⟨p, hp, z⟩ := List.mem_map.mp q; exact hL p hp z, hnd⟩ }
  obtain ⟨ob', S₁, hob'⟩ := S₀.cells (names := sc.names)
  have hsz : (s.heap.push { cls := .type "frame", data := .dict #[] }).objs.size = s.heap.objs.size + 1 := Heap.size_push ..
  have S₂ := S₁.perm (ob' := cellObs (s.heap.objs.size + 1) sc.names ++ ob₀) (fun p hp => (hob' p).mpr (by
      rw [hsz]; exact (List.mem_append.mp hp).elim .inl .inr)) (by
    rw [List.map_append]
    refine List.nodup_append.mpr ⟨cellObs_nd _ _, hnd, fun x hx y hy => ?_⟩
    obtain ⟨p, hp, rfl⟩ := List.mem_map.mp hx
    obtain ⟨p', hp', rfl⟩ := List.mem_map.mp hy
    obtain ⟨o, e1, _⟩ := K.soft (hob p' hp').1
    have l1 : @LT.lt Nat _ p'.1 s.heap.objs.size := Heap.lt_size e1
    have l2 := cellObs_ge _ _ p hp
    exact fun e => by
      have e : @Eq Nat p.1 p'.1 := e
      wtm_at "la")
  have main := k _ _ S₂
  show wpAny _ A.in1 (newFunctionEnv sc mainGlobals cl binds (qn ++ ".<locals>.") (some a) cd none builtinsNs) _ _ s
  simp only [newFunctionEnv, Option.isSome_none, Bool.false_eq_true, if_false]
  refine wpAny_bind (wpAny_alloc ?_)
  refine wpAny_bind (wpAny_layCells _ (fun name kind cells => by cases hkc : kind == NameKind.cell <;> simp [hkc]) _ _ _ _ ?_)
  rw [show ({ s with heap := s.heap.push { cls := .type "frame", data := .dict #[] } } : Shared).heap.objs.size = s.heap.objs.size + 1 from Heap.size_push ..]
  refine wpAny_bind (bindK_run binds _ (fun _ _ _ => rfl) _ _ main _ _ _ rfl (fun _ h₂ tk₂ y => ?_) fun _ _ _ y => y.elim)
  refine wpAny_pure ⟨G.nolimit.keeps y.1.sub, kla_codeExpr ?_⟩
  exact y.2 _ _ _ rfl (fun f h' tk z => q _ h' tk z) fun _ _ _ z => z.elim
theorem W.ishr {Q : Value → Heap → Prop} {a c : Int} (h0 : 0 ≤ c) (x : ∀ t, Q (.int (a.fdiv (2 ^ c.toNat)) t) h) : W prog w A (inplaceOp .RShift (.int a t) (.int c u)) Q E h := fun s _ _ e q _ => irshift_int h0 (q _ _ _ (e ▸ x s.toks))
theorem W.newList1 {Q : Value → Heap → Prop} (S : St b h₀ X fz L l ob h) (hz : vs.length ≤ 1000) (x : ∀ a h', St b h₀ X fz L l ((a, .lst vs) :: ob) h' → Q (.ref a) h') : W prog w A (PySem.newList vs) Q E h := W.newList S (by rw [sizeLine_eq]; wtm_at "la") x
theorem W.newTuple1 {Q : Value → Heap → Prop} (S : St b h₀ X fz L l ob h) (hz : vs.length ≤ 1000) (x : ∀ a h', St b h₀ X fz L l ((a, .tup vs) :: ob) h' → Q (.ref a) h') : W prog w A (PySem.newTuple vs) Q E h := W.newTuple S (by rw [sizeLine_eq]; wtm_at "la") x
theorem W.bytesM {Q : Value → Heap → Prop} {ns : List Int} (R : A.handled = none) (S : St b h₀ X fz L l ob h) (hm : (a, .lst xs) ∈ ob) (hi : IntsAre xs ns) (hr : ∀ n ∈ ns, 0 ≤ n ∧ n < 256) (hz : xs.length ≤ 1000)
    (q : ∀ t h', St b h₀ X fz L l ob h' → Q (.bytes (bl ns).toArray t) h') : W prog w A (PySem.call (.type "bytes") [.ref a]) Q E h := W.bytesI R S (S.obs _ hm) hi hr (by rw [sizeLine_eq]; wtm_at "la") q
/-- a writer's contract -/
structure WrOk (b : Bs) (f p : Addr) (h : Heap) : Prop where
  fnat : FnAt f h
  nb : b.B.get? p = none
  nf : f ≠ p
  run : ∀ {prog w A h' xs v Q E}, Ext b.B [p] h h' → Ok b h' → Room 1 A → h'.PlainList p xs.toArray → xs.length ≤ 16777216 → (∀ h'', Ext b.B [p] h' h'' → h''.PlainList p (xs ++ [v]).toArray → Q .none h'') → W prog w A (PySem.call (.ref f) [v]) Q E h'
theorem FnAt.ext {B : Heap} {h h' : Heap} (x : FnAt f h) (n : f ∉ X) (e : Ext B X h h') : FnAt f h' :=
  let ⟨oc, od, fd, sl, e1⟩ := x; ⟨oc, od, fd, sl, e.keep _ _ e1 n (.inr nofun) nofun⟩
theorem WrOk.ext {h' : Heap} (x : WrOk b f p h) (e : Ext b.B [p] h h') : WrOk b f p h' :=
  ⟨FnAt.ext x.fnat (by rw [List.mem_singleton]; exact x.nf) e, x.nb, x.nf, fun e' O R hp hz q => x.run (e.trans e') O R hp hz q⟩
theorem W.getAppendM {pl : Sem Bool} {Q : Value × List Value → Heap → Prop} (S : St b h₀ X fz L l ob h) (hm : (a, .lst xs) ∈ ob) (x : Q (.builtin "list.append", [.ref a]) h) :
    W prog w A (getMethod (.ref a) "append" pl) Q E h := by
  obtain ⟨i, e⟩ := List.getElem?_of_mem hm
  exact W.getAppend S e x
theorem W.appendU {Q : Value → Heap → Prop} (S : St b h₀ X fz L l ob h) (hu : Upd ob a (.lst xs) (.lst (xs ++ [v])) ob') (hz : xs.length ≤ 16777216)
    (k : ∀ h', St b h₀ X fz L l ob' h' → Q .none h') : W prog w A (PySem.call (.builtin "list.append") [.ref a, v]) Q E h := by
  obtain ⟨i, e1, e2⟩ := hu.ix
  exact W.append S e1 (by rw [sizeLine_eq]; exact hz) fun h' S' => k h' (e2 ▸ S')
theorem W.write {Q : Value → Heap → Prop} (S : St b h₀ [p] fz L l ob h) (hw : WrOk b f p h₀) (hu : Upd ob p (.lst xs) (.lst (xs ++ [v])) ob') (R : Room 1 A) (hz : xs.length ≤ 16777216)
    (k : ∀ h', St b h₀ [p] fz L l ob' h' → Q .none h') : W prog w A (PySem.call (.ref f) [v]) Q E h := by
  obtain ⟨i, e1, e2⟩ := hu.ix
  refine hw.run S.ext S.ok R (S.obs _ (List.mem_of_getElem? e1)) hz fun h'' x hp => k h'' ?_
  rw [e2]
  exact S.updX (k' := .lst (xs ++ [v])) e1 x hp
end
theorem and127 (m : Nat) : Builtin.bitAnd (m : Int) 127 = ((m % 128 : Nat) : Int) := by rw [bitAnd_m7]; wtm_at "la"
theorem shr7 (m : Nat) : (m : Int).fdiv (2 ^ (7 : Int).toNat) = ((m / 128 : Nat) : Int) := by
  rw [Int.fdiv_eq_ediv_of_nonneg _ (by decide)]
  show (m : Int) / 128 = _
  wtm_at "la"
theorem or128 {r : Nat} (h : r < 128) : Builtin.bitOr 128 (r : Int) = ((128 + r : Nat) : Int) := by
  rw [bitOr_and]
  have e : Builtin.bitAnd 128 (r : Int) = 0 := by
    have := kbt_bit' (r : Int) 7
    have e1 : (r : Int) / 2 ^ 7 = 0 := by show (r : Int) / 128 = 0; wtm_at "la"
    rw [e1] at this
    exact this
  rw [e]; wtm_at "la"
theorem bl_one (n : Nat) : bl [(n : Int)] = [n.toUInt8] := rfl
theorem flat_snoc (bs : List (List UInt8)) (x : List UInt8) : (bs ++ [x]).flatten = bs.flatten ++ x := by simp
section
variable {prog : Program} {w : World} {A : Around} {E : Value → Heap → Prop} {h h₀ h₁ : Heap} {b : Bs} {L : Addr} {Q : Value → Heap → Prop} {a p f : Addr} {t u : Tok} {xs : List Value} {z : Int} {v : Value}
noncomputable def by1 (x : UInt8) (t : Tok) : Value := .bytes [x].toArray t
/-- what a writer's frame may turn -/
theorem W.frameW {params : Arguments} {body : List Stmt} {sc : Scope} {qn : Str} {cl : List (Str × Addr)} {dV cd : Value} {dv : List Value} {n : Nat} {vs : List Value} (H : Hyp b) (O : Ok b h) (F : FnO h a qn params body sc cl dV cd) (D : DvIs h dv dV) (R : Room (n + 1) A) (hw : WrOk b f p h) (hp : h.PlainList p xs.toArray)
    (binds : List (Str × Value)) (hb : ∀ s name kV doc pm an ct, s.heap = h → BindsTo s (fnX name qn params body sc cl dV kV doc pm an cd ct) ⟨vs, []⟩ binds) (fz : List (Addr × K)) (hfz : ∀ q ∈ fz, q.2.at h q.1 ∧ q.1 ≠ p)
    (k : ∀ L h₁ A' cs os, cellsFrom (L + 1) sc.names cl = cs → cellObs (L + 1) sc.names = os → Room n A' → St b h [p] fz L [] (os ++ [(p, .lst xs)]) h₁ → bindK prog w A.in1 (envX qn sc L a cd cs) binds (fun h₂ => Ok b h₂ ∧
      W prog w A' (execs body (envX qn sc L a cd cs)) (retK Q) (fun _ _ => False) h₂) h₁)
    (hco : sc.isCoroutine = false := by rfl) (hgen : sc.isGenerator = false := by rfl) : W prog w A (PySem.call (.ref a) vs) Q E h :=
  W.frame (ob₀ := [(p, .lst xs)]) (X := [p]) (fz := fz) (dv := dv) H.g O F D R hb (fun x hx => by rw [List.mem_singleton] at hx; subst hx; exact hw.nb) (fun q hq => ⟨(hfz q hq).1, by rw [List.mem_singleton]; exact (hfz q hq).2⟩)
    (fun q hq => by rw [List.mem_singleton] at hq; subst hq; exact ⟨hp, .head _⟩) (by simp) (fun L h₁ A' R' S => k L h₁ A' _ _ rfl rfl R' S) hco hgen
/-- what an encoder of a value has written -/
structure Wrote (B : Heap) (p : Addr) (xs : List Value) (n : Nat) (x : List UInt8) (h h' : Heap) : Prop where
  ext : Ext B [p] h h'
  run : ∃ ys bs, h'.PlainList p (xs ++ ys).toArray ∧ BytesAre ys bs ∧ bs.flatten = x ∧ ys.length ≤ n
/-- the turns of a varint: m is left, ys stand written -/
noncomputable def VI (b : Bs) (h₀ : Heap) (L f p : Addr) (xs : List Value) (Z : Nat) (n : Nat) (h : Heap) : Prop :=
  ∃ l m t t' ys bs, n = m / 128 ∧ l.lookup (Str.ofString "bits") = some (.int ((m % 128 : Nat) : Int) t) ∧ l.lookup (Str.ofString "value") = some (.int ((m / 128 : Nat) : Int) t') ∧ l.lookup (Str.ofString "write") = some (.ref f) ∧
    BytesAre ys bs ∧ bs.flatten ++ vint m = vint Z ∧ ys.length + (vint m).length = (vint Z).length ∧ St b h₀ [p] [] L l [(p, .lst (xs ++ ys))] h
theorem VI.of {b : Bs} {h₀ : Heap} {L f p : Addr} {xs : List Value} {Z n : Nat} {h : Heap} {l : List (Str × Value)} {zs ys : List Value} {m : Nat} {t t' : Tok} {bs : List (List UInt8)} (S : St b h₀ [p] [] L l [(p, .lst zs)] h) (e : zs = xs ++ ys) (hn : n = m / 128) (h1 : l.lookup (Str.ofString "bits") = some (.int ((m % 128 : Nat) : Int) t))
    (h2 : l.lookup (Str.ofString "value") = some (.int ((m / 128 : Nat) : Int) t')) (h3 : l.lookup (Str.ofString "write") = some (.ref f)) (h4 : BytesAre ys bs) (h5 : bs.flatten ++ vint m = vint Z) (h6 : ys.length + (vint m).length = (vint Z).length) : VI b h₀ L f p xs Z n h := by
  subst e; exact ⟨l, m, t, t', ys, bs, hn, h1, h2, h3, h4, h5, h6, S⟩
theorem vint_le {Z : Nat} (h : Z < 18446744073709551616) : (vint Z).length ≤ 10 := (vlen 9 Z (by wtm_at "la")).1
theorem vint_pos (m : Nat) : 1 ≤ (vint m).length := by
  by_cases q : m < 128
  · rw [vint_lt q]; simp
  · rw [vint_ge q]; simp
theorem Wrote.of {n : Nat} {x : List UInt8} {fz : List (Addr × K)} {l : List (Str × Value)} {h' : Heap} {zs ys : List Value} {bs : List (List UInt8)} (S : St b h [p] fz L l [(p, .lst zs)] h') (e : zs = xs ++ ys) (h1 : BytesAre ys bs) (h2 : bs.flatten = x) (h3 : ys.length ≤ n) : Wrote b.B p xs n x h h' :=
  ⟨S.ext, ys, bs, e ▸ S.obs _ (.head _), h1, h2, h3⟩
theorem s_EncodeVarint (H : Hyp b) (O : Ok b h) (R : Room 2 A) (hw : WrOk b f p h) (hp : h.PlainList p xs.toArray) (hz : xs.length ≤ 1000) (h0 : 0 ≤ z) (h1 : z < 18446744073709551616)
    (q : ∀ h', Wrote b.B p xs 10 (vint z.toNat) h h' → Q .none h') : W prog w A (PySem.call (.ref (b.fa "_EncodeVarint")) [.ref f, .int z t, v]) Q E h := by
  obtain ⟨Z, rfl⟩ := Int.eq_ofNat_of_zero_le h0
  rw [Int.toNat_natCast] at q
  have hZ := vint_le (Z := Z) (by wtm_at "la")
  have F := H.fd 52 (by decide)
  obtain ⟨cd, dV, F, D⟩ := F
  refine W.frameW H O (F.up O) (D.up O) R hw hp [("write", .ref f), ("value", .int Z t), ("unused_deterministic", v)] ?_ [] (fun _ h => nomatch h) ?_
  · intro s name kV doc pm an ct es
    obtain ⟨T, rfl, hT⟩ := D
    first
      | exact BindsTo.of_eq rfl
      | exact BindsTo.of_defaults rfl (es ▸ O.sub _ _ hT) rfl rfl rfl
  · intro L h₁ A' cs os hcs hos R' S
    dsimp only [cf0, cfc, cfl, cff, cfg] at hcs
    dsimp only [co0, coc, col, cof, cog] at hos
    subst hcs hos
    try dsimp only [List.nil_append, List.cons_append] at S
    repeat' wtm_at "j"
    rename_i S₁
    rw [and127, shr7] at S₁
    refine W.while (VI b h L f p xs Z) (Z / 128) (VI.of S₁ (List.append_nil xs).symm rfl (by wtm_at "lk") (by wtm_at "lk") (by wtm_at "lk") .nil rfl (by simp)) ?_
    clear S₁ S
    rintro n h₂ ⟨l, m, t1, t2, ys, bs, rfl, hb1, hb2, hb3, hys, hfl, hln, S₂⟩
    have hm1 := vint_pos m
    repeat' wtm_at "j"
    · rename_i hne S₃
      have hm : ¬ m < 128 := by wtm_at "la"
      refine W.bytesM R'.hh (by assumption) (by wtm_at "mem") (.cons _ _ .nil) (by
        intro n hn
        rw [List.mem_singleton] at hn
        subst hn
        rw [or128 (by wtm_at "la")]; wtm_at "la") (by wtm_at "len") ?_
      intro tb h₄ S₄
      have hlen : (xs ++ ys).length ≤ 16777216 := by rw [List.length_append]; wtm_at "la"
      repeat' wtm_at "j"
      rename_i S₅
      rw [and127, shr7] at S₅
      refine loopK.next (m := m / 128 / 128) (by wtm_at "la") (VI.of S₅.drop (List.append_assoc _ _ _) rfl (by wtm_at "lk") (by wtm_at "lk") (by wtm_at "lk") (hys.append (.cons _ _ .nil)) ?_ ?_)
      · rw [flat_snoc, or128 (by wtm_at "la"), bl_one, ← hfl, vint_ge hm, List.append_assoc]; rfl
      · rw [← hln, vint_ge hm, List.length_append]; simp only [List.length_cons, List.length_nil]; wtm_at "la"
    · rename_i hne S₃
      have hm : m < 128 := by wtm_at "la"
      refine W.bytesM R'.hh (by assumption) (by wtm_at "mem") (.cons _ _ .nil) (by
        intro n hn
        rw [List.mem_singleton] at hn
        subst hn
        wtm_at "la") (by wtm_at "len") ?_
      intro tb h₄ S₄
      have hlen : (xs ++ ys).length ≤ 16777216 := by rw [List.length_append]; wtm_at "la"
      repeat' wtm_at "j"
      rename_i S₅
      refine q _ (Wrote.of S₅.drop (List.append_assoc _ _ _) (hys.append (.cons _ _ .nil)) ?_ ?_)
      · rw [flat_snoc, bl_one, ← hfl, vint_lt hm, Nat.mod_eq_of_lt hm]
      · rw [List.length_append]; simp only [List.length_cons, List.length_nil]; wtm_at "la"
end

section
variable {prog : Program} {w : World} {A : Around} {E : Value → Heap → Prop} {h h₀ h₁ : Heap} {b : Bs} {L : Addr} {Q : Value → Heap → Prop} {a p f : Addr} {t u : Tok} {xs : List Value} {z y : Int} {v : Value}
theorem s_EncodeSigned (H : Hyp b) (O : Ok b h) (R : Room 2 A) (hw : WrOk b f p h) (hp : h.PlainList p xs.toArray) (hz : xs.length ≤ 1000) (h0 : -9223372036854775808 ≤ z) (h1 : z < 9223372036854775808)
    (q : ∀ h', Wrote b.B p xs 10 (vint (z % 18446744073709551616).toNat) h h' → Q .none h') : W prog w A (PySem.call (.ref (b.fa "_EncodeSignedVarint")) [.ref f, .int z t, v]) Q E h := by
  obtain ⟨Z, hZe⟩ := Int.eq_ofNat_of_zero_le (show 0 ≤ z % 18446744073709551616 by wtm_at "la")
  rw [hZe, Int.toNat_natCast] at q
  have hZ := vint_le (Z := Z) (by wtm_at "la")
  have F := H.fd 53 (by decide)
  obtain ⟨cd, dV, F, D⟩ := F
  refine W.frameW H O (F.up O) (D.up O) R hw hp [("write", .ref f), ("value", .int z t), ("unused_deterministic", v)] ?_ [] (fun _ h => nomatch h) ?_
  · intro s name kV doc pm an ct es
    obtain ⟨T, rfl, hT⟩ := D
    first
      | exact BindsTo.of_eq rfl
      | exact BindsTo.of_defaults rfl (es ▸ O.sub _ _ hT) rfl rfl rfl
  · intro L h₁ A' cs os hcs hos R' S
    dsimp only [cf0, cfc, cfl, cff, cfg] at hcs
    dsimp only [co0, coc, col, cof, cog] at hos
    subst hcs hos
    try dsimp only [List.nil_append, List.cons_append] at S
    repeat' wtm_at "j"
    · have hze : z + 1 * 2 ^ (64 : Int).toNat = (Z : Int) := by
        show z + 18446744073709551616 = _
        wtm_at "la"
      rename_i S₁
      rw [hze, and127, shr7] at S₁
      refine W.while (VI b h L f p xs Z) (Z / 128) (VI.of S₁ (List.append_nil xs).symm rfl (by wtm_at "lk") (by wtm_at "lk") (by wtm_at "lk") .nil rfl (by simp)) ?_
      clear S₁ S
      rintro n h₂ ⟨l, m, t1, t2, ys, bs, rfl, hb1, hb2, hb3, hys, hfl, hln, S₂⟩
      have hm1 := vint_pos m
      repeat' wtm_at "j"
      · rename_i hne S₃
        have hm : ¬ m < 128 := by wtm_at "la"
        refine W.bytesM R'.hh (by assumption) (by wtm_at "mem") (.cons _ _ .nil) (by
          intro n hn
          rw [List.mem_singleton] at hn
          subst hn
          rw [or128 (by wtm_at "la")]; wtm_at "la") (by wtm_at "len") ?_
        intro tb h₄ S₄
        have hlen : (xs ++ ys).length ≤ 16777216 := by rw [List.length_append]; wtm_at "la"
        repeat' wtm_at "j"
        rename_i S₅
        rw [and127, shr7] at S₅
        refine loopK.next (m := m / 128 / 128) (by wtm_at "la") (VI.of S₅.drop (List.append_assoc _ _ _) rfl (by wtm_at "lk") (by wtm_at "lk") (by wtm_at "lk") (hys.append (.cons _ _ .nil)) ?_ ?_)
        · rw [flat_snoc, or128 (by wtm_at "la"), bl_one, ← hfl, vint_ge hm, List.append_assoc]; rfl
        · rw [← hln, vint_ge hm, List.length_append]; simp only [List.length_cons, List.length_nil]; wtm_at "la"
      · rename_i hne S₃
        have hm : m < 128 := by wtm_at "la"
        refine W.bytesM R'.hh (by assumption) (by wtm_at "mem") (.cons _ _ .nil) (by
          intro n hn
          rw [List.mem_singleton] at hn
          subst hn
          wtm_at "la") (by wtm_at "len") ?_
        intro tb h₄ S₄
        have hlen : (xs ++ ys).length ≤ 16777216 := by rw [List.length_append]; wtm_at "la"
        repeat' wtm_at "j"
        rename_i S₅
        refine q _ (Wrote.of S₅.drop (List.append_assoc _ _ _) (hys.append (.cons _ _ .nil)) ?_ ?_)
        · rw [flat_snoc, bl_one, ← hfl, vint_lt hm, Nat.mod_eq_of_lt hm]
        · rw [List.length_append]; simp only [List.length_cons, List.length_nil]; wtm_at "la"
    · have hze : z = (Z : Int) := by wtm_at "la"
      rename_i S₁
      rw [hze, and127, shr7] at S₁
      refine W.while (VI b h L f p xs Z) (Z / 128) (VI.of S₁ (List.append_nil xs).symm rfl (by wtm_at "lk") (by wtm_at "lk") (by wtm_at "lk") .nil rfl (by simp)) ?_
      clear S₁ S
      rintro n h₂ ⟨l, m, t1, t2, ys, bs, rfl, hb1, hb2, hb3, hys, hfl, hln, S₂⟩
      have hm1 := vint_pos m
      repeat' wtm_at "j"
      · rename_i hne S₃
        have hm : ¬ m < 128 := by wtm_at "la"
        refine W.bytesM R'.hh (by assumption) (by wtm_at "mem") (.cons _ _ .nil) (by
          intro n hn
          rw [List.mem_singleton] at hn
          subst hn
          rw [or128 (by wtm_at "la")]; wtm_at "la") (by wtm_at "len") ?_
        intro tb h₄ S₄
        have hlen : (xs ++ ys).length ≤ 16777216 := by rw [List.length_append]; wtm_at "la"
        repeat' wtm_at "j"
        rename_i S₅
        rw [and127, shr7] at S₅
        refine loopK.next (m := m / 128 / 128) (by wtm_at "la") (VI.of S₅.drop (List.append_assoc _ _ _) rfl (by wtm_at "lk") (by wtm_at "lk") (by wtm_at "lk") (hys.append (.cons _ _ .nil)) ?_ ?_)
        · rw [flat_snoc, or128 (by wtm_at "la"), bl_one, ← hfl, vint_ge hm, List.append_assoc]; rfl
        · rw [← hln, vint_ge hm, List.length_append]; simp only [List.length_cons, List.length_nil]; wtm_at "la"
      · rename_i hne S₃
        have hm : m < 128 := by wtm_at "la"
        refine W.bytesM R'.hh (by assumption) (by wtm_at "mem") (.cons _ _ .nil) (by
          intro n hn
          rw [List.mem_singleton] at hn
          subst hn
          wtm_at "la") (by wtm_at "len") ?_
        intro tb h₄ S₄
        have hlen : (xs ++ ys).length ≤ 16777216 := by rw [List.length_append]; wtm_at "la"
        repeat' wtm_at "j"
        rename_i S₅
        refine q _ (Wrote.of S₅.drop (List.append_assoc _ _ _) (hys.append (.cons _ _ .nil)) ?_ ?_)
        · rw [flat_snoc, bl_one, ← hfl, vint_lt hm, Nat.mod_eq_of_lt hm]
        · rw [List.length_append]; simp only [List.length_cons, List.length_nil]; wtm_at "la"

theorem wrOk_of {fz : List (Addr × K)} {l : List (Str × Value)} {ob : List (Addr × K)} {qn x : Str} {params : Arguments} {body : Expr} {sc : Scope} {cc c P : Addr} {xs₀ : List Value} (H : Hyp b) (S : St b h₀ [] fz L l ob h) (F : FnL h f qn params body sc [(x, cc)] (.ref c)) (C : CodeHd h c P)
    (hcell : (cc, .cell (some (.ref p))) ∈ ob) (hp : (p, .lst xs₀) ∈ ob) (binds : Value → List (Str × Value))
    (hb : ∀ v cd name doc pm ct, bindArgs (fdOf name qn params (.expr body) sc [(x, cc)] .none doc pm cd ct) ⟨[v], []⟩ = Pure.pure (binds v))
    (walk : ∀ {prog w A h' v xs Q} (L h₁ A'), Room 0 A' → xs.length ≤ 16777216 → St b h' [p] [(cc, .cell (some (.ref p)))] L [] (cellObs (L + 1) sc.names ++ [(p, .lst xs)]) h₁ → (∀ h'', Ext b.B [p] h' h'' → h''.PlainList p (xs ++ [v]).toArray → Q .none h'') →
      bindK prog w A (envX qn sc L f (.ref c) (cellsFrom (L + 1) sc.names [(x, cc)])) (binds v) (fun h₂ => Ok b h₂ ∧ W prog w A' (eval body (envX qn sc L f (.ref c) (cellsFrom (L + 1) sc.names [(x, cc)]))) Q (fun _ _ => False) h₂) h₁)
    (hco : sc.isCoroutine = false := by rfl) (hgen : sc.isGenerator = false := by rfl) : WrOk b f p h := by
  have pl := S.obs _ hp
  obtain ⟨np, ep⟩ := id pl
  have nf : f ≠ p := fun q => by
    obtain ⟨oc, od, fd, sl, e⟩ := F.fnat
    rw [q, ep] at e; cases e
  have nc : cc ≠ p := fun q => by
    obtain ⟨o, e, d⟩ := S.obs _ hcell
    rw [q, ep] at e; cases e; cases d
  refine ⟨F.fnat, S.noB hp, nf, fun {prog w A h' xs v Q E} e O R hpl hz q => ?_⟩
  have F' := F.ext C pl e
  refine W.callL (X := [p]) (fz := [(cc, .cell (some (.ref p)))]) (ob₀ := [(p, .lst xs)]) H.g O F' (by have := R.dp; wtm_at "la") (fun s name doc pm ct _ => BindsTo.of_eq (hb v _ name doc pm ct)) (fun y hy => by rw [List.mem_singleton] at hy; rw [hy]; exact S.noB hp)
    (fun y hy => by rw [List.mem_singleton] at hy; subst hy; exact ⟨K.ext e (by rw [List.mem_singleton]; exact nc) (S.obs _ hcell), by rw [List.mem_singleton]; exact nc⟩) (fun y hy => by rw [List.mem_singleton] at hy; subst hy; exact ⟨hpl, .head _⟩) (by simp) (fun L h₁ S' => walk L h₁ _ R.deeper hz S' q) hco hgen
theorem Wrote.useU {fz : List (Addr × K)} {l : List (Str × Value)} {ob : List (Addr × K)} {n : Nat} {x : List UInt8} {h' : Heap} {X : List Addr} (w : Wrote b.B p xs n x h h') (S : St b h₀ X fz L l ob h) {ob' : List Value → List (Addr × K)} (hu : ∀ ys, Upd ob p (.lst xs) (.lst (xs ++ ys)) (ob' ys)) :
    ∃ ys bs, St b h₀ X fz L l (ob' ys) h' ∧ BytesAre ys bs ∧ bs.flatten = x ∧ ys.length ≤ n := by
  obtain ⟨e, ys, bs, h1, h2, h3, h4⟩ := w
  obtain ⟨i, hi, ho⟩ := (hu ys).ix
  exact ⟨ys, bs, ho ▸ S.updX hi e h1, h2, h3, h4⟩
theorem W.joinM {fz : List (Addr × K)} {l : List (Str × Value)} {ob : List (Addr × K)} {X : List Addr} {vs : List Value} {bs : List (List UInt8)} (S : St b h₀ X fz L l ob h) (hm : (a, .lst vs) ∈ ob) (hb : BytesAre vs bs) (hz : bs.flatten.length ≤ 100000) (q : ∀ t, Q (.bytes bs.flatten.toArray t) h) :
    W prog w A (PySem.call (.builtin "bytes.join") [.bytes #[] t, .ref a]) Q E h := W.joinB (S.obs _ hm) hb (by wtm_at "la") q
theorem s_VarintBytes (H : Hyp b) (O : Ok b h) (R : Room 3 A) (h0 : 0 ≤ z) (h1 : z < 18446744073709551616)
    (q : ∀ t h', Ext b.B [] h h' → Q (.bytes (vint z.toNat).toArray t) h') : W prog w A (PySem.call (.ref (b.fa "_VarintBytes")) [.int z t]) Q E h := by
  have Fm := H.mkr 54 (by decide)
  refine W.mkr1 H O Fm R [("value", .int z t)] (fun _ _ _ _ _ _ _ => by rfl) ?_
  intro L₄ h₄ A₄
  refine elimCO ?_
  intro c P R₄ C₃ S₄
  dsimp only [cf0, cfc, cfl, cff, cfg, co0, coc, col, cof, cog, List.nil_append, List.cons_append] at S₄ ⊢
  repeat' wtm_at "j"
  refine W.lam H (by assumption) C₃ rfl rfl rfl (by kernel_rfl) rfl ?_
  intro f c' P' h₅ S₅ F₅ C₅
  have hw := wrOk_of H S₅ F₅ C₅ (by wtm_at "mem") (by wtm_at "mem") (fun v => [("piece", v)]) (fun _ _ _ _ _ _ => by rfl) (by
    intro prog w A h' v xs Q L h₁ A' R' hz S q
    dsimp only [cf0, cfc, cfl, cff, cfg, co0, coc, col, cof, cog, List.nil_append, List.cons_append] at S ⊢
    repeat' wtm_at "j"
    rename_i S'
    exact q _ S'.ext (S'.obs _ (.head _)))
  repeat' wtm_at "j"
  refine s_EncodeVarint H S₅.ok (R₄.le (by decide)) hw (S₅.obs (_, .lst _) (by wtm_at "mem")) (by wtm_at "len") h0 h1 ?_
  intro h₆ wr
  obtain ⟨ys, bs, S₆, hb, hf, hn⟩ := wr.useU S₅ (fun ys => by wtm_at "upd")
  rw [List.nil_append] at S₆
  have hv := vint_le (Z := z.toNat) (by wtm_at "la")
  repeat' wtm_at "j"
  have hz : bs.flatten.length ≤ 100000 := by rw [hf]; wtm_at "la"
  refine W.joinM S₆ (by wtm_at "mem") hb hz ?_
  intro tj
  repeat' wtm_at "j"
  rw [hf]
  exact q _ _ S₆.ext
  all_goals trace_state
theorem s_TagBytes (H : Hyp b) (O : Ok b h) (R : Room 4 A) (h0 : 0 ≤ y) (h1 : y ≤ 5) (h2 : 0 ≤ z) (h3 : z < 2 ^ 30) (q : ∀ t h', Ext b.B [] h h' → Q (.bytes (vint (8 * z + y).toNat).toArray t) h') :
    W prog w A (PySem.call (.ref (b.fa "TagBytes")) [.int z t, .int y u]) Q E h := by
  have F := H.fn 55 (by decide)
  refine W.def0 H O F R [("field_number", .int z t), ("wire_type", .int y u)] (fun _ _ _ _ _ _ _ => by rfl) ?_
  intro L h₁ A' cd R' S
  repeat' wtm_at "j"
  rename_i S'
  exact q _ _ S'.ext
end

/-! encoders -/
noncomputable def Log (xs zs : List Value) (n : Nat) (x : List UInt8) : Prop := ∃ ys bs, zs = xs ++ ys ∧ BytesAre ys bs ∧ bs.flatten = x ∧ ys.length ≤ n
section
variable {xs zs ys : List Value} {n m : Nat} {x y : List UInt8}
theorem Log.nil : Log xs xs 0 [] := ⟨[], [], by simp, .nil, rfl, Nat.le_refl _⟩
theorem Log.app {bs : List (List UInt8)} (a : Log xs zs n x) (h1 : BytesAre ys bs) (h2 : bs.flatten = y) (h3 : ys.length ≤ m) : Log xs (zs ++ ys) (n + m) (x ++ y) := by
  obtain ⟨us, cs, rfl, b1, b2, b3⟩ := a
  exact ⟨us ++ ys, cs ++ bs, by simp, b1.append h1, by rw [List.flatten_append, b2, h2], by rw [List.length_append]; wtm_at "la"⟩
theorem Log.snoc (a : Log xs zs n x) {t : Tok} : Log xs (zs ++ [.bytes y.toArray t]) (n + 1) (x ++ y) := a.app (.cons y t .nil) (by simp) (by simp)
theorem Log.len (a : Log xs zs n x) : zs.length ≤ xs.length + n := by
  obtain ⟨us, cs, rfl, b1, b2, b3⟩ := a
  rw [List.length_append]; wtm_at "la"
theorem Log.le (a : Log xs zs n x) (h : n ≤ m) : Log xs zs m x := let ⟨us, cs, e, b1, b2, b3⟩ := a; ⟨us, cs, e, b1, b2, by wtm_at "la"⟩
theorem Log.eq (a : Log xs zs n x) (h : x = y) : Log xs zs n y := h ▸ a
end
section
variable {prog : Program} {w : World} {A : Around} {E : Value → Heap → Prop} {h h₀ h₁ hc : Heap} {b : Bs} {X : List Addr} {fz : List (Addr × K)} {L : Addr} {l : List (Str × Value)} {ob : List (Addr × K)} {Q : Value → Heap → Prop} {a c P p f g : Addr} {t u : Tok}
  {xs zs vs : List Value} {n : Nat} {z : Int} {v : Value} {x : List UInt8} {qn : Str} {params : Arguments} {body : List Stmt} {sc : Scope} {cl : List (Str × Addr)} {dv : List Value}
theorem Wrote.log {h' : Heap} (S : St b h [p] fz L l [(p, .lst zs)] h') (g : Log xs zs n x) : Wrote b.B p xs n x h h' := by
  obtain ⟨ys, bs, e, h1, h2, h3⟩ := g
  exact Wrote.of S e h1 h2 h3
structure EncV (b : Bs) (a : Addr) (ok : Int → Prop) (enc : Int → List UInt8) : Prop where
  fnat : FnAt a b.B
  len : ∀ z, ok z → (enc z).length ≤ 10
  run : ∀ {prog w A h f p xs z t v Q E}, Ok b h → Room 2 A → WrOk b f p h → h.PlainList p xs.toArray → xs.length ≤ 1000 → ok z → (∀ h', Wrote b.B p xs 10 (enc z) h h' → Q .none h') → W prog w A (PySem.call (.ref a) [.ref f, .int z t, v]) Q E h
theorem EncV.up {a : Addr} {ok : Int → Prop} {enc : Int → List UInt8} (x : EncV b a ok enc) (O : Ok b h) : FnAt a h := FnAt.up x.fnat O
theorem encV_V (H : Hyp b) : EncV b (b.fa "_EncodeVarint") okU fun z => vint z.toNat := ⟨(H.nm _ (by kernel_rfl)).2, fun z hz => vint_le (by have := hz.1; have := hz.2; wtm_at "la"), fun O R hw hp hz hk q => s_EncodeVarint H O R hw hp hz hk.1 hk.2 q⟩
theorem encV_S (H : Hyp b) : EncV b (b.fa "_EncodeSignedVarint") okZ fun z => vint (z % 18446744073709551616).toNat := ⟨(H.nm _ (by kernel_rfl)).2, fun z hz => vint_le (by wtm_at "la"), fun O R hw hp hz hk q => s_EncodeSigned H O R hw hp hz hk.1 hk.2 q⟩
theorem W.encV {ok : Int → Prop} {enc : Int → List UInt8} {ob' : List Value → List (Addr × K)} (S : St b h₀ [p] fz L l ob h) (hw : WrOk b f p h₀) (F : EncV b a ok enc) (hm : (p, .lst zs) ∈ ob) (hu : ∀ ys, Upd ob p (.lst zs) (.lst (zs ++ ys)) (ob' ys)) (R : Room 2 A) (hz : zs.length ≤ 1000) (hok : ok z)
    (q : ∀ ys bs h', BytesAre ys bs → bs.flatten = enc z → ys.length ≤ 10 → St b h₀ [p] fz L l (ob' ys) h' → Q .none h') : W prog w A (PySem.call (.ref a) [.ref f, .int z t, v]) Q E h :=
  F.run S.ok R (hw.ext S.ext) (S.obs _ hm) hz hok fun h' wr => by
    obtain ⟨ys, bs, S', h1, h2, h3⟩ := wr.useU S hu
    exact q ys bs h' h1 h2 h3 S'
noncomputable def K.isCell : K → Bool
  | .cell _ => true
  | _ => false
/-- a call of a closure that writes -/
theorem W.closW {L₀ : Addr} {h' : Heap} (H : Hyp b) (S : St b h₀ [] fz L₀ l ob hc) (hcl : (ob ++ fz).all (fun q => q.2.isCell) = true) (x : Ext b.B [] hc h') (F : Cl b hc a qn params body sc cl dv c P) (O : Ok b h') (R : Room (n + 1) A) (hw : WrOk b f p h') (hp : h'.PlainList p xs.toArray)
    (ex : List (Addr × K)) (hex : ∀ q ∈ ex, q.2.at h' q.1 ∧ q.1 ≠ p) (binds : List (Str × Value))
    (hb : ∀ cd dV s name kV doc pm an ct, DvIs s.heap dv dV → BindsTo s (fnX name qn params body sc cl dV kV doc pm an cd ct) ⟨vs, []⟩ binds)
    (k : ∀ L h₁ A' cs os, cellsFrom (L + 1) sc.names cl = cs → cellObs (L + 1) sc.names = os → Room n A' → St b h' [p] (ex ++ (ob ++ fz)) L [] (os ++ [(p, .lst xs)]) h₁ → bindK prog w A.in1 (envX qn sc L a (.ref c) cs) binds (fun h₂ => Ok b h₂ ∧
      W prog w A' (execs body (envX qn sc L a (.ref c) cs)) (retK Q) (fun _ _ => False) h₂) h₁)
    (hco : sc.isCoroutine = false := by rfl) (hgen : sc.isGenerator = false := by rfl) : W prog w A (PySem.call (.ref a) vs) Q E h' := by
  have F' := F.ext x
  obtain ⟨dV, Fn, D⟩ := F'.fn
  refine W.frameW H O Fn D R hw hp binds (fun s name kV doc pm an ct es => hb _ dV s name kV doc pm an ct (es ▸ D)) (ex ++ (ob ++ fz)) (fun q hq => ?_) k hco hgen
  rcases List.mem_append.mp hq with hq | hq
  · exact hex q hq
  · refine ⟨S.all x q hq, fun e => ?_⟩
    have h1 := S.all x q hq
    have h2 := List.all_eq_true.mp hcl q hq
    obtain ⟨qa, qk⟩ := q
    cases qk with
    | cell v =>
      obtain ⟨o, eo, d⟩ := h1
      obtain ⟨np, ep⟩ := hp
      have e : qa = p := e
      subst e
      rw [ep] at eo; cases eo; cases d
    | _ => cases h2
noncomputable def wireB (num wt : Int) (enc : PV → List UInt8) : Mode → Arg → List UInt8
  | .plain, .one p => vint (8 * num + wt).toNat ++ enc p
  | .rep, .many ps => ps.flatMap fun p => vint (8 * num + wt).toNat ++ enc p
  | .pack, .many ps => vint (8 * num + 2).toNat ++ vint (ps.flatMap enc).length ++ ps.flatMap enc
  | _, _ => []
structure EncOk (b : Bs) (h : Heap) (g : Addr) (num wt : Int) (m : Mode) (enc : PV → List UInt8) (ok : PV → Prop) : Prop where
  fnat : FnAt g h
  run : ∀ {prog w A h' f p xs arg v d Q E}, Ext b.B [] h h' → Ok b h' → Room 4 A → WrOk b f p h' → h'.PlainList p xs.toArray → xs.length ≤ 100 → arg.is h' v → (∀ a, v = .ref a → a ≠ p) → arg.fit m → arg.all ok → (∀ r h'', Wrote b.B p xs 100 (wireB num wt enc m arg) h' h'' → Q r h'') →
    W prog w A (PySem.call (.ref g) [.ref f, v, .bool d]) Q E h'
structure EncMk (b : Bs) (h : Heap) (f : Addr) (wt : Int) (enc : PV → List UInt8) (ok : PV → Prop) : Prop where
  fnat : FnAt f h
  run : ∀ {prog w A h' Q E num t m}, Ext b.B [] h h' → Ok b h' → Room 6 A → 0 ≤ num → num < 2 ^ 29 → (∀ g h'', Ext b.B [] h' h'' → EncOk b h'' g num wt m enc ok → Q (.ref g) h'') → W prog w A (PySem.call (.ref f) [.int num t, .bool m.r, .bool m.p]) Q E h'
noncomputable def encI (enc : Int → List UInt8) : PV → List UInt8
  | .i z => enc z
  | _ => []
theorem flatMap_take {enc : PV → List UInt8} {ps : List PV} {i : Nat} {p : PV} (e : ps[i]? = some p) : (ps.take (i + 1)).flatMap enc = (ps.take i).flatMap enc ++ enc p := by
  rw [List.take_add_one, e]; simp
theorem len_flat (enc : PV → List UInt8) : ∀ ps : List PV, ((ps.flatMap enc).length : Int) = sumI (fun p => ((enc p).length : Int)) ps
  | [] => rfl
  | p :: ps => by simp only [List.flatMap_cons, List.length_append, sumI]; rw [← len_flat enc ps]; wtm_at "la"
theorem sumI_congr {f g : PV → Int} {ps : List PV} (h : ∀ p ∈ ps, f p = g p) : sumI f ps = sumI g ps := by
  induction ps with
  | nil => rfl
  | cons p r ih => simp only [sumI]; rw [h p (.head _), ih fun q hq => h q (.tail _ hq)]
end
section
variable {prog : Program} {w : World} {A : Around} {E : Value → Heap → Prop} {h h₀ : Heap} {b : Bs} {v : Value} {Q : Value → Heap → Prop} {z y : Int} {t u : Tok} {a a' : Addr}
theorem s_SimpleEncoder {wt : Int} {tw : Tok} {ok ok' : Int → Prop} {enc : Int → List UInt8} {sz : Int → Int} (H : Hyp b) (O : Ok b h) (R : Room 7 A) (w0 : 0 ≤ wt) (w1 : wt ≤ 5) (FE : EncV b a ok enc) (FS : FnI b a' ok' sz) (hok' : ∀ z, ok z → ok' z) (hsz : ∀ z, ok z → sz z = ((enc z).length : Int))
    (q : ∀ g h', Ext b.B [] h h' → EncMk b h' g wt (encI enc) (okI ok) → Q (.ref g) h') :
    W prog w A (PySem.call (.ref (b.fa "_SimpleEncoder")) [.int wt tw, .ref a, .ref a']) Q E h := by
  have Fm := H.mkr 56 (by decide)
  refine W.mkr1 H O Fm R [("wire_type", .int wt tw), ("encode_value", .ref a), ("compute_value_size", .ref a')] (fun _ _ _ _ _ _ _ => by rfl) ?_
  intro L h₁ A'
  refine elimCO ?_
  intro c P R' C S
  dsimp only [cf0, cfc, cfl, cff, cfg, co0, coc, col, cof, cog, List.nil_append, List.cons_append] at S ⊢
  repeat' wtm_at "j"
  rename_i S₁ f c' P' h₂ S₂ C₂
  refine q f h₂ S₂.ext ⟨C₂.fnat, ?_⟩
  intro prog w A h₃ Q E num t m x₃ O₃ R₃ h0 h1 q
  refine W.closS H S₂ x₃ C₂ O₃ R₃ [] (fun _ h => nomatch h) [("field_number", .int num t), ("is_repeated", .bool m.r), ("is_packed", .bool m.p)] (fun _ _ _ _ _ _ _ => by rfl) ?_
  clear S₁ S₂ C S
  intro L₄ h₄ A₄
  refine elimCO ?_
  intro R₄ C₃ S₄
  dsimp only [cf0, cfc, cfl, cff, cfg, co0, coc, col, cof, cog, List.nil_append, List.cons_append] at S₄ ⊢
  cases m <;> dsimp only [Mode.r, Mode.p]
  · repeat' wtm_at "j"
    rename_i S₅ f₅ c₅ P₅ h₅ S₆ C₅
    refine q f₅ h₅ S₆.ext ⟨C₅.fnat, ?_⟩
    intro prog w A h₆ f p xs arg v d Q E x₆ O₆ R₆ hw hp hx hv hne hfit hall q
    cases arg with
    | many _ => exact hfit.elim
    | one pv =>
      cases pv with
      | i z =>
        obtain ⟨tz, rfl⟩ := hv
        refine W.closW H S₆ rfl x₆ C₅ O₆ R₆ hw hp [] (fun _ h => nomatch h) [("write", .ref f), ("value", .int z tz), ("deterministic", .bool d)] (fun _ dV _ _ _ _ _ _ _ D => by have e : dV = Value.none := D; subst e; exact BindsTo.of_eq rfl) ?_
        clear S₅ S₆ S₄
        have hz : ok z := hall
        intro L₇ h₇ A₇
        refine elimCO ?_
        intro R₇ S₇
        dsimp only [cf0, cfc, cfl, cff, cfg, co0, coc, col, cof, cog, List.nil_append, List.cons_append] at S₇ ⊢
        try generalize qualnameIn _ _ _ = qn
        repeat' wtm_at "j"
        rename_i h1 h2 h3 S₈
        exact q _ _ (Wrote.log S₈ (((Log.nil.snoc).app h1 h2 h3).le (by wtm_at "la")))
      | _ => exact hall.elim
  · repeat' wtm_at "j"
    rename_i S₅ f₅ c₅ P₅ h₅ S₆ C₅
    refine q f₅ h₅ S₆.ext ⟨C₅.fnat, ?_⟩
    intro prog w A h₆ f p xs arg v d Q E x₆ O₆ R₆ hw hp hx hv hne hfit hall q
    cases arg with
    | one _ => exact hfit.elim
    | many ps =>
      obtain ⟨al, vs, rfl, hl, hps, hlen⟩ := hv
      refine W.closW H S₆ rfl x₆ C₅ O₆ R₆ hw hp [(al, .lst vs)] (fun y hy => by rw [List.mem_singleton] at hy; subst hy; exact ⟨hl, hne _ rfl⟩) [("write", .ref f), ("value", .ref al), ("deterministic", .bool d)] (fun _ dV _ _ _ _ _ _ _ D => by have e : dV = Value.none := D; subst e; exact BindsTo.of_eq rfl) ?_
      clear S₅ S₆ S₄
      intro L₇ h₇ A₇
      refine elimCO ?_
      intro R₇ S₇
      dsimp only [cf0, cfc, cfl, cff, cfg, co0, coc, col, cof, cog, List.nil_append, List.cons_append] at S₇ ⊢
      try generalize qualnameIn _ _ _ = qn
      repeat' wtm_at "j"
      refine forK.over (fun i l ob' => ∃ zs, ob' = [(p, .lst zs)] ∧ Log xs zs (11 * i) ((ps.take i).flatMap fun p => vint (8 * num + wt).toNat ++ encI enc p) ∧ l.lookup (Str.ofString "write") = some (.ref f) ∧ l.lookup (Str.ofString "deterministic") = some (.bool d)) R₇.hh (by assumption) (by wtm_at "mem") hps ⟨xs, rfl, .nil, by wtm_at "lk", by wtm_at "lk"⟩ ?_ ?_
      · rintro it i v pv l ob h hp hpv ⟨zs, rfl, hlog, hr1, hr2⟩ hit S
        have hok := hall pv (List.mem_of_getElem? hp)
        have hi := (List.getElem?_eq_some_iff.mp hp).1
        have hlog' := hlog.len
        cases pv with
        | i z =>
          obtain ⟨tz, rfl⟩ := hpv
          have hz : ok z := hok
          repeat' wtm_at "j"
          rename_i h1 h2 h3 S₈
          exact ⟨rfl, _, _, ⟨_, rfl, ((hlog.snoc.app h1 h2 h3).le (by wtm_at "la")).eq (by rw [flatMap_take hp, List.append_assoc]; rfl), by wtm_at "lk", by wtm_at "lk"⟩, S₈⟩
        | _ => exact hok.elim
      · rintro l ob h ⟨zs, rfl, hlog, hr1, hr2⟩ S
        rw [List.take_length] at hlog
        repeat' wtm_at "j"
        exact q _ _ (Wrote.log S (hlog.le (by wtm_at "la")))
  · repeat' wtm_at "j"
    rename_i S₅ f₅ c₅ P₅ h₅ S₆ C₅
    refine q f₅ h₅ S₆.ext ⟨C₅.fnat, ?_⟩
    intro prog w A h₆ f p xs arg v d Q E x₆ O₆ R₆ hw hp hx hv hne hfit hall q
    cases arg with
    | one _ => exact hfit.elim
    | many ps =>
      obtain ⟨al, vs, rfl, hl, hps, hlen⟩ := hv
      refine W.closW H S₆ rfl x₆ C₅ O₆ R₆ hw hp [(al, .lst vs)] (fun y hy => by rw [List.mem_singleton] at hy; subst hy; exact ⟨hl, hne _ rfl⟩) [("write", .ref f), ("value", .ref al), ("deterministic", .bool d)] (fun _ dV _ _ _ _ _ _ _ D => by have e : dV = Value.none := D; subst e; exact BindsTo.of_eq rfl) ?_
      clear S₅ S₆ S₄
      intro L₇ h₇ A₇
      refine elimCO ?_
      intro R₇ S₇
      dsimp only [cf0, cfc, cfl, cff, cfg, co0, coc, col, cof, cog, List.nil_append, List.cons_append] at S₇ ⊢
      try generalize qualnameIn _ _ _ = qn
      have hse : sumI (szI sz) ps = ((ps.flatMap (encI enc)).length : Int) := by
        rw [len_flat]
        refine sumI_congr fun pv hpv => ?_
        have := hall pv hpv
        cases pv with
        | i z => exact hsz z this
        | _ => exact this.elim
      have hsr := szI_range (sz := sz) (ok := ok) (fun z hz => FS.rng z (hok' z hz)) hall
      have FV := encV_V H
      repeat' wtm_at "j"
      refine forK.over (fun i l ob' => (∃ zs, ob' = [(p, .lst zs)] ∧ Log xs zs 1 (vint (8 * num + 2).toNat)) ∧ (∃ t, l.lookup (Str.ofString "size") = some (.int (sumI (szI sz) (ps.take i)) t)) ∧ l.lookup (Str.ofString "write") = some (.ref f) ∧ l.lookup (Str.ofString "deterministic") = some (.bool d) ∧ l.lookup (Str.ofString "value") = some (.ref al)) R₇.hh (by assumption) (by wtm_at "mem") hps ⟨⟨_, rfl, Log.nil.snoc⟩, ⟨_, lk0⟩, by wtm_at "lk", by wtm_at "lk", by wtm_at "lk"⟩ ?_ ?_
      · rintro it i v pv l ob h hp hpv ⟨⟨zs, rfl, hlog⟩, ⟨ts, hr0⟩, hr1, hr2, hr3⟩ hit S
        have hok := hall pv (List.mem_of_getElem? hp)
        cases pv with
        | i z =>
          obtain ⟨tz, rfl⟩ := hpv
          have hz : ok z := hok
          have hz' := hok' z hz
          repeat' wtm_at "j"
          rename_i S₉
          refine ⟨rfl, _, _, ⟨⟨zs, rfl, hlog⟩, ?_, ?_, ?_, ?_⟩, S₉⟩
          · rw [sumI_take _ hp]; exact ⟨_, lk0⟩
          · wtm_at "lk"
          · wtm_at "lk"
          · wtm_at "lk"
        | _ => exact hok.elim
      · rintro l ob h ⟨⟨zs, rfl, hlog⟩, ⟨ts, hr0⟩, hr1, hr2, hr3⟩ S
        rw [List.take_length] at hr0
        have hlog' := hlog.len
        have hu : okU (sumI (szI sz) ps) := ⟨by wtm_at "la", by wtm_at "la"⟩
        repeat' wtm_at "j"
        rename_i h1 h2 h3 S₈
        have hlog2 := hlog.app h1 h2 h3
        rw [hse, Int.toNat_natCast] at hlog2
        revert S₈ hlog2
        generalize zs ++ _ = zs₂
        intro S₈ hlog2
        refine forK.over (fun i l ob' => ∃ zs, ob' = [(p, .lst zs)] ∧ Log xs zs (11 + 10 * i) (vint (8 * num + 2).toNat ++ vint (ps.flatMap (encI enc)).length ++ (ps.take i).flatMap (encI enc)) ∧ l.lookup (Str.ofString "write") = some (.ref f) ∧ l.lookup (Str.ofString "deterministic") = some (.bool d)) R₇.hh S₈ (by wtm_at "mem") hps ⟨zs₂, rfl, hlog2.eq (by simp), by wtm_at "lk", by wtm_at "lk"⟩ ?_ ?_
        · rintro it i v pv l ob h hp hpv ⟨zs, rfl, hlog, hr1, hr2⟩ hit S
          have hok := hall pv (List.mem_of_getElem? hp)
          have hi := (List.getElem?_eq_some_iff.mp hp).1
          have hlog' := hlog.len
          cases pv with
          | i z =>
            obtain ⟨tz, rfl⟩ := hpv
            have hz : ok z := hok
            repeat' wtm_at "j"
            rename_i h1 h2 h3 S₈
            exact ⟨rfl, _, _, ⟨_, rfl, ((hlog.app h1 h2 h3).le (by wtm_at "la")).eq (by rw [flatMap_take hp, List.append_assoc (_ ++ _)]; rfl), by wtm_at "lk", by wtm_at "lk"⟩, S₈⟩
          | _ => exact hok.elim
        · rintro l ob h ⟨zs, rfl, hlog, hr1, hr2⟩ S
          rw [List.take_length] at hlog
          repeat' wtm_at "j"
          exact q _ _ (Wrote.log S (hlog.le (by wtm_at "la")))
end

section
variable {prog : Program} {w : World} {A : Around} {E : Value → Heap → Prop} {h h₀ : Heap} {b : Bs} {v : Value} {Q : Value → Heap → Prop} {z y : Int} {t u : Tok} {a a' : Addr}
theorem s_ModifiedEncoder {a'' : Addr} {wt : Int} {tw : Tok} {ok oke oks : Int → Prop} {enc : Int → List UInt8} {sz md : Int → Int} (H : Hyp b) (O : Ok b h) (R : Room 7 A) (w0 : 0 ≤ wt) (w1 : wt ≤ 5) (FE : EncV b a oke enc) (FS : FnI b a' oks sz) (FM : FnM b a'' ok md) (hm1 : ∀ z, ok z → oke (md z)) (hm2 : ∀ z, ok z → oks (md z)) (hsz : ∀ z, ok z → sz (md z) = ((enc (md z)).length : Int))
    (q : ∀ g h', Ext b.B [] h h' → EncMk b h' g wt (encI fun z => enc (md z)) (okI ok) → Q (.ref g) h') :
    W prog w A (PySem.call (.ref (b.fa "_ModifiedEncoder")) [.int wt tw, .ref a, .ref a', .ref a'']) Q E h := by
  have Fm := H.mkr 57 (by decide)
  refine W.mkr1 H O Fm R [("wire_type", .int wt tw), ("encode_value", .ref a), ("compute_value_size", .ref a'), ("modify_value", .ref a'')] (fun _ _ _ _ _ _ _ => by rfl) ?_
  intro L h₁ A'
  refine elimCO ?_
  intro c P R' C S
  dsimp only [cf0, cfc, cfl, cff, cfg, co0, coc, col, cof, cog, List.nil_append, List.cons_append] at S ⊢
  repeat' wtm_at "j"
  rename_i S₁ f c' P' h₂ S₂ C₂
  refine q f h₂ S₂.ext ⟨C₂.fnat, ?_⟩
  intro prog w A h₃ Q E num t m x₃ O₃ R₃ h0 h1 q
  refine W.closS H S₂ x₃ C₂ O₃ R₃ [] (fun _ h => nomatch h) [("field_number", .int num t), ("is_repeated", .bool m.r), ("is_packed", .bool m.p)] (fun _ _ _ _ _ _ _ => by rfl) ?_
  clear S₁ S₂ C S
  intro L₄ h₄ A₄
  refine elimCO ?_
  intro R₄ C₃ S₄
  dsimp only [cf0, cfc, cfl, cff, cfg, co0, coc, col, cof, cog, List.nil_append, List.cons_append] at S₄ ⊢
  cases m <;> dsimp only [Mode.r, Mode.p]
  · repeat' wtm_at "j"
    rename_i S₅ f₅ c₅ P₅ h₅ S₆ C₅
    refine q f₅ h₅ S₆.ext ⟨C₅.fnat, ?_⟩
    intro prog w A h₆ f p xs arg v d Q E x₆ O₆ R₆ hw hp hx hv hne hfit hall q
    cases arg with
    | many _ => exact hfit.elim
    | one pv =>
      cases pv with
      | i z =>
        obtain ⟨tz, rfl⟩ := hv
        refine W.closW H S₆ rfl x₆ C₅ O₆ R₆ hw hp [] (fun _ h => nomatch h) [("write", .ref f), ("value", .int z tz), ("deterministic", .bool d)] (fun _ dV _ _ _ _ _ _ _ D => by have e : dV = Value.none := D; subst e; exact BindsTo.of_eq rfl) ?_
        clear S₅ S₆ S₄
        have hz : ok z := hall
        have hz1 := hm1 z hz
        have hz2 := hm2 z hz
        intro L₇ h₇ A₇
        refine elimCO ?_
        intro R₇ S₇
        dsimp only [cf0, cfc, cfl, cff, cfg, co0, coc, col, cof, cog, List.nil_append, List.cons_append] at S₇ ⊢
        try generalize qualnameIn _ _ _ = qn
        repeat' wtm_at "j"
        rename_i h1 h2 h3 S₈
        exact q _ _ (Wrote.log S₈ (((Log.nil.snoc).app h1 h2 h3).le (by wtm_at "la")))
      | _ => exact hall.elim
  · repeat' wtm_at "j"
    rename_i S₅ f₅ c₅ P₅ h₅ S₆ C₅
    refine q f₅ h₅ S₆.ext ⟨C₅.fnat, ?_⟩
    intro prog w A h₆ f p xs arg v d Q E x₆ O₆ R₆ hw hp hx hv hne hfit hall q
    cases arg with
    | one _ => exact hfit.elim
    | many ps =>
      obtain ⟨al, vs, rfl, hl, hps, hlen⟩ := hv
      refine W.closW H S₆ rfl x₆ C₅ O₆ R₆ hw hp [(al, .lst vs)] (fun y hy => by rw [List.mem_singleton] at hy; subst hy; exact ⟨hl, hne _ rfl⟩) [("write", .ref f), ("value", .ref al), ("deterministic", .bool d)] (fun _ dV _ _ _ _ _ _ _ D => by have e : dV = Value.none := D; subst e; exact BindsTo.of_eq rfl) ?_
      clear S₅ S₆ S₄
      intro L₇ h₇ A₇
      refine elimCO ?_
      intro R₇ S₇
      dsimp only [cf0, cfc, cfl, cff, cfg, co0, coc, col, cof, cog, List.nil_append, List.cons_append] at S₇ ⊢
      try generalize qualnameIn _ _ _ = qn
      repeat' wtm_at "j"
      refine forK.over (fun i l ob' => ∃ zs, ob' = [(p, .lst zs)] ∧ Log xs zs (11 * i) ((ps.take i).flatMap fun p => vint (8 * num + wt).toNat ++ encI (fun z => enc (md z)) p) ∧ l.lookup (Str.ofString "write") = some (.ref f) ∧ l.lookup (Str.ofString "deterministic") = some (.bool d)) R₇.hh (by assumption) (by wtm_at "mem") hps ⟨xs, rfl, .nil, by wtm_at "lk", by wtm_at "lk"⟩ ?_ ?_
      · rintro it i v pv l ob h hp hpv ⟨zs, rfl, hlog, hr1, hr2⟩ hit S
        have hok := hall pv (List.mem_of_getElem? hp)
        have hi := (List.getElem?_eq_some_iff.mp hp).1
        have hlog' := hlog.len
        cases pv with
        | i z =>
          obtain ⟨tz, rfl⟩ := hpv
          have hz : ok z := hok
          have hz1 := hm1 z hz
          have hz2 := hm2 z hz
          repeat' wtm_at "j"
          rename_i h1 h2 h3 S₈
          exact ⟨rfl, _, _, ⟨_, rfl, ((hlog.snoc.app h1 h2 h3).le (by wtm_at "la")).eq (by rw [flatMap_take hp, List.append_assoc]; rfl), by wtm_at "lk", by wtm_at "lk"⟩, S₈⟩
        | _ => exact hok.elim
      · rintro l ob h ⟨zs, rfl, hlog, hr1, hr2⟩ S
        rw [List.take_length] at hlog
        repeat' wtm_at "j"
        exact q _ _ (Wrote.log S (hlog.le (by wtm_at "la")))
  · repeat' wtm_at "j"
    rename_i S₅ f₅ c₅ P₅ h₅ S₆ C₅
    refine q f₅ h₅ S₆.ext ⟨C₅.fnat, ?_⟩
    intro prog w A h₆ f p xs arg v d Q E x₆ O₆ R₆ hw hp hx hv hne hfit hall q
    cases arg with
    | one _ => exact hfit.elim
    | many ps =>
      obtain ⟨al, vs, rfl, hl, hps, hlen⟩ := hv
      refine W.closW H S₆ rfl x₆ C₅ O₆ R₆ hw hp [(al, .lst vs)] (fun y hy => by rw [List.mem_singleton] at hy; subst hy; exact ⟨hl, hne _ rfl⟩) [("write", .ref f), ("value", .ref al), ("deterministic", .bool d)] (fun _ dV _ _ _ _ _ _ _ D => by have e : dV = Value.none := D; subst e; exact BindsTo.of_eq rfl) ?_
      clear S₅ S₆ S₄
      intro L₇ h₇ A₇
      refine elimCO ?_
      intro R₇ S₇
      dsimp only [cf0, cfc, cfl, cff, cfg, co0, coc, col, cof, cog, List.nil_append, List.cons_append] at S₇ ⊢
      try generalize qualnameIn _ _ _ = qn
      have hse : sumI (szI fun z => sz (md z)) ps = ((ps.flatMap (encI fun z => enc (md z))).length : Int) := by
        rw [len_flat]
        refine sumI_congr fun pv hpv => ?_
        have := hall pv hpv
        cases pv with
        | i z => exact hsz z this
        | _ => exact this.elim
      have hsr := szI_range (sz := fun z => sz (md z)) (ok := ok) (fun z hz => FS.rng _ (hm2 z hz)) hall
      have FV := encV_V H
      repeat' wtm_at "j"
      refine forK.over (fun i l ob' => (∃ zs, ob' = [(p, .lst zs)] ∧ Log xs zs 1 (vint (8 * num + 2).toNat)) ∧ (∃ t, l.lookup (Str.ofString "size") = some (.int (sumI (szI fun z => sz (md z)) (ps.take i)) t)) ∧ l.lookup (Str.ofString "write") = some (.ref f) ∧ l.lookup (Str.ofString "deterministic") = some (.bool d) ∧ l.lookup (Str.ofString "value") = some (.ref al)) R₇.hh (by assumption) (by wtm_at "mem") hps ⟨⟨_, rfl, Log.nil.snoc⟩, ⟨_, lk0⟩, by wtm_at "lk", by wtm_at "lk", by wtm_at "lk"⟩ ?_ ?_
      · rintro it i v pv l ob h hp hpv ⟨⟨zs, rfl, hlog⟩, ⟨ts, hr0⟩, hr1, hr2, hr3⟩ hit S
        have hok := hall pv (List.mem_of_getElem? hp)
        cases pv with
        | i z =>
          obtain ⟨tz, rfl⟩ := hpv
          have hz : ok z := hok
          have hz1 := hm1 z hz
          have hz2 := hm2 z hz
          repeat' wtm_at "j"
          rename_i S₉
          refine ⟨rfl, _, _, ⟨⟨zs, rfl, hlog⟩, ?_, ?_, ?_, ?_⟩, S₉⟩
          · rw [sumI_take _ hp]; exact ⟨_, lk0⟩
          · wtm_at "lk"
          · wtm_at "lk"
          · wtm_at "lk"
        | _ => exact hok.elim
      · rintro l ob h ⟨⟨zs, rfl, hlog⟩, ⟨ts, hr0⟩, hr1, hr2, hr3⟩ S
        rw [List.take_length] at hr0
        have hlog' := hlog.len
        have hu : okU (sumI (szI fun z => sz (md z)) ps) := ⟨by wtm_at "la", by wtm_at "la"⟩
        repeat' wtm_at "j"
        rename_i h1 h2 h3 S₈
        have hlog2 := hlog.app h1 h2 h3
        rw [hse, Int.toNat_natCast] at hlog2
        revert S₈ hlog2
        generalize zs ++ _ = zs₂
        intro S₈ hlog2
        refine forK.over (fun i l ob' => ∃ zs, ob' = [(p, .lst zs)] ∧ Log xs zs (11 + 10 * i) (vint (8 * num + 2).toNat ++ vint (ps.flatMap (encI fun z => enc (md z))).length ++ (ps.take i).flatMap (encI fun z => enc (md z))) ∧ l.lookup (Str.ofString "write") = some (.ref f) ∧ l.lookup (Str.ofString "deterministic") = some (.bool d)) R₇.hh S₈ (by wtm_at "mem") hps ⟨zs₂, rfl, hlog2.eq (by simp), by wtm_at "lk", by wtm_at "lk"⟩ ?_ ?_
        · rintro it i v pv l ob h hp hpv ⟨zs, rfl, hlog, hr1, hr2⟩ hit S
          have hok := hall pv (List.mem_of_getElem? hp)
          have hi := (List.getElem?_eq_some_iff.mp hp).1
          have hlog' := hlog.len
          cases pv with
          | i z =>
            obtain ⟨tz, rfl⟩ := hpv
            have hz : ok z := hok
            have hz1 := hm1 z hz
            have hz2 := hm2 z hz
            repeat' wtm_at "j"
            rename_i h1 h2 h3 S₈
            exact ⟨rfl, _, _, ⟨_, rfl, ((hlog.app h1 h2 h3).le (by wtm_at "la")).eq (by rw [flatMap_take hp, List.append_assoc (_ ++ _)]; rfl), by wtm_at "lk", by wtm_at "lk"⟩, S₈⟩
          | _ => exact hok.elim
        · rintro l ob h ⟨zs, rfl, hlog, hr1, hr2⟩ S
          rw [List.take_length] at hlog
          repeat' wtm_at "j"
          exact q _ _ (Wrote.log S (hlog.le (by wtm_at "la")))
end

section
variable {prog : Program} {w : World} {A : Around} {E : Value → Heap → Prop} {h h₀ : Heap} {b : Bs} {v : Value} {Q : Value → Heap → Prop} {z y : Int} {t u : Tok} {a a' : Addr}
noncomputable def encS : PV → List UInt8
  | .s x => vint (u8 x).length ++ u8 x
  | _ => []
noncomputable def encY : PV → List UInt8
  | .y x => vint x.length ++ x
  | _ => []
theorem s_StringEncoder {num : Int} {m : Mode} (H : Hyp b) (O : Ok b h) (R : Room 6 A) (h0 : 0 ≤ num) (h1 : num < 2 ^ 29) (hm : m ≠ .pack) (q : ∀ g h', Ext b.B [] h h' → EncOk b h' g num 2 m encS okS → Q (.ref g) h') :
    W prog w A (PySem.call (.ref (b.fa "StringEncoder")) [.int num t, .bool m.r, .bool m.p]) Q E h := by
  have Fm := H.mkr 71 (by decide)
  have FV := encV_V H
  refine W.mkr1 H O Fm R [("field_number", .int num t), ("is_repeated", .bool m.r), ("is_packed", .bool m.p)] (fun _ _ _ _ _ _ _ => by rfl) ?_
  intro L₄ h₄ A₄
  refine elimCO ?_
  intro c P R₄ C₃ S₄
  dsimp only [cf0, cfc, cfl, cff, cfg, co0, coc, col, cof, cog, List.nil_append, List.cons_append] at S₄ ⊢
  cases m <;> dsimp only [Mode.r, Mode.p]
  · repeat' wtm_at "j"
    refine ⟨rfl, ?_⟩
    repeat' wtm_at "j"
    rename_i S₅ f₅ c₅ P₅ h₅ S₆ C₅
    refine q f₅ h₅ S₆.ext ⟨C₅.fnat, ?_⟩
    intro prog w A h₆ f p xs arg v d Q E x₆ O₆ R₆ hw hp hx hv hne hfit hall q
    cases arg with
    | many _ => exact hfit.elim
    | one pv =>
      cases pv with
      | s x =>
        obtain ⟨tz, rfl⟩ := hv
        refine W.closW H S₆ rfl x₆ C₅ O₆ R₆ hw hp [] (fun _ h => nomatch h) [("write", .ref f), ("value", .str x tz), ("deterministic", .bool d)] (fun _ dV _ _ _ _ _ _ _ D => by have e : dV = Value.none := D; subst e; exact BindsTo.of_eq rfl) ?_
        clear S₅ S₆ S₄
        have hok : okS (.s x) := hall
        have hu := u8_le hok.2
        have hu' : okU ((u8 x).length : Int) := ⟨by wtm_at "la", by wtm_at "la"⟩
        intro L₇ h₇ A₇
        refine elimCO ?_
        intro R₇ S₇
        dsimp only [cf0, cfc, cfl, cff, cfg, co0, coc, col, cof, cog, List.nil_append, List.cons_append] at S₇ ⊢
        try generalize qualnameIn _ _ _ = qn
        repeat' wtm_at "j"
        rename_i g1 g2 g3 _ _ S₈
        rw [Int.toNat_natCast] at g2
        exact q _ _ (Wrote.log S₈ ((((Log.nil.snoc).app g1 g2 g3).snoc.le (by wtm_at "la")).eq (List.append_assoc _ _ _)))
      | _ => exact hall.elim
  · repeat' wtm_at "j"
    refine ⟨rfl, ?_⟩
    repeat' wtm_at "j"
    rename_i S₅ f₅ c₅ P₅ h₅ S₆ C₅
    refine q f₅ h₅ S₆.ext ⟨C₅.fnat, ?_⟩
    intro prog w A h₆ f p xs arg v d Q E x₆ O₆ R₆ hw hp hx hv hne hfit hall q
    cases arg with
    | one _ => exact hfit.elim
    | many ps =>
      obtain ⟨al, vs, rfl, hl, hps, hlen⟩ := hv
      refine W.closW H S₆ rfl x₆ C₅ O₆ R₆ hw hp [(al, .lst vs)] (fun y hy => by rw [List.mem_singleton] at hy; subst hy; exact ⟨hl, hne _ rfl⟩) [("write", .ref f), ("value", .ref al), ("deterministic", .bool d)] (fun _ dV _ _ _ _ _ _ _ D => by have e : dV = Value.none := D; subst e; exact BindsTo.of_eq rfl) ?_
      clear S₅ S₆ S₄
      intro L₇ h₇ A₇
      refine elimCO ?_
      intro R₇ S₇
      dsimp only [cf0, cfc, cfl, cff, cfg, co0, coc, col, cof, cog, List.nil_append, List.cons_append] at S₇ ⊢
      try generalize qualnameIn _ _ _ = qn
      repeat' wtm_at "j"
      refine forK.over (fun i l ob' => ∃ zs, ob' = [(p, .lst zs)] ∧ Log xs zs (12 * i) ((ps.take i).flatMap fun p => vint (8 * num + 2).toNat ++ encS p) ∧ l.lookup (Str.ofString "write") = some (.ref f) ∧ l.lookup (Str.ofString "deterministic") = some (.bool d)) R₇.hh (by assumption) (by wtm_at "mem") hps ⟨xs, rfl, .nil, by wtm_at "lk", by wtm_at "lk"⟩ ?_ ?_
      · rintro it i v pv l ob h hp hpv ⟨zs, rfl, hlog, hr1, hr2⟩ hit S
        have hok := hall pv (List.mem_of_getElem? hp)
        have hi := (List.getElem?_eq_some_iff.mp hp).1
        have hlog' := hlog.len
        cases pv with
        | s x =>
          obtain ⟨tz, rfl⟩ := hpv
          have hu := u8_le hok.2
          have hu' : okU ((u8 x).length : Int) := ⟨by wtm_at "la", by wtm_at "la"⟩
          repeat' wtm_at "j"
          rename_i g1 g2 g3 _ _ S₈
          rw [Int.toNat_natCast] at g2
          exact ⟨rfl, _, _, ⟨_, rfl, ((hlog.snoc.app g1 g2 g3).snoc.le (by wtm_at "la")).eq (by rw [flatMap_take hp]; simp only [List.append_assoc]; rfl), by wtm_at "lk", by wtm_at "lk"⟩, S₈⟩
        | _ => exact hok.elim
      · rintro l ob h ⟨zs, rfl, hlog, hr1, hr2⟩ S
        rw [List.take_length] at hlog
        repeat' wtm_at "j"
        exact q _ _ (Wrote.log S (hlog.le (by wtm_at "la")))
  · exact absurd rfl hm
theorem s_BytesEncoder {num : Int} {m : Mode} (H : Hyp b) (O : Ok b h) (R : Room 6 A) (h0 : 0 ≤ num) (h1 : num < 2 ^ 29) (hm : m ≠ .pack) (q : ∀ g h', Ext b.B [] h h' → EncOk b h' g num 2 m encY okY → Q (.ref g) h') :
    W prog w A (PySem.call (.ref (b.fa "BytesEncoder")) [.int num t, .bool m.r, .bool m.p]) Q E h := by
  have Fm := H.mkr 72 (by decide)
  have FV := encV_V H
  refine W.mkr1 H O Fm R [("field_number", .int num t), ("is_repeated", .bool m.r), ("is_packed", .bool m.p)] (fun _ _ _ _ _ _ _ => by rfl) ?_
  intro L₄ h₄ A₄
  refine elimCO ?_
  intro c P R₄ C₃ S₄
  dsimp only [cf0, cfc, cfl, cff, cfg, co0, coc, col, cof, cog, List.nil_append, List.cons_append] at S₄ ⊢
  cases m <;> dsimp only [Mode.r, Mode.p]
  · repeat' wtm_at "j"
    refine ⟨rfl, ?_⟩
    repeat' wtm_at "j"
    rename_i S₅ f₅ c₅ P₅ h₅ S₆ C₅
    refine q f₅ h₅ S₆.ext ⟨C₅.fnat, ?_⟩
    intro prog w A h₆ f p xs arg v d Q E x₆ O₆ R₆ hw hp hx hv hne hfit hall q
    cases arg with
    | many _ => exact hfit.elim
    | one pv =>
      cases pv with
      | y x =>
        obtain ⟨tz, rfl⟩ := hv
        refine W.closW H S₆ rfl x₆ C₅ O₆ R₆ hw hp [] (fun _ h => nomatch h) [("write", .ref f), ("value", .bytes x.toArray tz), ("deterministic", .bool d)] (fun _ dV _ _ _ _ _ _ _ D => by have e : dV = Value.none := D; subst e; exact BindsTo.of_eq rfl) ?_
        clear S₅ S₆ S₄
        have hok : okY (.y x) := hall
        have hu : x.length ≤ 4000 := hok
        have hu' : okU ((x).length : Int) := ⟨by wtm_at "la", by wtm_at "la"⟩
        intro L₇ h₇ A₇
        refine elimCO ?_
        intro R₇ S₇
        dsimp only [cf0, cfc, cfl, cff, cfg, co0, coc, col, cof, cog, List.nil_append, List.cons_append] at S₇ ⊢
        try generalize qualnameIn _ _ _ = qn
        repeat' wtm_at "j"
        rename_i g1 g2 g3 _ _ S₈
        rw [Int.toNat_natCast] at g2
        exact q _ _ (Wrote.log S₈ ((((Log.nil.snoc).app g1 g2 g3).snoc.le (by wtm_at "la")).eq (List.append_assoc _ _ _)))
      | _ => exact hall.elim
  · repeat' wtm_at "j"
    refine ⟨rfl, ?_⟩
    repeat' wtm_at "j"
    rename_i S₅ f₅ c₅ P₅ h₅ S₆ C₅
    refine q f₅ h₅ S₆.ext ⟨C₅.fnat, ?_⟩
    intro prog w A h₆ f p xs arg v d Q E x₆ O₆ R₆ hw hp hx hv hne hfit hall q
    cases arg with
    | one _ => exact hfit.elim
    | many ps =>
      obtain ⟨al, vs, rfl, hl, hps, hlen⟩ := hv
      refine W.closW H S₆ rfl x₆ C₅ O₆ R₆ hw hp [(al, .lst vs)] (fun y hy => by rw [List.mem_singleton] at hy; subst hy; exact ⟨hl, hne _ rfl⟩) [("write", .ref f), ("value", .ref al), ("deterministic", .bool d)] (fun _ dV _ _ _ _ _ _ _ D => by have e : dV = Value.none := D; subst e; exact BindsTo.of_eq rfl) ?_
      clear S₅ S₆ S₄
      intro L₇ h₇ A₇
      refine elimCO ?_
      intro R₇ S₇
      dsimp only [cf0, cfc, cfl, cff, cfg, co0, coc, col, cof, cog, List.nil_append, List.cons_append] at S₇ ⊢
      try generalize qualnameIn _ _ _ = qn
      repeat' wtm_at "j"
      refine forK.over (fun i l ob' => ∃ zs, ob' = [(p, .lst zs)] ∧ Log xs zs (12 * i) ((ps.take i).flatMap fun p => vint (8 * num + 2).toNat ++ encY p) ∧ l.lookup (Str.ofString "write") = some (.ref f) ∧ l.lookup (Str.ofString "deterministic") = some (.bool d)) R₇.hh (by assumption) (by wtm_at "mem") hps ⟨xs, rfl, .nil, by wtm_at "lk", by wtm_at "lk"⟩ ?_ ?_
      · rintro it i v pv l ob h hp hpv ⟨zs, rfl, hlog, hr1, hr2⟩ hit S
        have hok := hall pv (List.mem_of_getElem? hp)
        have hi := (List.getElem?_eq_some_iff.mp hp).1
        have hlog' := hlog.len
        cases pv with
        | y x =>
          obtain ⟨tz, rfl⟩ := hpv
          have hu : x.length ≤ 4000 := hok
          have hu' : okU ((x).length : Int) := ⟨by wtm_at "la", by wtm_at "la"⟩
          repeat' wtm_at "j"
          rename_i g1 g2 g3 _ _ S₈
          rw [Int.toNat_natCast] at g2
          exact ⟨rfl, _, _, ⟨_, rfl, ((hlog.snoc.app g1 g2 g3).snoc.le (by wtm_at "la")).eq (by rw [flatMap_take hp]; simp only [List.append_assoc]; rfl), by wtm_at "lk", by wtm_at "lk"⟩, S₈⟩
        | _ => exact hok.elim
      · rintro l ob h ⟨zs, rfl, hlog, hr1, hr2⟩ S
        rw [List.take_length] at hlog
        repeat' wtm_at "j"
        exact q _ _ (Wrote.log S (hlog.le (by wtm_at "la")))
  · exact absurd rfl hm
end

section
variable {prog : Program} {w : World} {A : Around} {E : Value → Heap → Prop} {h h₀ : Heap} {b : Bs} {v : Value} {Q : Value → Heap → Prop} {z y : Int} {t u : Tok} {a a' : Addr}
noncomputable def encB : PV → List UInt8
  | .b true => [1]
  | .b false => [0]
  | _ => []
noncomputable def okB : PV → Prop
  | .b _ => True
  | _ => False
theorem encB_len : ∀ ps : List PV, (∀ p ∈ ps, okB p) → (ps.flatMap encB).length = ps.length
  | [], _ => rfl
  | p :: ps, h => by
    have h1 := h p (.head _)
    cases p with
    | b x => cases x <;> simp [encB, encB_len ps fun q hq => h q (.tail _ hq)]
    | _ => exact h1.elim
theorem St.log2 {X : List Addr} {fz : List (Addr × K)} {L p : Addr} {l : List (Str × Value)} {xs ys : List Value} {y x : List UInt8} {bs : List (List UInt8)} (S : St b h₀ X fz L l [(p, .lst ((xs ++ [.bytes y.toArray t]) ++ ys))] h) (g1 : BytesAre ys bs) (g2 : bs.flatten = x) (g3 : ys.length ≤ 10) : Log xs ((xs ++ [.bytes y.toArray t]) ++ ys) 11 (y ++ x) :=
  ((Log.nil (xs := xs)).snoc (y := y) (t := t)).app g1 g2 g3
theorem s_BoolEncoder {num : Int} {m : Mode} (H : Hyp b) (O : Ok b h) (R : Room 6 A) (h0 : 0 ≤ num) (h1 : num < 2 ^ 29) (q : ∀ g h', Ext b.B [] h h' → EncOk b h' g num 0 m encB okB → Q (.ref g) h') :
    W prog w A (PySem.call (.ref (b.fa "BoolEncoder")) [.int num t, .bool m.r, .bool m.p]) Q E h := by
  have Fm := H.mkr 70 (by decide)
  have FV := encV_V H
  refine W.mkr1 H O Fm R [("field_number", .int num t), ("is_repeated", .bool m.r), ("is_packed", .bool m.p)] (fun _ _ _ _ _ _ _ => by rfl) ?_
  intro L₄ h₄ A₄
  refine elimCO ?_
  intro c P R₄ C₃ S₄
  dsimp only [cf0, cfc, cfl, cff, cfg, co0, coc, col, cof, cog, List.nil_append, List.cons_append] at S₄ ⊢
  cases m <;> dsimp only [Mode.r, Mode.p]
  · repeat' wtm_at "j"
    rename_i S₅ f₅ c₅ P₅ h₅ S₆ C₅
    refine q f₅ h₅ S₆.ext ⟨C₅.fnat, ?_⟩
    intro prog w A h₆ f p xs arg v d Q E x₆ O₆ R₆ hw hp hx hv hne hfit hall q
    cases arg with
    | many _ => exact hfit.elim
    | one pv =>
      cases pv with
      | b x =>
        have hv : v = .bool x := hv
        subst hv
        refine W.closW H S₆ rfl x₆ C₅ O₆ R₆ hw hp [] (fun _ h => nomatch h) [("write", .ref f), ("value", .bool x), ("unused_deterministic", .bool d)] (fun _ dV _ _ _ _ _ _ _ D => by obtain ⟨T, rfl, hT⟩ := D; first | exact BindsTo.of_eq rfl | exact BindsTo.of_defaults rfl hT rfl rfl rfl) ?_
        clear S₅ S₆ S₄
        intro L₇ h₇ A₇
        refine elimCO ?_
        intro R₇ S₇
        dsimp only [cf0, cfc, cfl, cff, cfg, co0, coc, col, cof, cog, List.nil_append, List.cons_append] at S₇ ⊢
        try generalize qualnameIn _ _ _ = qn
        cases x
        · repeat' wtm_at "j"
          rename_i S₈
          exact q _ _ (Wrote.log S₈ (((Log.nil.snoc).snoc.le (by wtm_at "la")).eq rfl))
        · repeat' wtm_at "j"
          rename_i S₈
          exact q _ _ (Wrote.log S₈ (((Log.nil.snoc).snoc.le (by wtm_at "la")).eq rfl))
      | _ => exact hall.elim
  · repeat' wtm_at "j"
    rename_i S₅ f₅ c₅ P₅ h₅ S₆ C₅
    refine q f₅ h₅ S₆.ext ⟨C₅.fnat, ?_⟩
    intro prog w A h₆ f p xs arg v d Q E x₆ O₆ R₆ hw hp hx hv hne hfit hall q
    cases arg with
    | one _ => exact hfit.elim
    | many ps =>
      obtain ⟨al, vs, rfl, hl, hps, hlen⟩ := hv
      refine W.closW H S₆ rfl x₆ C₅ O₆ R₆ hw hp [(al, .lst vs)] (fun y hy => by rw [List.mem_singleton] at hy; subst hy; exact ⟨hl, hne _ rfl⟩) [("write", .ref f), ("value", .ref al), ("unused_deterministic", .bool d)] (fun _ dV _ _ _ _ _ _ _ D => by obtain ⟨T, rfl, hT⟩ := D; first | exact BindsTo.of_eq rfl | exact BindsTo.of_defaults rfl hT rfl rfl rfl) ?_
      clear S₅ S₆ S₄
      intro L₇ h₇ A₇
      refine elimCO ?_
      intro R₇ S₇
      dsimp only [cf0, cfc, cfl, cff, cfg, co0, coc, col, cof, cog, List.nil_append, List.cons_append] at S₇ ⊢
      try generalize qualnameIn _ _ _ = qn
      repeat' wtm_at "j"
      refine forK.over (fun i l ob' => ∃ zs, ob' = [(p, .lst zs)] ∧ Log xs zs (2 * i) ((ps.take i).flatMap fun p => vint (8 * num + 0).toNat ++ encB p) ∧ l.lookup (Str.ofString "write") = some (.ref f)) R₇.hh (by assumption) (by wtm_at "mem") hps ⟨xs, rfl, .nil, by wtm_at "lk"⟩ ?_ ?_
      · rintro it i v pv l ob h hp hpv ⟨zs, rfl, hlog, hr1⟩ hit S
        have hok := hall pv (List.mem_of_getElem? hp)
        have hi := (List.getElem?_eq_some_iff.mp hp).1
        have hlog' := hlog.len
        cases pv with
        | b x =>
          have hpv : v = .bool x := hpv
          subst hpv
          cases x
          · repeat' wtm_at "j"
            rename_i S₈
            exact ⟨rfl, _, _, ⟨_, rfl, ((hlog.snoc.snoc).le (by wtm_at "la")).eq (by rw [flatMap_take hp, List.append_assoc]; rfl), by wtm_at "lk"⟩, S₈⟩
          · repeat' wtm_at "j"
            rename_i S₈
            exact ⟨rfl, _, _, ⟨_, rfl, ((hlog.snoc.snoc).le (by wtm_at "la")).eq (by rw [flatMap_take hp, List.append_assoc]; rfl), by wtm_at "lk"⟩, S₈⟩
        | _ => exact hok.elim
      · rintro l ob h ⟨zs, rfl, hlog, hr1⟩ S
        rw [List.take_length] at hlog
        repeat' wtm_at "j"
        exact q _ _ (Wrote.log S (hlog.le (by wtm_at "la")))
  · repeat' wtm_at "j"
    rename_i S₅ f₅ c₅ P₅ h₅ S₆ C₅
    refine q f₅ h₅ S₆.ext ⟨C₅.fnat, ?_⟩
    intro prog w A h₆ f p xs arg v d Q E x₆ O₆ R₆ hw hp hx hv hne hfit hall q
    cases arg with
    | one _ => exact hfit.elim
    | many ps =>
      obtain ⟨al, vs, rfl, hl, hps, hlen⟩ := hv
      refine W.closW H S₆ rfl x₆ C₅ O₆ R₆ hw hp [(al, .lst vs)] (fun y hy => by rw [List.mem_singleton] at hy; subst hy; exact ⟨hl, hne _ rfl⟩) [("write", .ref f), ("value", .ref al), ("deterministic", .bool d)] (fun _ dV _ _ _ _ _ _ _ D => by have e : dV = Value.none := D; subst e; exact BindsTo.of_eq rfl) ?_
      clear S₅ S₆ S₄
      intro L₇ h₇ A₇
      refine elimCO ?_
      intro R₇ S₇
      dsimp only [cf0, cfc, cfl, cff, cfg, co0, coc, col, cof, cog, List.nil_append, List.cons_append] at S₇ ⊢
      try generalize qualnameIn _ _ _ = qn
      have hxl := hps.length
      have hu : okU (vs.length : Int) := ⟨by wtm_at "la", by wtm_at "la"⟩
      repeat' wtm_at "j"
      rename_i g1 g2 g3 S₈
      have hlog2 := S₈.log2 g1 g2 g3
      rw [Int.toNat_natCast] at hlog2
      revert S₈ hlog2
      generalize (xs ++ _) ++ _ = zs₂
      intro S₈ hlog2
      refine forK.over (fun i l ob' => ∃ zs, ob' = [(p, .lst zs)] ∧ Log xs zs (11 + i) (vint (8 * num + 2).toNat ++ vint (ps.flatMap encB).length ++ (ps.take i).flatMap encB) ∧ l.lookup (Str.ofString "write") = some (.ref f)) R₇.hh S₈ (by wtm_at "mem") hps ⟨zs₂, rfl, hlog2.eq (by rw [encB_len ps hall, hxl]; simp), by wtm_at "lk"⟩ ?_ ?_
      · rintro it i v pv l ob h hp hpv ⟨zs, rfl, hlog, hr1⟩ hit S
        have hok := hall pv (List.mem_of_getElem? hp)
        have hi := (List.getElem?_eq_some_iff.mp hp).1
        have hlog' := hlog.len
        cases pv with
        | b x =>
          have hpv : v = .bool x := hpv
          subst hpv
          cases x
          · repeat' wtm_at "j"
            rename_i S₈
            exact ⟨rfl, _, _, ⟨_, rfl, ((hlog.snoc).le (by wtm_at "la")).eq (by rw [flatMap_take hp, List.append_assoc (_ ++ _)]; rfl), by wtm_at "lk"⟩, S₈⟩
          · repeat' wtm_at "j"
            rename_i S₈
            exact ⟨rfl, _, _, ⟨_, rfl, ((hlog.snoc).le (by wtm_at "la")).eq (by rw [flatMap_take hp, List.append_assoc (_ ++ _)]; rfl), by wtm_at "lk"⟩, S₈⟩
        | _ => exact hok.elim
      · rintro l ob h ⟨zs, rfl, hlog, hr1⟩ S
        rw [List.take_length] at hlog
        repeat' wtm_at "j"
        exact q _ _ (Wrote.log S (hlog.le (by wtm_at "la")))
end

section
variable {prog : Program} {w : World} {A : Around} {E : Value → Heap → Prop} {h h₀ : Heap} {b : Bs} {v : Value} {Q : Value → Heap → Prop} {z y : Int} {t u : Tok} {a a' : Addr}
theorem okZW {z : Int} (h : okZ z) : okW z := ⟨h.1, by have := h.2; wtm_at "la"⟩
theorem s_Int32Encoder {num : Int} {m : Mode} (H : Hyp b) (O : Ok b h) (R : Room 8 A) (h0 : 0 ≤ num) (h1 : num < 2 ^ 29) (q : ∀ g h', Ext b.B [] h h' → EncOk b h' g num 0 m (encI fun z => vint (z % 18446744073709551616).toNat) (okI okZ) → Q (.ref g) h') :
    W prog w A (PySem.call (.ref (b.fa "Int32Encoder")) [.int num t, .bool m.r, .bool m.p]) Q E h := by
  have F := H.fn 59 (by decide)
  refine W.def0 H O F R [("field_number", .int num t), ("is_repeated", .bool m.r), ("is_packed", .bool m.p)] (fun _ _ _ _ _ _ _ => by rfl) ?_
  intro L₄ h₄ A₄ c R₄ S₄
  dsimp only [cf0, cfc, cfl, cff, cfg, co0, coc, col, cof, cog, List.nil_append, List.cons_append] at S₄ ⊢
  repeat' wtm_at "j"
  refine s_SimpleEncoder H (by wtm_at "ok") (R₄.le (by decide)) (by decide) (by decide) (encV_S H) (fni_S H) (fun z hz => okZW hz) (fun z hz => rfl) ?_
  intro g h₅ x₅ mk
  have hf := mk.fnat
  have S₅ := St.ext0 (by assumption) x₅
  repeat' wtm_at "j"
  refine mk.run .refl S₅.ok (R₄.le (by decide)) h0 h1 ?_
  intro g' h₆ x₆ ok₆
  repeat' wtm_at "j"
  exact q _ _ (S₅.ext0 x₆).ext ok₆
theorem s_Int64Encoder {num : Int} {m : Mode} (H : Hyp b) (O : Ok b h) (R : Room 8 A) (h0 : 0 ≤ num) (h1 : num < 2 ^ 29) (q : ∀ g h', Ext b.B [] h h' → EncOk b h' g num 0 m (encI fun z => vint (z % 18446744073709551616).toNat) (okI okZ) → Q (.ref g) h') :
    W prog w A (PySem.call (.ref (b.fa "Int64Encoder")) [.int num t, .bool m.r, .bool m.p]) Q E h := by
  have F := H.fn 60 (by decide)
  refine W.def0 H O F R [("field_number", .int num t), ("is_repeated", .bool m.r), ("is_packed", .bool m.p)] (fun _ _ _ _ _ _ _ => by rfl) ?_
  intro L₄ h₄ A₄ c R₄ S₄
  dsimp only [cf0, cfc, cfl, cff, cfg, co0, coc, col, cof, cog, List.nil_append, List.cons_append] at S₄ ⊢
  repeat' wtm_at "j"
  refine s_SimpleEncoder H (by wtm_at "ok") (R₄.le (by decide)) (by decide) (by decide) (encV_S H) (fni_S H) (fun z hz => okZW hz) (fun z hz => rfl) ?_
  intro g h₅ x₅ mk
  have hf := mk.fnat
  have S₅ := St.ext0 (by assumption) x₅
  repeat' wtm_at "j"
  refine mk.run .refl S₅.ok (R₄.le (by decide)) h0 h1 ?_
  intro g' h₆ x₆ ok₆
  repeat' wtm_at "j"
  exact q _ _ (S₅.ext0 x₆).ext ok₆
theorem s_EnumEncoder {num : Int} {m : Mode} (H : Hyp b) (O : Ok b h) (R : Room 8 A) (h0 : 0 ≤ num) (h1 : num < 2 ^ 29) (q : ∀ g h', Ext b.B [] h h' → EncOk b h' g num 0 m (encI fun z => vint (z % 18446744073709551616).toNat) (okI okZ) → Q (.ref g) h') :
    W prog w A (PySem.call (.ref (b.fa "EnumEncoder")) [.int num t, .bool m.r, .bool m.p]) Q E h := by
  have F := H.fn 61 (by decide)
  refine W.def0 H O F R [("field_number", .int num t), ("is_repeated", .bool m.r), ("is_packed", .bool m.p)] (fun _ _ _ _ _ _ _ => by rfl) ?_
  intro L₄ h₄ A₄ c R₄ S₄
  dsimp only [cf0, cfc, cfl, cff, cfg, co0, coc, col, cof, cog, List.nil_append, List.cons_append] at S₄ ⊢
  repeat' wtm_at "j"
  refine s_SimpleEncoder H (by wtm_at "ok") (R₄.le (by decide)) (by decide) (by decide) (encV_S H) (fni_S H) (fun z hz => okZW hz) (fun z hz => rfl) ?_
  intro g h₅ x₅ mk
  have hf := mk.fnat
  have S₅ := St.ext0 (by assumption) x₅
  repeat' wtm_at "j"
  refine mk.run .refl S₅.ok (R₄.le (by decide)) h0 h1 ?_
  intro g' h₆ x₆ ok₆
  repeat' wtm_at "j"
  exact q _ _ (S₅.ext0 x₆).ext ok₆
theorem s_UInt32Encoder {num : Int} {m : Mode} (H : Hyp b) (O : Ok b h) (R : Room 8 A) (h0 : 0 ≤ num) (h1 : num < 2 ^ 29) (q : ∀ g h', Ext b.B [] h h' → EncOk b h' g num 0 m (encI fun z => vint z.toNat) (okI okU) → Q (.ref g) h') :
    W prog w A (PySem.call (.ref (b.fa "UInt32Encoder")) [.int num t, .bool m.r, .bool m.p]) Q E h := by
  have F := H.fn 62 (by decide)
  refine W.def0 H O F R [("field_number", .int num t), ("is_repeated", .bool m.r), ("is_packed", .bool m.p)] (fun _ _ _ _ _ _ _ => by rfl) ?_
  intro L₄ h₄ A₄ c R₄ S₄
  dsimp only [cf0, cfc, cfl, cff, cfg, co0, coc, col, cof, cog, List.nil_append, List.cons_append] at S₄ ⊢
  repeat' wtm_at "j"
  refine s_SimpleEncoder H (by wtm_at "ok") (R₄.le (by decide)) (by decide) (by decide) (encV_V H) (fni_V H) (fun z hz => hz) (fun z hz => rfl) ?_
  intro g h₅ x₅ mk
  have hf := mk.fnat
  have S₅ := St.ext0 (by assumption) x₅
  repeat' wtm_at "j"
  refine mk.run .refl S₅.ok (R₄.le (by decide)) h0 h1 ?_
  intro g' h₆ x₆ ok₆
  repeat' wtm_at "j"
  exact q _ _ (S₅.ext0 x₆).ext ok₆
theorem s_UInt64Encoder {num : Int} {m : Mode} (H : Hyp b) (O : Ok b h) (R : Room 8 A) (h0 : 0 ≤ num) (h1 : num < 2 ^ 29) (q : ∀ g h', Ext b.B [] h h' → EncOk b h' g num 0 m (encI fun z => vint z.toNat) (okI okU) → Q (.ref g) h') :
    W prog w A (PySem.call (.ref (b.fa "UInt64Encoder")) [.int num t, .bool m.r, .bool m.p]) Q E h := by
  have F := H.fn 63 (by decide)
  refine W.def0 H O F R [("field_number", .int num t), ("is_repeated", .bool m.r), ("is_packed", .bool m.p)] (fun _ _ _ _ _ _ _ => by rfl) ?_
  intro L₄ h₄ A₄ c R₄ S₄
  dsimp only [cf0, cfc, cfl, cff, cfg, co0, coc, col, cof, cog, List.nil_append, List.cons_append] at S₄ ⊢
  repeat' wtm_at "j"
  refine s_SimpleEncoder H (by wtm_at "ok") (R₄.le (by decide)) (by decide) (by decide) (encV_V H) (fni_V H) (fun z hz => hz) (fun z hz => rfl) ?_
  intro g h₅ x₅ mk
  have hf := mk.fnat
  have S₅ := St.ext0 (by assumption) x₅
  repeat' wtm_at "j"
  refine mk.run .refl S₅.ok (R₄.le (by decide)) h0 h1 ?_
  intro g' h₆ x₆ ok₆
  repeat' wtm_at "j"
  exact q _ _ (S₅.ext0 x₆).ext ok₆
theorem s_SInt32Encoder {num : Int} {m : Mode} (H : Hyp b) (O : Ok b h) (R : Room 8 A) (h0 : 0 ≤ num) (h1 : num < 2 ^ 29) (q : ∀ g h', Ext b.B [] h h' → EncOk b h' g num 0 m (encI fun z => vint (zz z).toNat) (okI okZ) → Q (.ref g) h') :
    W prog w A (PySem.call (.ref (b.fa "SInt32Encoder")) [.int num t, .bool m.r, .bool m.p]) Q E h := by
  have F := H.fn 64 (by decide)
  refine W.def0 H O F R [("field_number", .int num t), ("is_repeated", .bool m.r), ("is_packed", .bool m.p)] (fun _ _ _ _ _ _ _ => by rfl) ?_
  intro L₄ h₄ A₄ c R₄ S₄
  dsimp only [cf0, cfc, cfl, cff, cfg, co0, coc, col, cof, cog, List.nil_append, List.cons_append] at S₄ ⊢
  repeat' wtm_at "j"
  refine s_ModifiedEncoder H (by wtm_at "ok") (R₄.le (by decide)) (by decide) (by decide) (encV_V H) (fni_V H) (fnm_Z H) (fun z hz => zz_range hz.1 hz.2) (fun z hz => zz_range hz.1 hz.2) (fun z hz => rfl) ?_
  intro g h₅ x₅ mk
  have hf := mk.fnat
  have S₅ := St.ext0 (by assumption) x₅
  repeat' wtm_at "j"
  refine mk.run .refl S₅.ok (R₄.le (by decide)) h0 h1 ?_
  intro g' h₆ x₆ ok₆
  repeat' wtm_at "j"
  exact q _ _ (S₅.ext0 x₆).ext ok₆
theorem s_SInt64Encoder {num : Int} {m : Mode} (H : Hyp b) (O : Ok b h) (R : Room 8 A) (h0 : 0 ≤ num) (h1 : num < 2 ^ 29) (q : ∀ g h', Ext b.B [] h h' → EncOk b h' g num 0 m (encI fun z => vint (zz z).toNat) (okI okZ) → Q (.ref g) h') :
    W prog w A (PySem.call (.ref (b.fa "SInt64Encoder")) [.int num t, .bool m.r, .bool m.p]) Q E h := by
  have F := H.fn 65 (by decide)
  refine W.def0 H O F R [("field_number", .int num t), ("is_repeated", .bool m.r), ("is_packed", .bool m.p)] (fun _ _ _ _ _ _ _ => by rfl) ?_
  intro L₄ h₄ A₄ c R₄ S₄
  dsimp only [cf0, cfc, cfl, cff, cfg, co0, coc, col, cof, cog, List.nil_append, List.cons_append] at S₄ ⊢
  repeat' wtm_at "j"
  refine s_ModifiedEncoder H (by wtm_at "ok") (R₄.le (by decide)) (by decide) (by decide) (encV_V H) (fni_V H) (fnm_Z H) (fun z hz => zz_range hz.1 hz.2) (fun z hz => zz_range hz.1 hz.2) (fun z hz => rfl) ?_
  intro g h₅ x₅ mk
  have hf := mk.fnat
  have S₅ := St.ext0 (by assumption) x₅
  repeat' wtm_at "j"
  refine mk.run .refl S₅.ok (R₄.le (by decide)) h0 h1 ?_
  intro g' h₆ x₆ ok₆
  repeat' wtm_at "j"
  exact q _ _ (S₅.ext0 x₆).ext ok₆
end

/-! packed numbers -/
theorem iteK.tt' {x : Bool} {p q : Prop} (e : x = true) (y : p) : iteK x p q := e ▸ iteK.tt y
theorem iteK.ff' {x : Bool} {p q : Prop} (e : x = false) (y : q) : iteK x p q := e ▸ iteK.ff y
inductive Fmt | I | i | Q | q
@[reducible] def Fmt.str : Fmt → Str | .I => Str.ofString "<I" | .i => Str.ofString "<i" | .Q => Str.ofString "<Q" | .q => Str.ofString "<q"
@[reducible] def Fmt.size : Fmt → Nat | .I => 4 | .i => 4 | .Q => 8 | .q => 8
@[reducible] def Fmt.lo : Fmt → Int | .I => 0 | .i => -2147483648 | .Q => 0 | .q => -9223372036854775808
@[reducible] def Fmt.hi : Fmt → Int | .I => 4294967296 | .i => 2147483648 | .Q => 18446744073709551616 | .q => 9223372036854775808
noncomputable def okF (F : Fmt) (z : Int) : Prop := F.lo ≤ z ∧ z < F.hi
noncomputable def packed (F : Fmt) (z : Int) : List UInt8 := bl (KTBy.little F.size (z % 256 ^ F.size))
section
variable {prog : Program} {w : World} {A : Around} {E : Value → Heap → Prop} {h h₀ : Heap} {b : Bs} {v : Value} {Q : Value → Heap → Prop} {z y : Int} {t u : Tok} {a a' : Addr}
theorem s_calcsize (F : Fmt) (H : Hyp b) (O : Ok b h) (R : Room 1 A) (q : ∀ t h', Ext b.B [] h h' → Q (.int F.size t) h') :
    W prog w A (PySem.call (.ref (b.fa "_calcsize")) [.str F.str t]) Q E h := by
  have Fn := H.fn 4 (by decide)
  refine W.def0 H O Fn R [("format", .str F.str t)] (fun _ _ _ _ _ _ _ => by rfl) ?_
  intro L h₁ A' cd R' S
  cases F <;> dsimp only [Fmt.str, Fmt.size] at q ⊢
  all_goals repeat' wtm_at "j"
  all_goals exact leafI q (by assumption) rfl
theorem s_calcI (H : Hyp b) (O : Ok b h) (R : Room 1 A) (q : ∀ t h', Ext b.B [] h h' → Q (.int 4 t) h') : W prog w A (PySem.call (.ref (b.fa "_calcsize")) [.str (Str.ofString "<I") t]) Q E h := s_calcsize .I H O R q
theorem s_calci (H : Hyp b) (O : Ok b h) (R : Room 1 A) (q : ∀ t h', Ext b.B [] h h' → Q (.int 4 t) h') : W prog w A (PySem.call (.ref (b.fa "_calcsize")) [.str (Str.ofString "<i") t]) Q E h := s_calcsize .i H O R q
theorem s_calcQ (H : Hyp b) (O : Ok b h) (R : Room 1 A) (q : ∀ t h', Ext b.B [] h h' → Q (.int 8 t) h') : W prog w A (PySem.call (.ref (b.fa "_calcsize")) [.str (Str.ofString "<Q") t]) Q E h := s_calcsize .Q H O R q
theorem s_calcq (H : Hyp b) (O : Ok b h) (R : Room 1 A) (q : ∀ t h', Ext b.B [] h h' → Q (.int 8 t) h') : W prog w A (PySem.call (.ref (b.fa "_calcsize")) [.str (Str.ofString "<q") t]) Q E h := s_calcsize .q H O R q
theorem p32 : (1 : Int) * 2 ^ (8 * 4 : Int).toNat = 4294967296 := rfl
theorem p31 : (1 : Int) * 2 ^ (8 * 4 - 1 : Int).toNat = 2147483648 := rfl
theorem p64 : (1 : Int) * 2 ^ (8 * 8 : Int).toNat = 18446744073709551616 := rfl
theorem p63 : (1 : Int) * 2 ^ (8 * 8 - 1 : Int).toNat = 9223372036854775808 := rfl
theorem W.toL4 {x : Int} (h0 : 0 ≤ x) (h1 : x < 4294967296) {s v : Tok} (q : ∀ t, Q (.bytes (bl (KTBy.little 4 x)).toArray t) h) : W prog w A (PySem.call (.builtin "int.to_bytes") [.int x t, .int 4 s, .str (Str.ofString "little") v]) Q E h :=
  W.toLittle (k := 4) (B := 4294967296) (by decide) (by decide) h0 h1 q
theorem W.toL8 {x : Int} (h0 : 0 ≤ x) (h1 : x < 18446744073709551616) {s v : Tok} (q : ∀ t, Q (.bytes (bl (KTBy.little 8 x)).toArray t) h) : W prog w A (PySem.call (.builtin "int.to_bytes") [.int x t, .int 8 s, .str (Str.ofString "little") v]) Q E h :=
  W.toLittle (k := 8) (B := 18446744073709551616) (by decide) (by decide) h0 h1 q
theorem mask4 (z : Int) : Builtin.bitAnd z (1 * 2 ^ (8 * 4 : Int).toNat - 1) = z % 256 ^ 4 := kbt_mask z 32
theorem mask8 (z : Int) : Builtin.bitAnd z (1 * 2 ^ (8 * 8 : Int).toNat - 1) = z % 256 ^ 8 := kbt_mask z 64
theorem s_pack (F : Fmt) (H : Hyp b) (O : Ok b h) (R : Room 2 A) (hk : okF F z) (q : ∀ t h', Ext b.B [] h h' → Q (.bytes (packed F z).toArray t) h') :
    W prog w A (PySem.call (.ref (b.fa "_pack")) [.str F.str t, .int z u]) Q E h := by
  have Fn := H.fn 5 (by decide)
  refine W.def0 H O Fn R [("format", .str F.str t), ("value", .int z u)] (fun _ _ _ _ _ _ _ => by rfl) ?_
  intro L h₁ A' cd R' S
  obtain ⟨hk1, hk2⟩ := hk
  cases F <;> dsimp only [Fmt.str, Fmt.size, Fmt.lo, Fmt.hi] at q hk1 hk2 ⊢
  all_goals repeat' wtm_at "j"
  all_goals first
    | (exfalso; simp only [p32, p31, p64, p63] at *; wtm_at "la")
    | (rw [mask4]; refine W.toL4 (by wtm_at "la") (by wtm_at "la") ?_; intro _; repeat' wtm_at "j"; exact q _ _ (St.ext (by assumption)))
    | (rw [mask8]; refine W.toL8 (by wtm_at "la") (by wtm_at "la") ?_; intro _; repeat' wtm_at "j"; exact q _ _ (St.ext (by assumption)))
end

/-! raising -/
theorem TabOk.hard {B h h' : Heap} {P : Addr} (x : TabOk B h P) (k : ∀ a o, h.get? a = some o → ¬ Soft o → h'.get? a = some o) : TabOk B h' P := by
  induction x with
  | @mk P ps cf pf hg hB ht he hs ih =>
    refine .mk ps cf pf (k _ _ hg soft_tab) hB ht (fun pos v e => ?_) (fun pos v e => ih pos v e)
    obtain ⟨e1, e2, e3⟩ := he pos v e
    exact ⟨e1, codeRec_at e2 fun o eo => k _ _ eo (soft_code e3 eo), codeHd_at e3 fun o eo => k _ _ eo (soft_code e3 eo)⟩
noncomputable def NsFrames (l : List Env) (h : Heap) : Prop := ∀ env ∈ l, ∀ L, env.frame = some L → ∃ m, h.Ns L m
structure FrOk (b : Bs) (A : Around) (l : List Env) (h : Heap) : Prop where
  st : A.frames = some l
  ff : h.FunFrames b.B l
  ns : NsFrames l h
theorem FrOk.ext {b : Bs} {A : Around} {l : List Env} {X : List Addr} {h h' : Heap} (x : FrOk b A l h) (e : Ext b.B X h h') : FrOk b A l h' :=
  ⟨x.st, e.frames x.ff, fun env he L hL => let ⟨_, n⟩ := x.ns env he L hL; e.dic _ _ n⟩
/-- what a heap in flight has of an older one: G the part that none of the frames' doings turns -/
structure Rel (B : Heap) (X : List Addr) (h G h' : Heap) : Prop where
  keep : ∀ b o, h.get? b = some o → b ∉ X → NotTab o → NoDict o → G.get? b = some o
  nss : ∀ b m, h.Ns b m → b ∉ X → h'.Ns b m
  live : ∀ b o, h.get? b = some o → (∃ o', G.get? b = some o' ∧ (NoFld o → NoFld o')) ∨ ∃ o', h'.get? b = some o' ∧ NoFld o'
  dic : ∀ b m, h.Ns b m → ∃ m', h'.Ns b m'
  tabs : ∀ P, TabOk B h P → TabOk B G P
  base : Sub B h → Sub B G
theorem Rel.slots {B : Heap} {X : List Addr} {h G h' h'' : Heap} (x : Rel B X h G h') (u : h'.UpToSlots h'') : Rel B X h G h'' :=
  ⟨x.keep, fun b m n nx => u.ns (x.nss b m n nx), fun b o e => (x.live b o e).imp id fun ⟨o', e', f⟩ => let ⟨sl, e''⟩ := u b o' e' f; ⟨_, e'', f⟩,
    fun b m n => let ⟨m', n'⟩ := x.dic b m n; ⟨m', u.ns n'⟩, x.tabs, x.base⟩
theorem Rel.up {B : Heap} {X Y : List Addr} {h h₁ G h' : Heap} (e : Ext B X h h₁) (x : Rel B Y h₁ G h') (n : ∀ y ∈ Y, h.get? y = none ∨ y ∈ X) : Rel B X h G h' := by
  refine ⟨fun c o ec nx t d => ?_, fun c m ec nx => ?_, fun c o ec => ?_, fun c m ec => let ⟨_, n'⟩ := e.dic c m ec; x.dic c _ n', fun P q => x.tabs P (e.tabs P q), fun s => x.base (e.base s)⟩
  · refine x.keep c o (e.keep c o ec nx t d) (fun q => ?_) t d
    rcases n c q with z | z
    · rw [ec] at z; cases z
    · exact nx z
  · refine x.nss c m (e.nss c m ec nx) (fun q => ?_)
    rcases n c q with z | z
    · obtain ⟨_, _, _, ec, _⟩ := ec; rw [ec] at z; cases z
    · exact nx z
  · obtain ⟨o', e', f⟩ := e.live c o ec
    rcases x.live c o' e' with ⟨o'', e'', f'⟩ | z
    · exact .inl ⟨o'', e'', fun q => f' (f q)⟩
    · exact .inr z
theorem Rel.ext {B : Heap} {X : List Addr} {h G h' : Heap} (x : Rel B X h G h') (st : G.StaysIn h') : Ext B X h h' :=
  ⟨fun b o e nx t d => st _ _ (x.keep b o e nx t d), x.nss, fun b o e => (x.live b o e).elim (fun ⟨o', e', f⟩ => ⟨o', st _ _ e', f⟩) fun ⟨o', e', f⟩ => ⟨o', e', fun _ => f⟩, x.dic, fun P t => (x.tabs P t).keeps st, fun s b o e => st _ _ (x.base s b o e)⟩
/-- an exception e is under way through the frames l -/
noncomputable def Rz (b : Bs) (X : List Addr) (cls : Value) (h : Heap) (l : List Env) (e : Value) (h' : Heap) : Prop := ∃ x G t, e = .ref x ∧ Heap.FlyingW G l x cls (.ref t) h' ∧ Rel b.B X h G h'
/-- .. or has just been made in the newest of them -/
noncomputable def Thr (b : Bs) (X : List Addr) (cls : Value) (h : Heap) (l : List Env) (e : Value) (h' : Heap) : Prop :=
  Rz b X cls h l e h' ∨ ∃ h₂ x vs, e = .ref x ∧ Ext b.B X h h₂ ∧ h₂.FunFrames b.B l ∧ NsFrames l h₂ ∧ Heap.MadeExcOf h₂ h' x cls vs
theorem Rz.up {b : Bs} {X Y : List Addr} {cls e : Value} {h h₁ h' : Heap} {l : List Env} (x : Ext b.B X h h₁) (r : Rz b Y cls h₁ l e h') (n : ∀ y ∈ Y, h.get? y = none ∨ y ∈ X) : Rz b X cls h l e h' :=
  let ⟨y, G, t, e1, f, rel⟩ := r; ⟨y, G, t, e1, f, rel.up x n⟩
section
variable {prog : Program} {w : World} {A : Around} {E : Value → Heap → Prop} {h h₀ h' : Heap} {b : Bs} {X : List Addr} {fz : List (Addr × K)} {L : Addr} {ls : List (Str × Value)} {l : List Env} {ob : List (Addr × K)}
  {env : Env} {pos : Pos} {v cls : Value} {i n : Nat} {a c P f p : Addr} {t u : Tok} {qn : Str} {params : Arguments} {body : List Stmt} {sc : Scope} {cl : List (Str × Addr)} {vs : List Value} {binds : List (Str × Value)} {cd : Value}
theorem FrOk.push {A' : Around} (x : FrOk b A l h₀) (S : St b h₀ X fz L ls ob h) (hA : A'.frames = some (env :: l)) (hf : env.frame = some L) (hk : env.scope.kind ≠ .module) : FrOk b A' (env :: l) h := by
  have y := x.ext S.ext
  obtain ⟨o, es, ep, e, d, r⟩ := id S.ns
  refine ⟨hA, ⟨hk, ⟨L, o, hf, S.noBL, e, fun vs => by rw [d]; nofun⟩, y.ff⟩, fun env' he L' hL => ?_⟩
  rcases List.mem_cons.mp he with rfl | he
  · rw [hf] at hL; cases hL; exact ⟨_, S.ns⟩
  · exact y.ns env' he L' hL
theorem W.leaveNew {x : Addr} (fr : A.frames = some (env :: l)) (hf : env.frame = some L) (ff : h.FunFrames b.B (env :: l)) (nf : NsFrames (env :: l) h) (mx : Heap.MadeExcOf h h' x cls vs) {Q : Unit → Heap → Prop}
    (q : ∀ h'', Rz b [] cls h l (.ref x) h'' → Q () h'') : W prog w A (leaving env (.ref x)) Q E h' := by
  intro s Q' E' e q' r
  subst e
  have hns : ∀ a, a ∈ (env :: l).filterMap (·.frame) → ∃ m, h.Ns a m := fun a ha => by
    obtain ⟨env', he, hfr⟩ := List.mem_filterMap.mp ha
    exact nf env' he a hfr
  refine wpAny_leaves_madeW (base := hideAll h ((env :: l).filterMap (·.frame))) (h := h) fr hf (fun b o q => of_hideAll _ q) (funFrames_hide ff fun env' he a ha => List.mem_filterMap.mpr ⟨env', he, ha⟩) mx fun h'' t x1 x2 x3 x4 => ?_
  refine q' _ h'' s.toks (q h'' ⟨x, _, t, rfl, x1, ?_⟩)
  refine ⟨fun b o e _ _ nd => hideAll_get _ e fun hm => ?_, fun b m n _ => x4.ns (n.keeps mx.keeps), fun b o e => ?_, fun b m n => ⟨m, x4.ns (n.keeps mx.keeps)⟩, fun P T => T.hard fun a o e ns => hideAll_get _ e fun hm => ?_, fun s b o e => hideAll_get _ (s b o e) fun hm => ?_⟩
  · obtain ⟨m, o', es, ep, e', d, _⟩ := hns _ hm
    rw [e] at e'; cases e'
    exact nd _ _ d
  · by_cases hm : b ∈ (env :: l).filterMap (·.frame)
    · obtain ⟨m, n⟩ := hns _ hm
      obtain ⟨o', es, ep, e', d, _⟩ := x4.ns (n.keeps mx.keeps)
      exact .inr ⟨o', e', fun vs => by rw [d]; nofun⟩
    · exact .inl ⟨o, hideAll_get _ e hm, id⟩
  · obtain ⟨m, o', es, ep, e', d, _⟩ := hns _ hm
    rw [e] at e'; cases e'
    exact ns (.inl fun vs => by rw [d]; nofun)
  · have := (ff.mem hm).1
    rw [e] at this; cases this
theorem W.leaveOn (fr : A.frames = some (env :: l)) (hf : env.frame = some L) (R : Rz b X cls h (env :: l) v h') {Q : Unit → Heap → Prop}
    (q : ∀ h'', Rz b X cls h l v h'' → Q () h'') : W prog w A (leaving env v) Q E h' := by
  intro s Q' E' e q' r
  subst e
  obtain ⟨x, G, t, rfl, hfl, rel⟩ := R
  exact wpAny_leaves_onW fr hf hfl fun h'' x1 x2 => q' _ h'' s.toks (q h'' ⟨x, G, t, rfl, x1, rel.slots x2⟩)
theorem W.leave (fr : A.frames = some (env :: l)) (hf : env.frame = some L) (R : Thr b X cls h (env :: l) v h') {Q : Unit → Heap → Prop}
    (q : ∀ h'', Rz b X cls h l v h'' → Q () h'') : W prog w A (leaving env v) Q E h' := by
  rcases R with R | ⟨h₂, x, vs, rfl, ex, ff, nf, mx⟩
  · exact W.leaveOn fr hf R q
  · exact W.leaveNew fr hf ff nf mx fun h'' r => q h'' (r.up ex fun _ hy => nomatch hy)
/-- a call of a def that may raise -/
theorem W.frameR {dV : Value} {dv : List Value} {ob₀ : List (Addr × K)} {Q : Value → Heap → Prop} (G : Good b) (O : Ok b h) (F : FnO h a qn params body sc cl dV cd) (D : DvIs h dv dV) (R : Room (n + 1) A) (FR : FrOk b A l h)
    (r : ∀ e h', Rz b X cls h l e h' → E e h')
    (hb : ∀ s name kV doc pm an ct, s.heap = h → BindsTo s (fnX name qn params body sc cl dV kV doc pm an cd ct) ⟨vs, []⟩ binds)
    (hxb : ∀ x ∈ X, b.B.get? x = none) (hfz : ∀ p ∈ fz, p.2.at h p.1 ∧ p.1 ∉ X) (hob : ∀ p ∈ ob₀, p.2.at h p.1 ∧ p.1 ∈ X) (hnd : (ob₀.map (·.1)).Nodup)
    (k : ∀ L h₁ A', Room n A' → A'.frames = some (envX qn sc L a cd (cellsFrom (L + 1) sc.names cl) :: l) → St b h X fz L [] (cellObs (L + 1) sc.names ++ ob₀) h₁ → bindK prog w A.in1 (envX qn sc L a cd (cellsFrom (L + 1) sc.names cl)) binds (fun h₂ => Ok b h₂ ∧
      W prog w A' (execs body (envX qn sc L a cd (cellsFrom (L + 1) sc.names cl))) (retK Q) (Thr b X cls h (envX qn sc L a cd (cellsFrom (L + 1) sc.names cl) :: l)) h₂) h₁)
    (hco : sc.isCoroutine = false := by rfl) (hgen : sc.isGenerator = false := by rfl) : W prog w A (PySem.call (.ref a) vs) Q E h :=
  W.call (ob₀ := ob₀) (X := X) (fz := fz) G O F (by have := R.dp; wtm_at "la") hb hxb hfz hob hnd (fun L h₁ S => bindK.mono (fun h₂ y => ⟨y.1, W.mono y.2 (fun _ _ y => y) fun e h' y =>
    W.leave (Around.frames_deeper FR.st) rfl y fun h'' z => r e h'' z⟩) (k L h₁ _ R.deeper (Around.frames_deeper FR.st) S)) hco hgen
theorem W.raise {x : Str} {C : Addr} {newId initId Bn : String} {bm : List Value} {np cpos : Pos} {e₀ : Expr} {rest : List Expr} {Q : Flow → Heap → Prop} (G : Good b) (O : Ok b h) (OC : OwnCls x C bm newId b.mg b.B) (FB : ExcBaseFacts Bn newId initId bm) (hh : A.handled = none)
    (y : W prog w A (spliced (backTo cpos (starEach (e₀ :: rest) env))) (fun vs h₂ => vs.length ≤ sizeLine ∧ Ok b h₂ ∧ ∀ h' e, Heap.MadeExcOf h₂ h' e (.ref C) vs → E (.ref e) h') E h)
    (he : starEach (e₀ :: rest) env = (false, eval e₀ env) :: starEach rest env) (hplain : (backTo cpos (starEach rest env)).any (·.1) = false) (hg : env.globals = mainGlobals)
    (hk : env.scope.kind = .function) (hx : env.kindOf x = some .globalImplicit) (hd : (x == ("__debug__" : Str)) = false) :
    W prog w A (exec (.Raise (some (.Call (.Name x np) (e₀ :: rest) [] cpos)) none pos) env) Q E h := by
  intro s Q' E' e q r
  subst e
  obtain ⟨tl, N, nm, q, bs, hdct, sn, sub, ab, col, dd, k0, k1, k2, k3, k5, mN, hC, hN, hni, T⟩ := (OC.keeps O.sub).obj
  refine wpAny_Raise_call_subT (C := C) (nm := nm) (q := q) (N := N) (bs := bs) (bm := tl) (hdct := hdct) (sn := sn) (sub := sub) (ab := ab) (col := col) (dd := dd) (k0 := k0) (k1 := k1) (k2 := k2) (k3 := k3) (k5 := k5)
    FB (mN := mN) (T.hasType FB.hasBase) hh (by rw [he]; show (false || (backTo cpos (starEach rest env)).any (·.1)) = false; rw [hplain]; rfl) hni
    (Calls.Name_function_global hk hx (Calls.loadGlobal_global (env := env) (hg ▸ G.g.keeps O.sub) OC.bound ⟨rfl, ?_⟩) hd)
  refine wpAny_mono ?_ (fun _ _ x => x) fun _ _ x => x
  rw [he] at y ⊢
  refine Calls.evalArgs_plain (y s _ E' rfl (fun vs h₂ tk z => ?_) fun v h₂ tk z => r v h₂ tk z)
  obtain ⟨z1, z2, z3⟩ := z
  obtain ⟨tl', N', nm', q', bs', hdct', sn', sub', ab', col', dd', k0', k1', k2', k3', k5', mN', hC', hN', hni', T'⟩ := OC.obj
  have up := fun (b' : Addr) (o : Obj) (e : b.B.get? b' = some o) => z2.sub b' o e
  have hC₁ := O.sub _ _ hC'
  rw [hC] at hC₁
  cases hC₁
  have hNN := hN'.keeps O.sub
  have hN₂ : h₂.Ns N mN := by
    obtain ⟨o1, es1, ep1, f1, f2, f3⟩ := hN'
    obtain ⟨o2, es2, ep2, g1, g2, g3⟩ := hN
    rw [O.sub _ _ f1] at g1
    cases g1
    exact ⟨_, es2, ep2, z2.sub _ _ f1, g2, g3⟩
  exact ⟨rfl, z1, z2.sub _ _ hC', hN₂, T'.keeps z2.sub, fun h' e mx => r _ h' tk (z3 h' e mx)⟩
theorem W.tryC {x : Str} {C : Addr} {newId : String} {bm : List Value} {np hpos : Pos} {tb orelse suite : List Stmt} {b₀ : Stmt} {Q : Flow → Heap → Prop} (G : Good b) (O : Ok b h₀) (OC : OwnCls x C bm newId b.mg b.B) (hbase : bm.contains (.type "BaseException") = true)
    (fr : A.frames = some (env :: l)) (hf : env.frame = some L) (hg : env.globals = mainGlobals) (hk : env.scope.kind = .function) (hx : env.kindOf x = some .globalImplicit) (hd : (x == ("__debug__" : Str)) = false)
    (y : W prog w A (execs tb env) (seqK prog w A orelse env Q E) (Rz b X (.ref C) h₀ (env :: l)) h)
    (k : ∀ h₆ A', Ext b.B X h₀ h₆ → W prog w A' (execs (b₀ :: suite) env) Q (fun _ _ => False) h₆) :
    W prog w A (exec (.Try tb [.ExceptHandler (some (.Name x np)) none (b₀ :: suite) hpos] orelse [] pos) env) Q E h := by
  intro s Q' E' e q r
  subst e
  refine wpAny_Try_except (y s _ _ rfl (fun f h' tk z => ?_) fun v h' tk z => ?_)
  · cases f with
    | next => exact (show W prog w A (execs orelse env) Q E h' from z) _ Q' E' rfl (fun v h₂ t₂ z => q v h₂ t₂ z) (fun v h₂ t₂ z => r v h₂ t₂ z)
    | _ => exact q _ _ _ z
  · obtain ⟨e, Gh, t, rfl, hfl, rel⟩ := z
    refine wpAny_looks_onW fr hf hfl fun h₄ hheld₄ hsm₄ => ?_
    refine wpAny_landsW hheld₄ fun h₅ hheld hsm₅ => ?_
    have rel₅ := (rel.slots hsm₄).slots hsm₅
    have O₅ : Ok b h₅ := O.ext (rel₅.ext hheld.1)
    obtain ⟨ob, hob, hobc⟩ := hheld.there
    refine wpAny_handleBy_cons (codeAny_handlers_test (Calls.Name_function_global hk hx (Calls.loadGlobal_global (env := env) (hg ▸ G.g.keeps O₅.sub) OC.bound ?_) hd)) (by intro q; cases q)
    obtain ⟨bm', N, nm, qn, bs, hdct, sn, sub, ab, col, dd, k0, k1, k2, k3, k5, mN, hC, hN, hni, TL⟩ := (OC.keeps O₅.sub).obj
    refine wpAny_excMatches_sub_self hC hob hobc (TL.hasType hbase) (codeAny_handlers_suite ?_)
    refine lands_againW hheld fun h₆ hfl₆ hsm₆ => ?_
    exact k h₆ _ ((rel₅.slots hsm₆).ext hfl₆.1) _ _ _ rfl (fun v h₂ t₂ z => q v h₂ t₂ z) fun _ _ _ z => z.elim
end

section
variable {prog : Program} {w : World} {A : Around} {E : Value → Heap → Prop} {h h₀ hc : Heap} {b : Bs} {v : Value} {Q : Value → Heap → Prop} {z y : Int} {t u : Tok} {a c P p f a' C : Addr} {l : List Env} {newId : String} {n : Nat} {X : List Addr} {fz ob : List (Addr × K)} {ls : List (Str × Value)}
  {params : Arguments} {body : List Stmt} {sc : Scope} {qn : Str} {cl : List (Str × Addr)} {dv vs xs : List Value}
noncomputable abbrev ExcC (b : Bs) (C : Addr) : Prop := OwnCls (Str.ofString "StructError") C [.type "Exception", .type "BaseException", .type "object"] "Exception.__new__" b.mg b.B
theorem W.def0R {cls : Value} (H : Hyp b) (O : Ok b h) (F : ∃ cd, FnO b.B a qn params body sc [] .none cd) (R : Room (n + 1) A) (FR : FrOk b A l h) (r : ∀ e h', Rz b [] cls h l e h' → E e h') (binds : List (Str × Value))
    (hb : ∀ cd name kV doc pm an ct, bindArgs (fnX name qn params body sc [] .none kV doc pm an cd ct) ⟨vs, []⟩ = Pure.pure binds)
    (k : ∀ L h₁ A' cd, Room n A' → A'.frames = some (envX qn sc L a cd (cellsFrom (L + 1) sc.names []) :: l) → St b h [] [] L [] (cellObs (L + 1) sc.names) h₁ → bindK prog w A.in1 (envX qn sc L a cd (cellsFrom (L + 1) sc.names [])) binds (fun h₂ => Ok b h₂ ∧
      W prog w A' (execs body (envX qn sc L a cd (cellsFrom (L + 1) sc.names []))) (retK Q) (Thr b [] cls h (envX qn sc L a cd (cellsFrom (L + 1) sc.names []) :: l)) h₂) h₁)
    (hco : sc.isCoroutine = false := by rfl) (hgen : sc.isGenerator = false := by rfl) : W prog w A (PySem.call (.ref a) vs) Q E h := by
  obtain ⟨cd, F⟩ := F
  refine W.frameR (ob₀ := []) (X := []) (fz := []) (dv := []) H.g O (F.up O) rfl R FR r (fun s name kV doc pm an ct _ => BindsTo.of_eq (hb cd name kV doc pm an ct)) (fun _ h => nomatch h) (fun _ h => nomatch h) (fun _ h => nomatch h) List.nodup_nil (fun L h₁ A' R' hA S => ?_) hco hgen
  rw [List.append_nil] at S
  exact k L h₁ A' cd R' hA S
/-- a call of a closure that writes and may raise -/
theorem W.closWR {cls : Value} {L₀ : Addr} {h' : Heap} (H : Hyp b) (S : St b h₀ [] fz L₀ ls ob hc) (hcl : (ob ++ fz).all (fun q => q.2.isCell) = true) (x : Ext b.B [] hc h') (F : Cl b hc a qn params body sc cl dv c P) (O : Ok b h') (R : Room (n + 1) A) (FR : FrOk b A l h') (r : ∀ e h'', Rz b [p] cls h' l e h'' → E e h'') (hw : WrOk b f p h') (hp : h'.PlainList p xs.toArray)
    (binds : List (Str × Value))
    (hb : ∀ cd dV s name kV doc pm an ct, DvIs s.heap dv dV → BindsTo s (fnX name qn params body sc cl dV kV doc pm an cd ct) ⟨vs, []⟩ binds)
    (k : ∀ L h₁ A' cs os, cellsFrom (L + 1) sc.names cl = cs → cellObs (L + 1) sc.names = os → Room n A' → A'.frames = some (envX qn sc L a (.ref c) cs :: l) → St b h' [p] (ob ++ fz) L [] (os ++ [(p, .lst xs)]) h₁ → bindK prog w A.in1 (envX qn sc L a (.ref c) cs) binds (fun h₂ => Ok b h₂ ∧
      W prog w A' (execs body (envX qn sc L a (.ref c) cs)) (retK Q) (Thr b [p] cls h' (envX qn sc L a (.ref c) cs :: l)) h₂) h₁)
    (hco : sc.isCoroutine = false := by rfl) (hgen : sc.isGenerator = false := by rfl) : W prog w A (PySem.call (.ref a) vs) Q E h' := by
  have F' := F.ext x
  obtain ⟨dV, Fn, D⟩ := F'.fn
  refine W.frameR (ob₀ := [(p, .lst xs)]) (X := [p]) (fz := ob ++ fz) (dv := dv) H.g O Fn D R FR r (fun s name kV doc pm an ct es => hb _ dV s name kV doc pm an ct (es ▸ D)) (fun x hx => by rw [List.mem_singleton] at hx; subst hx; exact hw.nb)
    (fun q hq => ⟨S.all x q hq, ?_⟩) (fun q hq => by rw [List.mem_singleton] at hq; subst hq; exact ⟨hp, .head _⟩) (by simp) (fun L h₁ A' R' hA S => k L h₁ A' _ _ rfl rfl R' hA S) hco hgen
  rw [List.mem_singleton]
  intro e
  have h1 := S.all x q hq
  have h2 := List.all_eq_true.mp hcl q hq
  obtain ⟨qa, qk⟩ := q
  cases qk with
  | cell v =>
    obtain ⟨o, eo, d⟩ := h1
    obtain ⟨np, ep⟩ := hp
    have e : qa = p := e
    subst e
    rw [ep] at eo; cases eo; cases d
  | _ => cases h2
theorem s_packR (F : Fmt) (H : Hyp b) (OC : ExcC b C) (O : Ok b h) (R : Room 2 A) (FR : FrOk b A l h) (hk : ¬ okF F z) (r : ∀ e h', Rz b [] (.ref C) h l e h' → E e h') :
    W prog w A (PySem.call (.ref (b.fa "_pack")) [.str F.str t, .int z u]) Q E h := by
  have Fn := H.fn 5 (by decide)
  refine W.def0R H O Fn R FR r [("format", .str F.str t), ("value", .int z u)] (fun _ _ _ _ _ _ _ => by rfl) ?_
  intro L h₁ A' cd R' hA S
  unfold okF at hk
  cases F <;> dsimp only [Fmt.str, Fmt.size, Fmt.lo, Fmt.hi] at hk ⊢
  all_goals repeat' wtm_at "j"
  all_goals first
    | (exfalso; simp only [p32, p31, p64, p63] at *; wtm_at "la")
    | (refine W.raise H.g (by wtm_at "ok") OC PySem.F.excBase_Exception R'.hh ?_ rfl rfl rfl rfl rfl rfl
       repeat' wtm_at "j"
       have FR' := FrOk.push FR (by assumption) hA rfl (by nofun)
       exact ⟨by rw [sizeLine_eq]; exact Nat.le_of_ble_eq_true rfl, by wtm_at "ok", fun h' e mx => .inr ⟨_, _, _, rfl, St.ext (by assumption), FR'.ff, FR'.ns, mx⟩⟩)
structure EncBad (b : Bs) (h : Heap) (g : Addr) (cls : Value) (bad : Int → Prop) : Prop where
  run : ∀ {prog w A l h' f p} {xs : List Value} {z t d Q E}, Ext b.B [] h h' → Ok b h' → Room 4 A → FrOk b A l h' → WrOk b f p h' → h'.PlainList p xs.toArray → xs.length ≤ 100 → bad z → (∀ e h'', Rz b [p] cls h' l e h'' → E e h'') → W prog w A (PySem.call (.ref g) [.ref f, .int z t, .bool d]) Q E h'
structure EncMkB (b : Bs) (h : Heap) (f : Addr) (wt : Int) (enc : PV → List UInt8) (ok : PV → Prop) (cls : Value) (bad : Int → Prop) : Prop where
  fnat : FnAt f h
  run : ∀ {prog w A h' Q E num t m}, Ext b.B [] h h' → Ok b h' → Room 6 A → 0 ≤ num → num < 2 ^ 29 → (∀ g h'', Ext b.B [] h' h'' → EncOk b h'' g num wt m enc ok → (m = .plain → EncBad b h'' g cls bad) → Q (.ref g) h'') → W prog w A (PySem.call (.ref f) [.int num t, .bool m.r, .bool m.p]) Q E h'
theorem bl_len (ns : List Int) : (bl ns).length = ns.length := by simp [bl]
theorem packed_len (F : Fmt) (z : Int) : (packed F z).length = F.size := by unfold packed; rw [bl_len, KTBy.little_length]
theorem packs_len (F : Fmt) : ∀ ps : List PV, (∀ p ∈ ps, okI (okF F) p) → ((ps.flatMap (encI (packed F))).length : Int) = ps.length * F.size
  | [], _ => by simp
  | p :: ps, h => by
    have h1 := h p (.head _)
    cases p with
    | i x =>
      have := packs_len F ps fun q hq => h q (.tail _ hq)
      simp only [List.flatMap_cons, List.length_append, List.length_cons, Int.natCast_add, this, encI, packed_len, Int.add_mul]
      wtm_at "la"
    | _ => exact h1.elim
theorem Fmt.size_le (F : Fmt) : F.size ≤ 8 := by cases F <;> decide
theorem s_StructPackEncoder (F : Fmt) {wt : Int} {tw : Tok} (H : Hyp b) (OC : ExcC b C) (O : Ok b h) (R : Room 7 A) (w0 : 0 ≤ wt) (w1 : wt ≤ 5)
    (q : ∀ g h', Ext b.B [] h h' → EncMkB b h' g wt (encI (packed F)) (okI (okF F)) (.ref C) (fun z => ¬ okF F z) → Q (.ref g) h') :
    W prog w A (PySem.call (.ref (b.fa "_StructPackEncoder")) [.int wt tw, .str F.str t]) Q E h := by
  have Fm := H.mkr 58 (by decide)
  have hF := F.size_le
  refine W.mkr1 H O Fm R [("wire_type", .int wt tw), ("format", .str F.str t)] (fun _ _ _ _ _ _ _ => by rfl) ?_
  intro L h₁ A'
  refine elimCO ?_
  intro c P R' C' S
  dsimp only [cf0, cfc, cfl, cff, cfg, co0, coc, col, cof, cog, List.nil_append, List.cons_append] at S ⊢
  repeat' wtm_at "j"
  rename_i S₁ f c' P' h₂ S₂ C₂
  refine q f h₂ S₂.ext ⟨C₂.fnat, ?_⟩
  intro prog w A h₃ Q E num t m x₃ O₃ R₃ h0 h1 q
  refine W.closS H S₂ x₃ C₂ O₃ R₃ [] (fun _ h => nomatch h) [("field_number", .int num t), ("is_repeated", .bool m.r), ("is_packed", .bool m.p)] (fun _ _ _ _ _ _ _ => by rfl) ?_
  clear S₁ S₂ C' S
  intro L₄ h₄ A₄
  refine elimCO ?_
  intro R₄ C₃ S₄
  dsimp only [cf0, cfc, cfl, cff, cfg, co0, coc, col, cof, cog, List.nil_append, List.cons_append] at S₄ ⊢
  cases m <;> dsimp only [Mode.r, Mode.p]
  · repeat' wtm_at "j"
    rename_i S₅ f₅ c₅ P₅ h₅ S₆ C₅
    refine q f₅ h₅ S₆.ext ⟨C₅.fnat, ?_⟩ fun _ => ⟨?_⟩
    · intro prog w A h₆ f p xs arg v d Q E x₆ O₆ R₆ hw hp hx hv hne hfit hall q
      cases arg with
      | many _ => exact hfit.elim
      | one pv =>
        cases pv with
        | i z =>
          obtain ⟨tz, rfl⟩ := hv
          refine W.closW H S₆ rfl x₆ C₅ O₆ R₆ hw hp [] (fun _ h => nomatch h) [("write", .ref f), ("value", .int z tz), ("unused_deterministic", .bool d)] (fun _ dV _ _ _ _ _ _ _ D => by obtain ⟨T, rfl, hT⟩ := D; first | exact BindsTo.of_eq rfl | exact BindsTo.of_defaults rfl hT rfl rfl rfl) ?_
          clear S₅ S₆ S₄
          have hz : okF F z := hall
          intro L₇ h₇ A₇
          refine elimCO ?_
          intro R₇ S₇
          dsimp only [cf0, cfc, cfl, cff, cfg, co0, coc, col, cof, cog, List.nil_append, List.cons_append] at S₇ ⊢
          try generalize qualnameIn _ _ _ = qn
          repeat' wtm_at "j"
          rename_i S₈
          exact q _ _ (Wrote.log S₈ (((Log.nil.snoc).snoc).le (by wtm_at "la")))
        | _ => exact hall.elim
    · intro prog w A l h₆ f p xs z tz d Q E x₆ O₆ R₆ FR hw hp hx hbad r
      refine W.closWR H S₆ rfl x₆ C₅ O₆ R₆ FR r hw hp [("write", .ref f), ("value", .int z tz), ("unused_deterministic", .bool d)] (fun _ dV _ _ _ _ _ _ _ D => by obtain ⟨T, rfl, hT⟩ := D; first | exact BindsTo.of_eq rfl | exact BindsTo.of_defaults rfl hT rfl rfl rfl) ?_
      clear S₅ S₆ S₄
      intro L₇ h₇ A₇
      refine elimCO ?_
      intro R₇ hA S₇
      dsimp only [cf0, cfc, cfl, cff, cfg, co0, coc, col, cof, cog, List.nil_append, List.cons_append] at hA S₇ ⊢
      try generalize qualnameIn _ _ _ = qn at hA ⊢
      repeat' wtm_at "j"
      rename_i S₈
      exact s_packR F H OC S₈.ok (R₇.le (by decide)) (FrOk.push FR S₈ hA rfl (by nofun)) hbad fun e h' rz => .inl (rz.up S₈.ext fun _ hy => nomatch hy)
  · repeat' wtm_at "j"
    rename_i S₅ f₅ c₅ P₅ h₅ S₆ C₅
    refine q f₅ h₅ S₆.ext ⟨C₅.fnat, ?_⟩ nofun
    intro prog w A h₆ f p xs arg v d Q E x₆ O₆ R₆ hw hp hx hv hne hfit hall q
    cases arg with
    | one _ => exact hfit.elim
    | many ps =>
      obtain ⟨al, vs, rfl, hl, hps, hlen⟩ := hv
      refine W.closW H S₆ rfl x₆ C₅ O₆ R₆ hw hp [(al, .lst vs)] (fun y hy => by rw [List.mem_singleton] at hy; subst hy; exact ⟨hl, hne _ rfl⟩) [("write", .ref f), ("value", .ref al), ("unused_deterministic", .bool d)] (fun _ dV _ _ _ _ _ _ _ D => by obtain ⟨T, rfl, hT⟩ := D; first | exact BindsTo.of_eq rfl | exact BindsTo.of_defaults rfl hT rfl rfl rfl) ?_
      clear S₅ S₆ S₄
      intro L₇ h₇ A₇
      refine elimCO ?_
      intro R₇ S₇
      dsimp only [cf0, cfc, cfl, cff, cfg, co0, coc, col, cof, cog, List.nil_append, List.cons_append] at S₇ ⊢
      try generalize qualnameIn _ _ _ = qn
      repeat' wtm_at "j"
      refine forK.over (fun i l ob' => ∃ zs, ob' = [(p, .lst zs)] ∧ Log xs zs (2 * i) ((ps.take i).flatMap fun p => vint (8 * num + wt).toNat ++ encI (packed F) p) ∧ l.lookup (Str.ofString "write") = some (.ref f)) R₇.hh (by assumption) (by wtm_at "mem") hps ⟨xs, rfl, .nil, by wtm_at "lk"⟩ ?_ ?_
      · rintro it i v pv l ob h hp hpv ⟨zs, rfl, hlog, hr1⟩ hit S
        have hok := hall pv (List.mem_of_getElem? hp)
        have hi := (List.getElem?_eq_some_iff.mp hp).1
        have hlog' := hlog.len
        cases pv with
        | i z =>
          obtain ⟨tz, rfl⟩ := hpv
          have hz : okF F z := hok
          repeat' wtm_at "j"
          rename_i S₈
          exact ⟨rfl, _, _, ⟨_, rfl, ((hlog.snoc.snoc).le (by wtm_at "la")).eq (by rw [flatMap_take hp, List.append_assoc]; rfl), by wtm_at "lk"⟩, S₈⟩
        | _ => exact hok.elim
      · rintro l ob h ⟨zs, rfl, hlog, hr1⟩ S
        rw [List.take_length] at hlog
        repeat' wtm_at "j"
        exact q _ _ (Wrote.log S (hlog.le (by wtm_at "la")))
  · repeat' wtm_at "j"
    rename_i S₅ f₅ c₅ P₅ h₅ S₆ C₅
    refine q f₅ h₅ S₆.ext ⟨C₅.fnat, ?_⟩ nofun
    intro prog w A h₆ f p xs arg v d Q E x₆ O₆ R₆ hw hp hx hv hne hfit hall q
    cases arg with
    | one _ => exact hfit.elim
    | many ps =>
      obtain ⟨al, vs, rfl, hl, hps, hlen⟩ := hv
      refine W.closW H S₆ rfl x₆ C₅ O₆ R₆ hw hp [(al, .lst vs)] (fun y hy => by rw [List.mem_singleton] at hy; subst hy; exact ⟨hl, hne _ rfl⟩) [("write", .ref f), ("value", .ref al), ("deterministic", .bool d)] (fun _ dV _ _ _ _ _ _ _ D => by have e : dV = Value.none := D; subst e; exact BindsTo.of_eq rfl) ?_
      clear S₅ S₆ S₄
      intro L₇ h₇ A₇
      refine elimCO ?_
      intro R₇ S₇
      dsimp only [cf0, cfc, cfl, cff, cfg, co0, coc, col, cof, cog, List.nil_append, List.cons_append] at S₇ ⊢
      try generalize qualnameIn _ _ _ = qn
      have FV := encV_V H
      have hxl := hps.length
      have hpk := packs_len F ps hall
      have b1 : 0 ≤ (vs.length : Int) * (F.size : Int) ∧ (vs.length : Int) * (F.size : Int) ≤ 40 := by
        have h5 : (vs.length : Int) ≤ 5 := by wtm_at "la"
        have h8 : (F.size : Int) ≤ 8 := by wtm_at "la"
        exact ⟨Int.mul_nonneg (by wtm_at "la") (by wtm_at "la"), Int.le_trans (Int.mul_le_mul h5 h8 (by wtm_at "la") (by wtm_at "la")) (by decide)⟩
      have hu : okU ((vs.length : Int) * (F.size : Int)) := ⟨b1.1, by wtm_at "la"⟩
      repeat' wtm_at "j"
      rename_i g1 g2 g3 S₈
      have hlog2 := S₈.log2 g1 g2 g3
      rw [show (vs.length : Int) * (F.size : Int) = ((ps.flatMap (encI (packed F))).length : Int) by rw [hpk, hxl], Int.toNat_natCast] at hlog2
      revert S₈ hlog2
      generalize (xs ++ _) ++ _ = zs₂
      intro S₈ hlog2
      refine forK.over (fun i l ob' => ∃ zs, ob' = [(p, .lst zs)] ∧ Log xs zs (11 + i) (vint (8 * num + 2).toNat ++ vint (ps.flatMap (encI (packed F))).length ++ (ps.take i).flatMap (encI (packed F))) ∧ l.lookup (Str.ofString "write") = some (.ref f)) R₇.hh S₈ (by wtm_at "mem") hps ⟨zs₂, rfl, hlog2.eq (by simp), by wtm_at "lk"⟩ ?_ ?_
      · rintro it i v pv l ob h hp hpv ⟨zs, rfl, hlog, hr1⟩ hit S
        have hok := hall pv (List.mem_of_getElem? hp)
        have hi := (List.getElem?_eq_some_iff.mp hp).1
        have hlog' := hlog.len
        cases pv with
        | i z =>
          obtain ⟨tz, rfl⟩ := hpv
          have hz : okF F z := hok
          repeat' wtm_at "j"
          rename_i S₈
          exact ⟨rfl, _, _, ⟨_, rfl, ((hlog.snoc).le (by wtm_at "la")).eq (by rw [flatMap_take hp, List.append_assoc (_ ++ _)]; rfl), by wtm_at "lk"⟩, S₈⟩
        | _ => exact hok.elim
      · rintro l ob h ⟨zs, rfl, hlog, hr1⟩ S
        rw [List.take_length] at hlog
        repeat' wtm_at "j"
        exact q _ _ (Wrote.log S (hlog.le (by wtm_at "la")))
end

section
variable {prog : Program} {w : World} {A : Around} {E : Value → Heap → Prop} {h h₀ : Heap} {b : Bs} {v : Value} {Q : Value → Heap → Prop} {z y : Int} {t u : Tok} {a a' C : Addr} {l : List Env}
theorem s_Fixed32Encoder {num : Int} {m : Mode} (H : Hyp b) (OC : ExcC b C) (O : Ok b h) (R : Room 8 A) (h0 : 0 ≤ num) (h1 : num < 2 ^ 29) (q : ∀ g h', Ext b.B [] h h' → EncOk b h' g num 5 m (encI (packed .I)) (okI (okF .I)) → (m = .plain → EncBad b h' g (.ref C) (fun z => ¬ okF .I z)) → Q (.ref g) h') :
    W prog w A (PySem.call (.ref (b.fa "Fixed32Encoder")) [.int num t, .bool m.r, .bool m.p]) Q E h := by
  have F := H.fn 66 (by decide)
  refine W.def0 H O F R [("field_number", .int num t), ("is_repeated", .bool m.r), ("is_packed", .bool m.p)] (fun _ _ _ _ _ _ _ => by rfl) ?_
  intro L₄ h₄ A₄ c R₄ S₄
  dsimp only [cf0, cfc, cfl, cff, cfg, co0, coc, col, cof, cog, List.nil_append, List.cons_append] at S₄ ⊢
  repeat' wtm_at "j"
  refine s_StructPackEncoder .I H OC (by wtm_at "ok") (R₄.le (by decide)) (by decide) (by decide) ?_
  intro g h₅ x₅ mk
  have hf := mk.fnat
  have S₅ := St.ext0 (by assumption) x₅
  repeat' wtm_at "j"
  refine mk.run .refl S₅.ok (R₄.le (by decide)) h0 h1 ?_
  intro g' h₆ x₆ ok₆ bad₆
  repeat' wtm_at "j"
  exact q _ _ (S₅.ext0 x₆).ext ok₆ bad₆
theorem s_Fixed64Encoder {num : Int} {m : Mode} (H : Hyp b) (OC : ExcC b C) (O : Ok b h) (R : Room 8 A) (h0 : 0 ≤ num) (h1 : num < 2 ^ 29) (q : ∀ g h', Ext b.B [] h h' → EncOk b h' g num 1 m (encI (packed .Q)) (okI (okF .Q)) → (m = .plain → EncBad b h' g (.ref C) (fun z => ¬ okF .Q z)) → Q (.ref g) h') :
    W prog w A (PySem.call (.ref (b.fa "Fixed64Encoder")) [.int num t, .bool m.r, .bool m.p]) Q E h := by
  have F := H.fn 67 (by decide)
  refine W.def0 H O F R [("field_number", .int num t), ("is_repeated", .bool m.r), ("is_packed", .bool m.p)] (fun _ _ _ _ _ _ _ => by rfl) ?_
  intro L₄ h₄ A₄ c R₄ S₄
  dsimp only [cf0, cfc, cfl, cff, cfg, co0, coc, col, cof, cog, List.nil_append, List.cons_append] at S₄ ⊢
  repeat' wtm_at "j"
  refine s_StructPackEncoder .Q H OC (by wtm_at "ok") (R₄.le (by decide)) (by decide) (by decide) ?_
  intro g h₅ x₅ mk
  have hf := mk.fnat
  have S₅ := St.ext0 (by assumption) x₅
  repeat' wtm_at "j"
  refine mk.run .refl S₅.ok (R₄.le (by decide)) h0 h1 ?_
  intro g' h₆ x₆ ok₆ bad₆
  repeat' wtm_at "j"
  exact q _ _ (S₅.ext0 x₆).ext ok₆ bad₆
theorem s_SFixed32Encoder {num : Int} {m : Mode} (H : Hyp b) (OC : ExcC b C) (O : Ok b h) (R : Room 8 A) (h0 : 0 ≤ num) (h1 : num < 2 ^ 29) (q : ∀ g h', Ext b.B [] h h' → EncOk b h' g num 5 m (encI (packed .i)) (okI (okF .i)) → (m = .plain → EncBad b h' g (.ref C) (fun z => ¬ okF .i z)) → Q (.ref g) h') :
    W prog w A (PySem.call (.ref (b.fa "SFixed32Encoder")) [.int num t, .bool m.r, .bool m.p]) Q E h := by
  have F := H.fn 68 (by decide)
  refine W.def0 H O F R [("field_number", .int num t), ("is_repeated", .bool m.r), ("is_packed", .bool m.p)] (fun _ _ _ _ _ _ _ => by rfl) ?_
  intro L₄ h₄ A₄ c R₄ S₄
  dsimp only [cf0, cfc, cfl, cff, cfg, co0, coc, col, cof, cog, List.nil_append, List.cons_append] at S₄ ⊢
  repeat' wtm_at "j"
  refine s_StructPackEncoder .i H OC (by wtm_at "ok") (R₄.le (by decide)) (by decide) (by decide) ?_
  intro g h₅ x₅ mk
  have hf := mk.fnat
  have S₅ := St.ext0 (by assumption) x₅
  repeat' wtm_at "j"
  refine mk.run .refl S₅.ok (R₄.le (by decide)) h0 h1 ?_
  intro g' h₆ x₆ ok₆ bad₆
  repeat' wtm_at "j"
  exact q _ _ (S₅.ext0 x₆).ext ok₆ bad₆
theorem s_SFixed64Encoder {num : Int} {m : Mode} (H : Hyp b) (OC : ExcC b C) (O : Ok b h) (R : Room 8 A) (h0 : 0 ≤ num) (h1 : num < 2 ^ 29) (q : ∀ g h', Ext b.B [] h h' → EncOk b h' g num 1 m (encI (packed .q)) (okI (okF .q)) → (m = .plain → EncBad b h' g (.ref C) (fun z => ¬ okF .q z)) → Q (.ref g) h') :
    W prog w A (PySem.call (.ref (b.fa "SFixed64Encoder")) [.int num t, .bool m.r, .bool m.p]) Q E h := by
  have F := H.fn 69 (by decide)
  refine W.def0 H O F R [("field_number", .int num t), ("is_repeated", .bool m.r), ("is_packed", .bool m.p)] (fun _ _ _ _ _ _ _ => by rfl) ?_
  intro L₄ h₄ A₄ c R₄ S₄
  dsimp only [cf0, cfc, cfl, cff, cfg, co0, coc, col, cof, cog, List.nil_append, List.cons_append] at S₄ ⊢
  repeat' wtm_at "j"
  refine s_StructPackEncoder .q H OC (by wtm_at "ok") (R₄.le (by decide)) (by decide) (by decide) ?_
  intro g h₅ x₅ mk
  have hf := mk.fnat
  have S₅ := St.ext0 (by assumption) x₅
  repeat' wtm_at "j"
  refine mk.run .refl S₅.ok (R₄.le (by decide)) h0 h1 ?_
  intro g' h₆ x₆ ok₆ bad₆
  repeat' wtm_at "j"
  exact q _ _ (S₅.ext0 x₆).ext ok₆ bad₆
theorem s_BytesByteSize {x : List UInt8} (H : Hyp b) (O : Ok b h) (R : Room 3 A) (h2 : 0 ≤ z) (h3 : z < 2 ^ 30) (hx : x.length ≤ 4000) (q : ∀ t h', Ext b.B [] h h' → Q (.int (vz (8 * z) + szY (.y x)) t) h') :
    W prog w A (PySem.call (.ref (b.fa "BytesByteSize")) [.int z t, .bytes x.toArray u]) Q E h := by
  have F := H.fn 28 (by decide)
  refine W.def0 H O F R [("field_number", .int z t), ("b", .bytes x.toArray u)] (fun _ _ _ _ _ _ _ => by rfl) ?_
  intro L h₁ A' cd R' S
  repeat' wtm_at "j"
  exact leafI q (by assumption) (Int.add_assoc _ _ _)
theorem s_StringByteSize {x : Str} (H : Hyp b) (O : Ok b h) (R : Room 4 A) (h2 : 0 ≤ z) (h3 : z < 2 ^ 30) (hx : okS (.s x)) (q : ∀ t h', Ext b.B [] h h' → Q (.int (vz (8 * z) + szS (.s x)) t) h') :
    W prog w A (PySem.call (.ref (b.fa "StringByteSize")) [.int z t, .str x u]) Q E h := by
  have F := H.fn 27 (by decide)
  have hu := u8_le hx.2
  refine W.def0 H O F R [("field_number", .int z t), ("string", .str x u)] (fun _ _ _ _ _ _ _ => by rfl) ?_
  intro L h₁ A' cd R' S
  repeat' wtm_at "j"
  exact leafI q (by assumption) rfl
end

section
variable {prog : Program} {w : World} {A : Around} {E : Value → Heap → Prop} {h h₀ hc : Heap} {b : Bs} {v : Value} {Q : Value → Heap → Prop} {z y k : Int} {t u : Tok} {a c P p f a' C L : Addr} {n : Nat} {X : List Addr} {fz ob : List (Addr × K)} {l : List (Str × Value)}
  {params : Arguments} {body : List Stmt} {sc : Scope} {qn : Str} {dv vs xs ys zs : List Value} {ns : List Int} {env : Env} {binds : List (Str × Value)}
/-- a def of the top that reads lists -/
theorem W.defF (H : Hyp b) (O : Ok b h) (F : ∃ cd, FnO b.B a qn params body sc [] .none cd) (R : Room (n + 1) A) (fz : List (Addr × K)) (hfz : ∀ p ∈ fz, p.2.at h p.1) (binds : List (Str × Value))
    (hb : ∀ cd name kV doc pm an ct, bindArgs (fnX name qn params body sc [] .none kV doc pm an cd ct) ⟨vs, []⟩ = Pure.pure binds)
    (k : ∀ L h₁ A' cd, Room n A' → St b h [] fz L [] (cellObs (L + 1) sc.names) h₁ → bindK prog w A.in1 (envX qn sc L a cd (cellsFrom (L + 1) sc.names [])) binds (fun h₂ => Ok b h₂ ∧
      W prog w A' (execs body (envX qn sc L a cd (cellsFrom (L + 1) sc.names []))) (retK Q) (fun _ _ => False) h₂) h₁)
    (hco : sc.isCoroutine = false := by rfl) (hgen : sc.isGenerator = false := by rfl) : W prog w A (PySem.call (.ref a) vs) Q E h := by
  obtain ⟨cd, F⟩ := F
  refine W.frame (ob₀ := []) (X := []) (fz := fz) (dv := []) H.g O (F.up O) rfl R (fun s name kV doc pm an ct _ => BindsTo.of_eq (hb cd name kV doc pm an ct)) (fun _ h => nomatch h) (fun p hp => ⟨hfz p hp, List.not_mem_nil⟩) (fun _ h => nomatch h) List.nodup_nil (fun L h₁ A' R' S => ?_) hco hgen
  rw [List.append_nil] at S
  exact k L h₁ A' cd R' S
theorem W.itemIM {value slice : Expr} (S : St b h₀ X fz L l ob h) (hm : (a, .lst xs) ∈ ob) (his : IntsAre xs ns) (h0 : 0 ≤ k) (h1 : k < ns.length) (h2 : ns.length ≤ 1000) (x : ∀ t, Q (.int (ns.getD k.toNat 0) t) h)
    (hs : subscripted slice false (.ref a) (.int k u) = operate [.ref a, .int k u] (getItem (.ref a) (.int k u)) := by with_unfolding_all rfl) : W prog w A (subscriptTail value slice (.ref a) (.int k u)) Q E h :=
  W.item (S.obs _ hm) h0 (by rw [his.length]; exact h1) (by rw [his.length]; wtm_at "la") (fun v e => by obtain ⟨t, rfl⟩ := ints_item his e; exact x t) hs
theorem W.itemIF {value slice : Expr} (S : St b h₀ X fz L l ob h) (hm : (a, .lst xs) ∈ fz) (his : IntsAre xs ns) (h0 : 0 ≤ k) (h1 : k < ns.length) (h2 : ns.length ≤ 1000) (x : ∀ t, Q (.int (ns.getD k.toNat 0) t) h)
    (hs : subscripted slice false (.ref a) (.int k u) = operate [.ref a, .int k u] (getItem (.ref a) (.int k u)) := by with_unfolding_all rfl) : W prog w A (subscriptTail value slice (.ref a) (.int k u)) Q E h :=
  W.item (S.fzAt hm) h0 (by rw [his.length]; exact h1) (by rw [his.length]; wtm_at "la") (fun v e => by obtain ⟨t, rfl⟩ := ints_item his e; exact x t) hs
theorem W.inTupM (S : St b h₀ X fz L l ob h) (hm : (a, .tup xs) ∈ ob) (his : IntsAre xs ns) (x : Q (.bool (ns.any fun y => y == k)) h) : W prog w A (compareOp .In (.int k u) (.ref a)) Q E h := by
  obtain ⟨i, e⟩ := List.getElem?_of_mem hm
  exact W.inTup S e his x
theorem W.laddM (S : St b h₀ X fz L l ob h) (hl : (a, .lst ys) ∈ ob) (hc : (c, .lst zs) ∈ ob) (hz : ys.length + zs.length ≤ 16777216)
    (q : ∀ D h', St b h₀ X fz L l ((D, .lst (ys ++ zs)) :: ob) h' → Q (.ref D) h') : W prog w A (binaryOp .Add (.ref a) (.ref c)) Q E h := W.ladd S (S.obs _ hl) (S.obs _ hc) (by rw [sizeLine_eq]; exact hz) q
theorem W.bytesN (R : A.handled = none) (S : St b h₀ X fz L l ob h) (hm : (a, .lst xs) ∈ ob) (hi : IntsAre xs ns) (hr : ∀ n ∈ ns, 0 ≤ n ∧ n < 256) (hz : xs.length ≤ 16777216)
    (q : ∀ t h', St b h₀ X fz L l ob h' → Q (.bytes (bl ns).toArray t) h') : W prog w A (PySem.call (.type "bytes") [.ref a]) Q E h := W.bytesI R S (S.obs _ hm) hi hr (by rw [sizeLine_eq]; exact hz) q
end
section
variable {prog : Program} {w : World} {A : Around} {E : Value → Heap → Prop} {h h₀ hc : Heap} {b : Bs} {v : Value} {Q : Value → Heap → Prop} {z y k : Int} {t u : Tok} {a c P p f a' C L : Addr} {n : Nat} {X : List Addr} {fz ob : List (Addr × K)} {l : List (Str × Value)} {xs : List Value} {ns : List Int}
theorem s_law_cell (H : Hyp b) (O : Ok b h) (R : Room 1 A) (hl : h.PlainList a xs.toArray) (his : IntsAre xs ns) (hn : ns.length ≤ 63) (h0 : 0 ≤ z) (q : ∀ n t h', Ext b.B [] h h' → Q (.int n t) h') :
    W prog w A (PySem.call (.ref (b.fa "_law_cell")) [.ref a, .int z t]) Q E h := by
  have F := H.fn 74 (by decide)
  refine W.defF H O F R [(a, .lst xs)] (fun p hp => by rw [List.mem_singleton] at hp; subst hp; exact hl) [("script", .ref a), ("k", .int z t)] (fun _ _ _ _ _ _ _ => by rfl) ?_
  intro L h₁ A' cd R' S
  have hxl := his.length
  repeat' wtm_at "j"
  · exact q _ _ _ (St.ext (by assumption))
  · exact q _ _ _ (St.ext (by assumption))
theorem mod128 (m : Nat) : (m : Int).fmod 128 = ((m % 128 : Nat) : Int) := by rw [Int.fmod_eq_emod_of_nonneg _ (by decide)]; wtm_at "la"
theorem div128 (m : Nat) : (m : Int).fdiv 128 = ((m / 128 : Nat) : Int) := by rw [Int.fdiv_eq_ediv_of_nonneg _ (by decide)]; wtm_at "la"
theorem bl_app (xs ys : List Int) : bl (xs ++ ys) = bl xs ++ bl ys := by simp [bl]
/-- the turns of the law's own varint -/
noncomputable def LV (b : Bs) (h₀ : Heap) (L : Addr) (Z n : Nat) (h : Heap) : Prop :=
  ∃ l m t p vs ns, n = m ∧ l.lookup (Str.ofString "number") = some (.int (m : Int) t) ∧ l.lookup (Str.ofString "row") = some (.ref p) ∧ IntsAre vs ns ∧ (∀ x ∈ ns, 0 ≤ x ∧ x < 256) ∧ bl ns ++ vint m = vint Z ∧ St b h₀ [] [] L l [(p, .lst vs)] h
theorem s_law_varint (H : Hyp b) (O : Ok b h) (R : Room 1 A) (h0 : 0 ≤ z) (h1 : z < 18446744073709551616) (q : ∀ t h', Ext b.B [] h h' → Q (.bytes (vint z.toNat).toArray t) h') :
    W prog w A (PySem.call (.ref (b.fa "_law_varint")) [.int z t]) Q E h := by
  obtain ⟨Z, rfl⟩ := Int.eq_ofNat_of_zero_le h0
  rw [Int.toNat_natCast] at q
  have hZ := vint_le (Z := Z) (by wtm_at "la")
  have F := H.fn 75 (by decide)
  refine W.def0 H O F R [("number", .int Z t)] (fun _ _ _ _ _ _ _ => by rfl) ?_
  intro L h₁ A' cd R' S
  repeat' wtm_at "j"
  rename_i S₁
  refine W.while (LV b h L Z) Z ⟨_, Z, _, _, _, _, rfl, by wtm_at "lk", by wtm_at "lk", .nil, (fun _ h => nomatch h), by simp [bl], S₁⟩ ?_
  clear S₁ S
  rintro n h₂ ⟨l, m, t1, p, vs, ns, rfl, hb1, hb2, his, hr, hfl, S₂⟩
  have hlen : vs.length ≤ 10 := by
    have e : (bl ns ++ vint n).length = (vint Z).length := by rw [hfl]
    rw [List.length_append, bl_len, ← his.length] at e
    wtm_at "la"
  repeat' wtm_at "j"
  · rename_i hge S₃
    have hm : ¬ n < 128 := by wtm_at "la"
    rw [mod128, div128] at S₃
    refine loopK.next (m := n / 128) (by wtm_at "la") ⟨_, n / 128, _, p, _, _, rfl, by wtm_at "lk", by wtm_at "lk", his.append (.cons _ _ .nil), ?_, ?_, S₃⟩
    · intro x hx
      rcases List.mem_append.mp hx with hx | hx
      · exact hr x hx
      · rw [List.mem_singleton] at hx; subst hx; wtm_at "la"
    · rw [← hfl, vint_ge hm, bl_app, List.append_assoc]
      congr 1
      show [((n % 128 : Nat) + 128 : Int).toNat.toUInt8] ++ _ = _
      rw [show ((n % 128 : Nat) + 128 : Int).toNat = 128 + n % 128 by wtm_at "la"]
      rfl
  · rename_i hge S₃
    have hm : n < 128 := by wtm_at "la"
    refine W.bytesN R'.hh (by assumption) (by wtm_at "mem") (his.append (.cons _ _ .nil)) ?_ (by wtm_at "len") ?_
    · intro x hx
      rcases List.mem_append.mp hx with hx | hx
      · exact hr x hx
      · rw [List.mem_singleton] at hx; subst hx; wtm_at "la"
    · intro tb h₄ S₄
      repeat' wtm_at "j"
      have e : bl (ns ++ [(n : Int)]) = vint Z := by rw [bl_app, ← hfl, vint_lt hm]; rfl
      rw [e]
      exact q _ _ S₄.ext
end

theorem iteK.anyI {ns : List Int} {k : Int} {p q : Prop} (x : (ns.any fun y => y == k) = true → p) (y : (ns.any fun y => y == k) = false → q) : iteK (ns.any fun y => y == k) p q := ⟨x, y⟩
section
variable {prog : Program} {w : World} {A : Around} {E : Value → Heap → Prop} {h h₀ hc : Heap} {b : Bs} {v : Value} {Q : Value → Heap → Prop} {z y : Int} {t u : Tok} {a c P p f a' C L : Addr} {n k : Nat} {X : List Addr} {fz ob : List (Addr × K)} {l : List (Str × Value)} {xs : List Value} {ns : List Int}
/-- the turns of the law's own utf-8 -/
noncomputable def LE8 (x : Str) (i : Nat) (l : List (Str × Value)) (ob : List (Addr × K)) : Prop :=
  ∃ p vs ns, ob = [(p, .lst vs)] ∧ l.lookup (Str.ofString "row") = some (.ref p) ∧ IntsAre vs ns ∧ (∀ y ∈ ns, 0 ≤ y ∧ y < 256) ∧ vs.length ≤ 4 * i ∧ bl ns = (x.cps.toList.take i).flatMap Str.utf8Of
theorem St.pick {it q d : Addr} {k k' : K} {o o' : K} {l : List (Str × Value)} (S : St b h₀ X fz L l [(d, k'), (q, o), (it, k), (p, o')] h) : St b h₀ X fz L l [(it, k), (d, k')] h :=
  S.perm (fun x hx => by simp only [List.mem_cons, List.not_mem_nil, or_false] at hx ⊢; rcases hx with h | h <;> simp [h]) (by
    have := (List.nodup_cons.mp S.nd).2
    simp only [List.map_cons, List.map_nil, List.nodup_cons, List.mem_cons, List.not_mem_nil, or_false, not_or, List.nodup_nil, and_true, not_false_eq_true] at this ⊢
    exact fun e => this.1.2.1 e.symm)
theorem div_n (c m : Nat) : (c : Int).fdiv (m : Int) = ((c / m : Nat) : Int) := by rw [Int.fdiv_eq_ediv_of_nonneg _ (by wtm_at "la")]; exact (Int.natCast_ediv c m).symm
theorem mod_n (c m : Nat) : (c : Int).fmod (m : Int) = ((c % m : Nat) : Int) := by rw [Int.fmod_eq_emod_of_nonneg _ (by wtm_at "la")]; exact (Int.natCast_emod c m).symm
theorem d64 (c : Nat) : (c : Int).fdiv 64 = ((c / 64 : Nat) : Int) := div_n c 64
theorem d4096 (c : Nat) : (c : Int).fdiv 4096 = ((c / 4096 : Nat) : Int) := div_n c 4096
theorem d262144 (c : Nat) : (c : Int).fdiv 262144 = ((c / 262144 : Nat) : Int) := div_n c 262144
theorem m64 (c : Nat) : (c : Int).fmod 64 = ((c % 64 : Nat) : Int) := mod_n c 64
theorem bl_nat (xs : List Nat) : bl (xs.map fun n : Nat => (n : Int)) = xs.map (·.toUInt8) := by simp [bl, Function.comp_def]
theorem utf_take {x : Str} {i c : Nat} (h : x.cps[i]? = some c) : (x.cps.toList.take (i + 1)).flatMap Str.utf8Of = (x.cps.toList.take i).flatMap Str.utf8Of ++ Str.utf8Of c := by
  have : x.cps.toList[i]? = some c := by simpa using h
  rw [List.take_add_one, this]; simp
theorem ints_in {ns ms : List Int} (h1 : ∀ y ∈ ns, 0 ≤ y ∧ y < 256) (h2 : ∀ y ∈ ms, 0 ≤ y ∧ y < 256) : ∀ y ∈ ns ++ ms, 0 ≤ y ∧ y < 256 := fun y hy => (List.mem_append.mp hy).elim (h1 y) (h2 y)
theorem s_law_eight {x : Str} (H : Hyp b) (O : Ok b h) (R : Room 1 A) (hx : okS (.s x)) (hc : ∀ c ∈ x.cps.toList, c < 1114112) (q : ∀ t h', Ext b.B [] h h' → Q (.bytes (u8 x).toArray t) h') :
    W prog w A (PySem.call (.ref (b.fa "_law_eight")) [.str x t]) Q E h := by
  have F := H.fn 76 (by decide)
  have hsz := hx.2
  refine W.def0 H O F R [("text", .str x t)] (fun _ _ _ _ _ _ _ => by rfl) ?_
  intro L h₁ A' cd R' S
  repeat' wtm_at "j"
  rename_i S₁
  refine forK.str (LE8 x) R'.hh S₁ ⟨_, _, _, rfl, by wtm_at "lk", .nil, (fun _ h => nomatch h), by simp, by simp [bl]⟩ ?_ ?_
  · clear S₁ S
    rintro it k i c tk l ob h hic ⟨p, vs, ns, rfl, hr, his, hrg, hlen, hbl⟩ hit S
    have hi : i < x.cps.size := (Array.getElem?_eq_some_iff.mp hic).1
    have hcs : c < 1114112 := hc c (by have : x.cps.toList[i]? = some c := by simpa using hic
                                       exact List.mem_of_getElem? this)
    repeat' wtm_at "j"
    · rename_i h1 S₃
      have h1 : c < 128 := by wtm_at "la"
      refine loopK.next (m := x.cps.size - i - 1) (by wtm_at "la") ⟨by wtm_at "la", _, _, ⟨p, _, _, rfl, by wtm_at "lk", his.append (.cons _ _ .nil), ints_in hrg (fun y hy => by rw [List.mem_singleton] at hy; subst hy; wtm_at "la"), by rw [List.length_append]; simp only [List.length_cons, List.length_nil]; wtm_at "la", ?_⟩, S₃⟩
      rw [bl_app, utf_take hic, hbl]
      unfold Str.utf8Of
      rw [if_pos h1]
      rfl
    · rename_i h1 h2 S₃
      have h1 : ¬ c < 128 := by wtm_at "la"
      have h2 : c < 2048 := by wtm_at "la"
      refine loopK.next (m := x.cps.size - i - 1) (by wtm_at "la") ⟨by wtm_at "la", _, _, ⟨_, _, _, rfl, by wtm_at "lk", his.append (.cons _ _ (.cons _ _ .nil)), ints_in hrg (fun y hy => ?_), by rw [List.length_append]; simp only [List.length_cons, List.length_nil]; wtm_at "la", ?_⟩, S₃.pick⟩
      · rw [d64, m64] at hy
        simp only [List.mem_cons, List.not_mem_nil, or_false] at hy
        rcases hy with rfl | rfl <;> wtm_at "la"
      · rw [bl_app, utf_take hic, hbl]
        unfold Str.utf8Of
        rw [if_neg h1, if_pos h2, d64, m64]
        exact congrArg _ (bl_nat [192 + c / 64, 128 + c % 64])
    · rename_i h1 h2 h3 S₃
      have h1 : ¬ c < 128 := by wtm_at "la"
      have h2 : ¬ c < 2048 := by wtm_at "la"
      have h3 : c < 65536 := by wtm_at "la"
      refine loopK.next (m := x.cps.size - i - 1) (by wtm_at "la") ⟨by wtm_at "la", _, _, ⟨_, _, _, rfl, by wtm_at "lk", his.append (.cons _ _ (.cons _ _ (.cons _ _ .nil))), ints_in hrg (fun y hy => ?_), by rw [List.length_append]; simp only [List.length_cons, List.length_nil]; wtm_at "la", ?_⟩, S₃.pick⟩
      · rw [d64, d4096, m64, m64] at hy
        simp only [List.mem_cons, List.not_mem_nil, or_false] at hy
        rcases hy with rfl | rfl | rfl <;> wtm_at "la"
      · rw [bl_app, utf_take hic, hbl]
        unfold Str.utf8Of
        rw [if_neg h1, if_neg h2, if_pos h3, d64, d4096, m64, m64]
        exact congrArg _ (bl_nat [224 + c / 4096, 128 + c / 64 % 64, 128 + c % 64])
    · rename_i h1 h2 h3 S₃
      have h1 : ¬ c < 128 := by wtm_at "la"
      have h2 : ¬ c < 2048 := by wtm_at "la"
      have h3 : ¬ c < 65536 := by wtm_at "la"
      refine loopK.next (m := x.cps.size - i - 1) (by wtm_at "la") ⟨by wtm_at "la", _, _, ⟨_, _, _, rfl, by wtm_at "lk", his.append (.cons _ _ (.cons _ _ (.cons _ _ (.cons _ _ .nil)))), ints_in hrg (fun y hy => ?_), by rw [List.length_append]; simp only [List.length_cons, List.length_nil]; wtm_at "la", ?_⟩, S₃.pick⟩
      · rw [d64, d4096, d262144, m64, m64, m64] at hy
        simp only [List.mem_cons, List.not_mem_nil, or_false] at hy
        rcases hy with rfl | rfl | rfl | rfl <;> wtm_at "la"
      · rw [bl_app, utf_take hic, hbl]
        unfold Str.utf8Of
        rw [if_neg h1, if_neg h2, if_neg h3, d64, d4096, d262144, m64, m64, m64]
        exact congrArg _ (bl_nat [240 + c / 262144, 128 + c / 4096 % 64, 128 + c / 64 % 64, 128 + c % 64])
  · rintro l ob h ⟨p, vs, ns, rfl, hr, his, hrg, hlen, hbl⟩ S
    repeat' wtm_at "j"
    refine W.bytesN R'.hh S (by wtm_at "mem") his hrg (by wtm_at "la") ?_
    intro tb h₄ S₄
    repeat' wtm_at "j"
    have e : bl ns = u8 x := by rw [hbl, List.take_of_length_le (by simp)]; rfl
    rw [e]
    exact q _ _ S₄.ext
noncomputable def bitsL : List Int := [32, 64, 32, 32, 64, 32, 64, 32, 64, 32, 64]
noncomputable def loK : Nat → Int | 0 => -2147483648 | 1 => -9223372036854775808 | 2 => -2147483648 | 3 => 0 | 4 => 0 | 5 => -2147483648 | 6 => -9223372036854775808 | 7 => 0 | 8 => 0 | 9 => -2147483648 | _ => -9223372036854775808
noncomputable def hiK : Nat → Int | 0 => 2147483648 | 1 => 9223372036854775808 | 2 => 2147483648 | 3 => 4294967296 | 4 => 18446744073709551616 | 5 => 2147483648 | 6 => 9223372036854775808 | 7 => 4294967296 | 8 => 18446744073709551616 | 9 => 2147483648 | _ => 9223372036854775808
theorem bits_of {k : Nat} (h : k < 11) : bitsL.getD (k : Int).toNat 0 = 32 ∨ bitsL.getD (k : Int).toNat 0 = 64 := by
  have : ∀ k : Nat, k < 11 → bitsL.getD (k : Int).toNat 0 = 32 ∨ bitsL.getD (k : Int).toNat 0 = 64 := by decide
  exact this k h
theorem lohi1 {k : Nat} (h : k < 11) (e : ([3, 4, 7, 8] : List Int).any (fun y => y == (k : Int)) = true) : loK k = 0 ∧ hiK k = 1 * 2 ^ (bitsL.getD (k : Int).toNat 0).toNat := by
  have : ∀ k : Nat, k < 11 → ([3, 4, 7, 8] : List Int).any (fun y => y == (k : Int)) = true → loK k = 0 ∧ hiK k = 1 * 2 ^ (bitsL.getD (k : Int).toNat 0).toNat := by decide
  exact this k h e
theorem lohi2 {k : Nat} (h : k < 11) (e : ([3, 4, 7, 8] : List Int).any (fun y => y == (k : Int)) = false) : loK k = -(1 * 2 ^ (bitsL.getD (k : Int).toNat 0 - 1).toNat) ∧ hiK k = 1 * 2 ^ (bitsL.getD (k : Int).toNat 0 - 1).toNat := by
  have : ∀ k : Nat, k < 11 → ([3, 4, 7, 8] : List Int).any (fun y => y == (k : Int)) = false → loK k = -(1 * 2 ^ (bitsL.getD (k : Int).toNat 0 - 1).toNat) ∧ hiK k = 1 * 2 ^ (bitsL.getD (k : Int).toNat 0 - 1).toNat := by decide
  exact this k h e
theorem s_law_bounds (H : Hyp b) (O : Ok b h) (R : Room 1 A) (hk : k < 11) (q : ∀ a t u h', Ext b.B [] h h' → h.get? a = none → K.at h' a (.tup [.int (loK k) t, .int (hiK k) u]) → Q (.ref a) h') :
    W prog w A (PySem.call (.ref (b.fa "_law_bounds")) [.int (k : Int) t]) Q E h := by
  have F := H.fn 77 (by decide)
  have hbits := bits_of hk
  unfold bitsL at hbits
  refine W.def0 H O F R [("kind", .int (k : Int) t)] (fun _ _ _ _ _ _ _ => by rfl) ?_
  intro L h₁ A' cd R' S
  repeat' wtm_at "j"
  · rename_i S'
    have hl := lohi1 hk (by assumption)
    unfold bitsL at hl
    rw [← hl.2] at S'
    rw [show (0 : Int) = loK k from hl.1.symm] at S'
    exact q _ _ _ _ S'.ext (by have := S'.obn _ (.head _); simpa using this) (S'.obs _ (.head _))
  · rename_i S'
    have hl := lohi2 hk (by assumption)
    unfold bitsL at hl
    rw [← hl.2] at S'
    rw [show -(hiK k) = loK k by rw [hl.1, ← hl.2]] at S'
    exact q _ _ _ _ S'.ext (by have := S'.obn _ (.head _); simpa using this) (S'.obs _ (.head _))
noncomputable def wtL : List Int := [0, 0, 0, 0, 0, 0, 0, 5, 1, 5, 1, 0, 2, 2]
noncomputable def wtK (k : Nat) : Int := wtL.getD (k : Int).toNat 0
theorem s_law_wire (H : Hyp b) (O : Ok b h) (R : Room 1 A) (hk : k < 14) (q : ∀ t h', Ext b.B [] h h' → Q (.int (wtK k) t) h') :
    W prog w A (PySem.call (.ref (b.fa "_law_wire")) [.int (k : Int) t]) Q E h := by
  have F := H.fn 79 (by decide)
  refine W.def0 H O F R [("kind", .int (k : Int) t)] (fun _ _ _ _ _ _ _ => by rfl) ?_
  intro L h₁ A' cd R' S
  repeat' wtm_at "j"
  exact leafI q (by assumption) rfl
end

section
variable {prog : Program} {w : World} {A : Around} {E : Value → Heap → Prop} {h h₀ hc : Heap} {b : Bs} {v : Value} {Q : Value → Heap → Prop} {z y : Int} {t u : Tok} {a c P p f a' C L : Addr} {n k : Nat} {X : List Addr} {fz ob : List (Addr × K)} {l : List (Str × Value)} {xs : List Value} {ns : List Int}
noncomputable def encK : Nat → PV → List UInt8
  | 0 => encI fun z => vint (z % 18446744073709551616).toNat
  | 1 => encI fun z => vint (z % 18446744073709551616).toNat
  | 2 => encI fun z => vint (z % 18446744073709551616).toNat
  | 3 => encI fun z => vint z.toNat
  | 4 => encI fun z => vint z.toNat
  | 5 => encI fun z => vint (zz z).toNat
  | 6 => encI fun z => vint (zz z).toNat
  | 7 => encI (packed .I)
  | 8 => encI (packed .Q)
  | 9 => encI (packed .i)
  | 10 => encI (packed .q)
  | 11 => encB
  | 12 => encS
  | _ => encY
noncomputable def okT : PV → Prop
  | .s x => okS (.s x) ∧ ∀ c ∈ x.cps.toList, c < 1114112
  | _ => False
noncomputable def okK : Nat → PV → Prop
  | 11 => okB
  | 12 => okT
  | 13 => okY
  | k => okI fun z => loK k ≤ z ∧ z < hiK k
noncomputable def okN (k : Nat) (z : Int) : Prop := loK k ≤ z ∧ z < hiK k
theorem W.mod64 (x : ∀ t, Q (.int (z % 18446744073709551616) t) h) : W prog w A (binaryOp .Mod (.int z t) (.int (1 * 2 ^ (64 : Int).toNat) u)) Q E h := by
  have e : (1 : Int) * 2 ^ (64 : Int).toNat = 18446744073709551616 := rfl
  rw [e]
  refine W.mod (by decide) fun t => ?_
  rw [Int.fmod_eq_emod_of_nonneg _ (by decide)]
  exact x t
theorem W.mod256 (x : ∀ t, Q (.int (z % 256) t) h) : W prog w A (binaryOp .Mod (.int z t) (.int 256 u)) Q E h := W.mod (by decide) fun t => by
  rw [Int.fmod_eq_emod_of_nonneg _ (by decide)]
  exact x t
theorem W.div256 (x : ∀ t, Q (.int (z / 256) t) h) : W prog w A (binaryOp .FloorDiv (.int z t) (.int 256 u)) Q E h := W.fdiv (by decide) (PyProof.noPylong_small (by decide)) fun t => by
  rw [Int.fdiv_eq_ediv_of_nonneg _ (by decide)]
  exact x t
theorem little_snoc (n : Nat) (x : Int) : KTBy.little (n + 1) x = KTBy.little n x ++ [x / 256 ^ n % 256] := by
  rw [KTBy.little_eq, KTBy.little_eq, List.range_succ]; simp
theorem little4 (x : Int) : KTBy.little 4 (x % 18446744073709551616) = KTBy.little 4 (x % 256 ^ 4) := by
  simp only [KTBy.little]
  congr 1
  · wtm_at "la"
  congr 1
  · wtm_at "la"
  congr 1
  · wtm_at "la"
  congr 1
  · wtm_at "la"
theorem little8 (x : Int) : KTBy.little 8 (x % 18446744073709551616) = KTBy.little 8 (x % 256 ^ 8) := rfl
theorem little_in (n : Nat) (x : Int) : ∀ y ∈ KTBy.little n x, 0 ≤ y ∧ y < 256 := by
  intro y hy
  rw [KTBy.little_eq] at hy
  obtain ⟨i, _, rfl⟩ := List.mem_map.mp hy
  wtm_at "la"
/-- the octets of a fixed number, so far -/
noncomputable def LP (z : Int) (p : Addr) (x1 x2 x3 : Addr × K) (i : Nat) (l : List (Str × Value)) (ob : List (Addr × K)) : Prop :=
  ∃ vs t, ob = [x1, x2, (p, .lst vs), x3] ∧ l.lookup (Str.ofString "row") = some (.ref p) ∧ l.lookup (Str.ofString "left") = some (.int (z / 256 ^ i) t) ∧ IntsAre vs (KTBy.little i z)
theorem div_pow (z : Int) (i : Nat) : z / 256 ^ i / 256 = z / 256 ^ (i + 1) := by
  have h : (0 : Int) ≤ 256 ^ i := Int.pow_nonneg (by decide)
  rw [Int.pow_succ]
  first
    | rw [Int.ediv_ediv_eq_ediv_mul _ h]
    | rw [Int.ediv_ediv h]
    | rw [Int.ediv_ediv_of_nonneg h]
theorem fixK {k : Nat} (h0 : 7 ≤ k) (h1 : k < 11) (z : Int) : bl (KTBy.little (([4, 8, 4, 8] : List Int).getD ((k : Int) - 7).toNat 0).toNat (z % 18446744073709551616)) = encK k (.i z) := by
  have h : k = 7 ∨ k = 8 ∨ k = 9 ∨ k = 10 := by wtm_at "la"
  rcases h with rfl | rfl | rfl | rfl
  · exact congrArg bl (little4 z)
  · exact congrArg bl (little8 z)
  · exact congrArg bl (little4 z)
  · exact congrArg bl (little8 z)
theorem fixN {k : Nat} (h0 : 7 ≤ k) (h1 : k < 11) : ([4, 8, 4, 8] : List Int).getD ((k : Int) - 7).toNat 0 = 4 ∨ ([4, 8, 4, 8] : List Int).getD ((k : Int) - 7).toNat 0 = 8 := by
  have h : k = 7 ∨ k = 8 ∨ k = 9 ∨ k = 10 := by wtm_at "la"
  rcases h with rfl | rfl | rfl | rfl <;> decide
theorem any56 {k : Nat} (e : ([5, 6] : List Int).any (fun y => y == (k : Int)) = true) : k = 5 ∨ k = 6 := by
  simp at e; wtm_at "la"
theorem not56 {k : Nat} (e : ([5, 6] : List Int).any (fun y => y == (k : Int)) = false) : k ≠ 5 ∧ k ≠ 6 := by
  simp at e; wtm_at "la"
theorem okN_range {k : Nat} {z : Int} (h : okN k z) : -9223372036854775808 ≤ z ∧ z < 18446744073709551616 := by
  obtain ⟨h1, h2⟩ := h
  have e : -9223372036854775808 ≤ loK k := by unfold loK; split <;> decide
  have e' : hiK k ≤ 18446744073709551616 := by unfold hiK; split <;> decide
  wtm_at "la"
theorem leafB {x y : List UInt8} {t : Tok} {h' : Heap} {fz : List (Addr × K)} {L : Addr} {l : List (Str × Value)} {ob : List (Addr × K)} (q : ∀ t h', Ext b.B [] h h' → Q (.bytes x.toArray t) h') (S : St b h [] fz L l ob h') (e : y = x) : Q (.bytes y.toArray t) h' := e ▸ q t h' S.ext
theorem s_law_oneI (H : Hyp b) (O : Ok b h) (R : Room 2 A) (hk : k < 11) (hz : okN k z) (q : ∀ t h', Ext b.B [] h h' → Q (.bytes (encK k (.i z)).toArray t) h') :
    W prog w A (PySem.call (.ref (b.fa "_law_one")) [.int (k : Int) t, .int z u]) Q E h := by
  have F := H.fn 80 (by decide)
  have hr := okN_range hz
  refine W.def0 H O F R [("kind", .int (k : Int) t), ("value", .int z u)] (fun _ _ _ _ _ _ _ => by rfl) ?_
  intro L h₁ A' cd R' S
  repeat' wtm_at "j"
  · have e := any56 (by assumption)
    refine leafB q (by assumption) ?_
    rw [show encK k (.i z) = vint (zz z).toNat by rcases e with rfl | rfl <;> rfl]
    unfold zz
    rw [if_neg (by wtm_at "la")]
  · have e := any56 (by assumption)
    have hz2 : z < 9223372036854775808 := by rcases e with rfl | rfl <;> (obtain ⟨_, h2⟩ := hz; simp only [hiK] at h2; wtm_at "la")
    refine s_law_varint H (by wtm_at "ok") (R'.le (by decide)) (by wtm_at "la") (by wtm_at "la") (St.useI (by assumption) ?_)
    intro _ _ _
    repeat' wtm_at "j"
    refine leafB q (by assumption) ?_
    rw [show encK k (.i z) = vint (zz z).toNat by rcases e with rfl | rfl <;> rfl]
    unfold zz
    rw [if_pos (by wtm_at "la")]
  · have e := not56 (by assumption)
    refine leafB q (by assumption) ?_
    have h5 : k < 5 := by wtm_at "la"
    have h : k = 0 ∨ k = 1 ∨ k = 2 ∨ k = 3 ∨ k = 4 := by wtm_at "la"
    obtain ⟨hz1, hz2⟩ := hz
    rcases h with rfl | rfl | rfl | rfl | rfl
    · rfl
    · rfl
    · rfl
    · simp only [loK, hiK] at hz1 hz2
      rw [Int.emod_eq_of_lt hz1 (by wtm_at "la")]; rfl
    · simp only [loK, hiK] at hz1 hz2
      rw [Int.emod_eq_of_lt hz1 (by wtm_at "la")]; rfl
  · have e := not56 (by assumption)
    have h7 : 7 ≤ k := by wtm_at "la"
    have hN := fixN h7 hk
    repeat' wtm_at "j"
    rename_i hrg S₂
    refine forK.range (LP (z % 18446744073709551616) _ _ _ _) R'.hh S₂ ⟨_, _, rfl, by wtm_at "lk", (by rw [Int.pow_zero, Int.ediv_one]; wtm_at "lk"), .nil⟩ hrg (by wtm_at "la") (by wtm_at "la") ?_ ?_
    · clear S₂ S
      rintro it i tk l ob h hi ⟨vs, t, rfl, hr1, hr2, his⟩ hit S
      have hlen : vs.length = i := by rw [his.length, KTBy.little_length]
      repeat' wtm_at "j"
      rename_i S₃
      refine loopK.next (m := (([4, 8, 4, 8] : List Int).getD ((k : Int) - 7).toNat 0).toNat - i - 1) (by wtm_at "la") ⟨by wtm_at "la", _, _, ⟨_, _, rfl, by wtm_at "lk", (by rw [← div_pow]; wtm_at "lk"), ?_⟩, S₃⟩
      rw [little_snoc]
      exact his.append (.cons _ _ .nil)
    · rintro l ob h ⟨vs, t, rfl, hr1, hr2, his⟩ S
      have hlen := his.length
      rw [KTBy.little_length] at hlen
      repeat' wtm_at "j"
      refine W.bytesN R'.hh S (by wtm_at "mem") his (little_in _ _) (by wtm_at "la") ?_
      intro tb h₄ S₄
      repeat' wtm_at "j"
      exact leafB q S₄ (fixK h7 hk z)
  all_goals (exfalso; wtm_at "la")
theorem s_law_oneB {x : Bool} (H : Hyp b) (O : Ok b h) (R : Room 2 A) (q : ∀ t h', Ext b.B [] h h' → Q (.bytes (encB (.b x)).toArray t) h') :
    W prog w A (PySem.call (.ref (b.fa "_law_one")) [.int 11 t, .bool x]) Q E h := by
  have F := H.fn 80 (by decide)
  refine W.def0 H O F R [("kind", .int 11 t), ("value", .bool x)] (fun _ _ _ _ _ _ _ => by rfl) ?_
  intro L h₁ A' cd R' S
  repeat' wtm_at "j"
  all_goals first
    | (refine W.bytesN R'.hh (by assumption) (by wtm_at "mem") (.cons _ _ .nil) (fun y hy => ?_) (by wtm_at "len") ?_
       · rw [List.mem_singleton] at hy; subst hy; cases x <;> decide
       · intro tb h₄ S₄
         repeat' wtm_at "j"
         exact leafB q S₄ (by cases x <;> rfl))
    | (exfalso; rename_i e _; revert e; decide)
    | (exfalso; wtm_at "la")
    | (exfalso; contradiction)
    | trace_state
theorem s_law_oneS {x : Str} (H : Hyp b) (O : Ok b h) (R : Room 2 A) (hx : okT (.s x)) (q : ∀ t h', Ext b.B [] h h' → Q (.bytes (encS (.s x)).toArray t) h') :
    W prog w A (PySem.call (.ref (b.fa "_law_one")) [.int 12 t, .str x u]) Q E h := by
  have F := H.fn 80 (by decide)
  obtain ⟨hx1, hx2⟩ := hx
  have hu := u8_le hx1.2
  have hv := vint_le (Z := (u8 x).length) (by wtm_at "la")
  refine W.def0 H O F R [("kind", .int 12 t), ("value", .str x u)] (fun _ _ _ _ _ _ _ => by rfl) ?_
  intro L h₁ A' cd R' S
  repeat' wtm_at "j"
  all_goals first
    | (exfalso; wtm_at "la")
    | (exfalso; contradiction)
    | exact absurd ‹_› (show ¬ ([5, 6].any fun y => y == (12 : Int)) = true by decide)
    | (rw [Int.toNat_natCast]
       refine W.badd (by wtm_at "la") ?_
       intro _
       repeat' wtm_at "j"
       exact leafB q (by assumption) rfl)
    | trace_state
theorem s_law_oneY {x : List UInt8} (H : Hyp b) (O : Ok b h) (R : Room 2 A) (hx : okY (.y x)) (q : ∀ t h', Ext b.B [] h h' → Q (.bytes (encY (.y x)).toArray t) h') :
    W prog w A (PySem.call (.ref (b.fa "_law_one")) [.int 13 t, .bytes x.toArray u]) Q E h := by
  have F := H.fn 80 (by decide)
  have hx' : x.length ≤ 4000 := hx
  have hv := vint_le (Z := x.length) (by wtm_at "la")
  refine W.def0 H O F R [("kind", .int 13 t), ("value", .bytes x.toArray u)] (fun _ _ _ _ _ _ _ => by rfl) ?_
  intro L h₁ A' cd R' S
  repeat' wtm_at "j"
  all_goals first
    | (exfalso; wtm_at "la")
    | (exfalso; contradiction)
    | exact absurd ‹_› (show ¬ ([5, 6].any fun y => y == (13 : Int)) = true by decide)
    | (rw [Int.toNat_natCast]
       refine W.badd (by wtm_at "la") ?_
       intro _
       repeat' wtm_at "j"
       exact leafB q (by assumption) rfl)
    | trace_state
end

section
variable {prog : Program} {w : World} {A : Around} {E : Value → Heap → Prop} {h h₀ hc : Heap} {b : Bs} {v : Value} {Q : Value → Heap → Prop} {z y : Int} {t u : Tok} {a c P p f a' C L : Addr} {n k : Nat} {X : List Addr} {fz ob : List (Addr × K)} {l : List (Str × Value)} {xs : List Value} {ns : List Int} {env : Env} {pos : Pos}
theorem W.absN (x : ∀ (n : Nat) t, Q (.int (n : Int) t) h) : W prog w A (PySem.call (.builtin "abs") [.int z t]) Q E h := W.abs fun t => by
  have e : (if z < 0 then -z else z) = (z.natAbs : Int) := by split <;> wtm_at "la"
  rw [e]; exact x _ t
theorem W.modE (h0 : 0 < y) (x : ∀ t, Q (.int (z % y) t) h) : W prog w A (binaryOp .Mod (.int z t) (.int y u)) Q E h := W.mod (by wtm_at "la") fun t => by
  rw [Int.fmod_eq_emod_of_nonneg _ (by wtm_at "la")]; exact x t
theorem W.divE (h0 : 0 < y) (h1 : y < 1073741824) (x : ∀ t, Q (.int (z / y) t) h) : W prog w A (binaryOp .FloorDiv (.int z t) (.int y u)) Q E h := W.fdiv (by wtm_at "la") (PyProof.noPylong_small (by wtm_at "la")) fun t => by
  rw [Int.fdiv_eq_ediv_of_nonneg _ (by wtm_at "la")]; exact x t
theorem pm1 (j : Nat) : (([1, -1] : List Int).getD j 0).natAbs < 2 ^ 64 := by
  match j with
  | 0 => decide
  | 1 => decide
  | _ + 2 => simp
theorem chr5 {z : Int} (h : 0 ≤ z) : let v := ([32 + z % 90, 128 + z % 1900, 2048 + z % 50000, 65536 + z % 1000000, z % 128] : List Int).getD (z % 5).toNat 0; 0 ≤ v ∧ v ≤ 1114111 ∧ Str.isSurrogate v.toNat = false := by
  intro v
  have hs : ∀ x : Int, 0 ≤ x → (x < 55296 ∨ 57344 ≤ x) → Str.isSurrogate x.toNat = false := fun x h0 h1 => by
    unfold Str.isSurrogate
    rw [Bool.and_eq_false_iff]
    rcases h1 with h1 | h1
    · exact .inl (decide_eq_false (by wtm_at "la"))
    · exact .inr (decide_eq_false (by wtm_at "la"))
  have h5 : (z % 5).toNat = 0 ∨ (z % 5).toNat = 1 ∨ (z % 5).toNat = 2 ∨ (z % 5).toNat = 3 ∨ (z % 5).toNat = 4 := by wtm_at "la"
  have hv : v = ([32 + z % 90, 128 + z % 1900, 2048 + z % 50000, 65536 + z % 1000000, z % 128] : List Int).getD (z % 5).toNat 0 := rfl
  clear_value v
  rcases h5 with e | e | e | e | e <;> (rw [e] at hv; simp only [List.getD_cons_zero, List.getD_cons_succ] at hv; subst hv; exact ⟨by wtm_at "la", by wtm_at "la", hs _ (by wtm_at "la") (by wtm_at "la")⟩)
theorem W.cellC {scope : Scope} {cl : List (Str × Addr)} {x : Str} (S : St b h₀ X fz C l ob h) (hc : cl.lookup x = some c) (hm : (c, .cell (some v)) ∈ ob) (hk : scope.kind = .function) (hx : (compEnvC scope cl C env).kindOf x = some .cell) (hd : (x == ("__debug__" : Str)) = false) (q : Q v h) :
    W prog w A (eval (.Name x pos) (compEnvC scope cl C env)) Q E h := W.cellM S hc hm hk hx hd q
theorem gComp {scope : Scope} {cl : List (Str × Addr)} {x : Str} (q : W prog w A (eval (.Name x pos) (compEnvC scope cl C env)) Q E h) : W prog w A (eval (.Name x pos) (compEnvC scope cl C env)) Q E h := q
theorem W.chrS (h0 : 0 ≤ y ∧ y ≤ 1114111 ∧ Str.isSurrogate y.toNat = false) (x : ∀ (n : Nat) t, n < 1114112 → Str.isSurrogate n = false → Q (.str ⟨#[n]⟩ t) h) : W prog w A (PySem.call (.builtin "chr") [.int y t]) Q E h :=
  W.chr h0.1 h0.2.1 fun t => x _ t (by wtm_at "la") h0.2.2
end
section
variable {prog : Program} {w : World} {A : Around} {E : Value → Heap → Prop} {h h₀ hc : Heap} {b : Bs} {v : Value} {Q : Value → Heap → Prop} {z y : Int} {t u : Tok} {a c P p f a' C L : Addr} {n k : Nat} {X : List Addr} {fz ob : List (Addr × K)} {l : List (Str × Value)} {xs : List Value} {ns : List Int} {env : Env} {pos : Pos}
theorem leafV {p : PV} {h' : Heap} (q : ∀ v p h', okK k p → p.is v → Ext b.B [] h h' → Q v h') (S : St b h [] fz L l ob h') (ho : okK k p) (hv : p.is v) : Q v h' := q v p h' ho hv S.ext
theorem okK_i {k : Nat} {z : Int} (h : k < 11) (o : loK k ≤ z ∧ z < hiK k) : okK k (.i z) := by
  have h := k11 k h
  rcases h with rfl | rfl | rfl | rfl | rfl | rfl | rfl | rfl | rfl | rfl | rfl <;> exact o
theorem lohi {k : Nat} (h : k < 11) : loK k < hiK k ∧ loK k ≤ 0 ∧ 0 < hiK k := by
  have h := k11 k h
  rcases h with rfl | rfl | rfl | rfl | rfl | rfl | rfl | rfl | rfl | rfl | rfl <;> decide
noncomputable def nmOk (ns : List (Str × NameKind)) : Bool := ns.all fun x => match x.2 with
  | .local => (match ns.lookup x.1 with | some .local => true | _ => false)
  | _ => true
theorem nmOk_of {ns : List (Str × NameKind)} (e : nmOk ns = true) : ∀ x ∈ ns, x.2 = .local → ns.lookup x.1 = some .local := by
  intro x hx hl
  have := List.all_eq_true.mp e x hx
  rw [hl] at this
  dsimp only at this
  split at this
  · assumption
  · cases this
noncomputable def ncOk (ns : List (Str × NameKind)) : Bool := ns.all fun x => match x.2 with
  | .cell => false
  | _ => true
theorem ncOk_of {ns : List (Str × NameKind)} (e : ncOk ns = true) : ∀ x ∈ ns, x.2 ≠ .cell := by
  intro x hx hl
  have := List.all_eq_true.mp e x hx
  rw [hl] at this
  cases this
/-- texts of one sign -/
noncomputable def Sg (c : Str) : Prop := ∃ n, c = ⟨#[n]⟩ ∧ n < 1114112 ∧ Str.isSurrogate n = false
theorem sg_join : ∀ cs : List Str, (∀ c ∈ cs, Sg c) → (Str.join ⟨#[]⟩ cs).cps.size = cs.length ∧ ∀ n ∈ (Str.join ⟨#[]⟩ cs).cps.toList, n < 1114112 ∧ Str.isSurrogate n = false
  | [], _ => ⟨rfl, fun n h => nomatch h⟩
  | c :: r, h => by
    obtain ⟨n, rfl, h1, h2⟩ := h c (.head _)
    obtain ⟨i1, i2⟩ := sg_join r fun c hc => h c (.tail _ hc)
    rw [PyProof.Rows.join_nil_cons, Str.cps_append]
    refine ⟨by rw [Array.size_append, i1]; simp; wtm_at "la", fun m hm => ?_⟩
    rw [Array.toList_append, List.mem_append] at hm
    rcases hm with hm | hm
    · simp at hm; subst hm; exact ⟨h1, h2⟩
    · exact i2 m hm
theorem sg_fold : ∀ (cs : List Str) (n : Nat), (∀ c ∈ cs, Sg c) → cs.foldl (fun a x => a + x.length + (⟨#[]⟩ : Str).length) n = n + cs.length
  | [], n, _ => rfl
  | c :: r, n, h => by
    obtain ⟨m, rfl, _⟩ := h c (.head _)
    rw [List.foldl_cons, sg_fold r _ fun c hc => h c (.tail _ hc)]
    show n + 1 + 0 + r.length = n + (r.length + 1)
    wtm_at "la"
theorem sg_ok {cs : List Str} (h : ∀ c ∈ cs, Sg c) (hl : cs.length ≤ 1000) : JoinOk ⟨#[]⟩ cs = true := by
  unfold JoinOk
  rw [List.foldl_toArray, sg_fold cs 0 h]
  unfold Builtin.Str.tooLong
  rw [sizeLine_eq]
  simp; wtm_at "la"
theorem sg_text {cs : List Str} (h : ∀ c ∈ cs, Sg c) (hl : cs.length ≤ 1000) : okT (.s (Txt.join ⟨#[]⟩ cs)) := by
  have e : Txt.join ⟨#[]⟩ cs = Str.join ⟨#[]⟩ cs := StrLaws.glued_eq_join _ _
  rw [e]
  obtain ⟨h1, h2⟩ := sg_join cs h
  exact ⟨⟨fun c hc => (h2 c hc).2, by wtm_at "la"⟩, fun c hc => (h2 c hc).1⟩
theorem strVals.snoc {cs : List Str} {vs : List Value} (x : strVals cs vs) (c : Str) (t : Tok) : strVals (cs ++ [c]) (vs ++ [.str c t]) := by
  obtain ⟨l, rfl, rfl⟩ := x
  exact ⟨l ++ [(c, t)], by simp [strValues], by simp⟩
theorem strVals.len {cs : List Str} {vs : List Value} (x : strVals cs vs) : vs.length = cs.length := by
  obtain ⟨l, rfl, rfl⟩ := x
  simp [strValues]
noncomputable def LSg (p cc : Addr) (x0 : Addr × K) (i : Nat) (l : List (Str × Value)) (ob : List (Addr × K)) : Prop :=
  ∃ z t vs cs, 0 ≤ z ∧ ob = [x0, (p, .lst vs), (cc, .cell (some (.int z t)))] ∧ l.lookup (Str.ofString "signs") = some (.ref p) ∧ strVals cs vs ∧ (∀ c ∈ cs, Sg c) ∧ cs.length = i
theorem cnt_of {n : Nat} {x : Bool} : 0 ≤ (([(n : Int) % 40, 127 + (n : Int) % 4] : List Int).getD (if x = true then (1 : Int) else 0).toNat 0) ∧ (([(n : Int) % 40, 127 + (n : Int) % 4] : List Int).getD (if x = true then (1 : Int) else 0).toNat 0) ≤ 130 := by
  cases x
  · show 0 ≤ (n : Int) % 40 ∧ (n : Int) % 40 ≤ 130; wtm_at "la"
  · show 0 ≤ 127 + (n : Int) % 4 ∧ 127 + (n : Int) % 4 ≤ 130; wtm_at "la"
theorem three_of {k : Nat} {lo hi : Int} (h : lo < hi ∧ lo ≤ 0 ∧ 0 < hi) (j : Nat) (hj : j < 3) : lo ≤ ([lo, hi - 1, 0] : List Int).getD j 0 ∧ ([lo, hi - 1, 0] : List Int).getD j 0 < hi := by
  match j, hj with
  | 0, _ => show lo ≤ lo ∧ lo < hi; wtm_at "la"
  | 1, _ => show lo ≤ hi - 1 ∧ hi - 1 < hi; wtm_at "la"
  | 2, _ => show lo ≤ 0 ∧ 0 < hi; wtm_at "la"
noncomputable def cEnd (p q : Prop) : Prop := p ∧ q
section
variable {elt iter : Expr} {x : Str} {px : Pos} {scope : Scope} {cpos : Pos} {cl : List (Str × Addr)} {use : Option (Value → Sem Unit)}
theorem compK.rangeC {N : Nat} {t u v : Tok}
    (J : Nat → List Value → Prop) (R : A.handled = none) (S : St b h₀ X fz L l ob h) (hr : IsRange h a 0 N 1 t u v) (hn : N ≤ 16777216)
    (hkind : scope.kind = .function) (hcell : ∀ y ∈ scope.names, y.2 ≠ .cell) (hx : ∀ C, (compEnvC scope cl C env).kindOf x = some .local) (hL : env.locals = L) (h0 : J 0 [])
    (turn : ∀ C D it i tk ys m h, i < N → J i ys → ys.length = i → St b h₀ X fz C ((x, .int i tk) :: m) ((L, .ns l) :: (D, .lst ys) :: (it, .rit (i + 1 : Nat) ((N : Int) - (i + 1 : Nat)) 1) :: ob) h →
      W prog w A (eval elt (compEnvC scope cl C env)) (fun y h' => cEnd (J (i + 1) (ys ++ [y])) (St b h₀ X fz C ((x, .int i tk) :: m) ((L, .ns l) :: (D, .lst ys) :: (it, .rit (i + 1 : Nat) ((N : Int) - (i + 1 : Nat)) 1) :: ob) h')) (fun _ _ => False) h)
    (fin : ∀ D ys, J N ys → ys.length = N → useK prog w A use Q b h₀ X fz L l ob D ys) : compK prog w A elt iter x px scope cpos cl env use Q (.ref a) h :=
  compK.range J R S hr (by rw [sizeLine_eq]; exact hn) hkind hcell hx hL h0 turn fin
/-- over a list that stands in the frame's objects -/
theorem compK.listO {xs : List Value}
    (J : Nat → List Value → Prop) (R : A.handled = none) (S : St b h₀ X fz L l ob h) (hm : (a, .lst xs) ∈ ob) (hn : xs.length ≤ 16777216)
    (hkind : scope.kind = .function) (hcell : ∀ y ∈ scope.names, y.2 ≠ .cell) (hx : ∀ C, (compEnvC scope cl C env).kindOf x = some .local) (hL : env.locals = L) (h0 : J 0 [])
    (turn : ∀ C D it i v ys m h, xs[i]? = some v → J i ys → ys.length = i → St b h₀ X fz C ((x, v) :: m) ((L, .ns l) :: (D, .lst ys) :: (it, .it a (i + 1)) :: ob) h →
      W prog w A (eval elt (compEnvC scope cl C env)) (fun y h' => cEnd (J (i + 1) (ys ++ [y])) (St b h₀ X fz C ((x, v) :: m) ((L, .ns l) :: (D, .lst ys) :: (it, .it a (i + 1)) :: ob) h')) (fun _ _ => False) h)
    (fin : ∀ D ys, J xs.length ys → ys.length = xs.length → useK prog w A use Q b h₀ X fz L l ob D ys) : compK prog w A elt iter x px scope cpos cl env use Q (.ref a) h :=
  compK.list J R S (fun L l ob' h sub S => S.obs _ (sub _ hm)) (by rw [sizeLine_eq]; exact hn) hkind hcell hx hL h0 turn fin
/-- .. or stays -/
theorem compK.listF {xs : List Value}
    (J : Nat → List Value → Prop) (R : A.handled = none) (S : St b h₀ X fz L l ob h) (hm : (a, .lst xs) ∈ fz) (hn : xs.length ≤ 16777216)
    (hkind : scope.kind = .function) (hcell : ∀ y ∈ scope.names, y.2 ≠ .cell) (hx : ∀ C, (compEnvC scope cl C env).kindOf x = some .local) (hL : env.locals = L) (h0 : J 0 [])
    (turn : ∀ C D it i v ys m h, xs[i]? = some v → J i ys → ys.length = i → St b h₀ X fz C ((x, v) :: m) ((L, .ns l) :: (D, .lst ys) :: (it, .it a (i + 1)) :: ob) h →
      W prog w A (eval elt (compEnvC scope cl C env)) (fun y h' => cEnd (J (i + 1) (ys ++ [y])) (St b h₀ X fz C ((x, v) :: m) ((L, .ns l) :: (D, .lst ys) :: (it, .it a (i + 1)) :: ob) h')) (fun _ _ => False) h)
    (fin : ∀ D ys, J xs.length ys → ys.length = xs.length → useK prog w A use Q b h₀ X fz L l ob D ys) : compK prog w A elt iter x px scope cpos cl env use Q (.ref a) h :=
  compK.list J R S (fun L l ob' h sub S => S.fzAt hm) (by rw [sizeLine_eq]; exact hn) hkind hcell hx hL h0 turn fin
end
theorem loopK.turn {P : Heap → Prop} {N i : Nat} {Q : Flow → Heap → Prop} (hi : i < N) (x : P h) : loopK (fun m h₂ => m + i + 1 = N ∧ P h₂) (N - i) Q .next h := loopK.next (m := N - i - 1) (by wtm_at "la") ⟨by wtm_at "la", x⟩
theorem mod_in {lo hi z : Int} (h : lo < hi) : lo ≤ lo + z % (hi - lo) ∧ lo + z % (hi - lo) < hi := by
  have h1 := Int.emod_nonneg z (b := hi - lo) (by wtm_at "la")
  have h2 := Int.emod_lt_of_pos z (b := hi - lo) (by wtm_at "la")
  wtm_at "la"
theorem St.cnt {n : Nat} {x : Bool} (S : St b h₀ X fz L ((Str.ofString "count", .int (([(n : Int) % 40, 127 + (n : Int) % 4] : List Int).getD (if x = true then (1 : Int) else 0).toNat 0) t) :: l) ob h) : ∃ N : Nat, N ≤ 130 ∧ St b h₀ X fz L ((Str.ofString "count", .int (N : Int) t) :: l) ob h := by
  obtain ⟨h1, h2⟩ := @cnt_of n x
  obtain ⟨N, hN⟩ := Int.eq_ofNat_of_zero_le h1
  rw [hN] at S h2
  exact ⟨N, by wtm_at "la", S⟩
theorem W.unpack2 {Q : Unit → Heap → Prop} {x y : Str} {px py tpos : Pos} {k : Nat} {v₁ v₂ : Value} (R : A.handled = none) (S : St b h₀ X fz L l ob h) (hi : (a, .tup [v₁, v₂]) ∈ ob)
    (q : ∀ h', St b h₀ X fz L l ob h' → W prog w A (PySem.assign (.Name x px) env v₁) (fun _ h₁ => W prog w A (PySem.assign (.Name y py) env v₂) Q E h₁) E h') :
    W prog w A (PySem.assign (.Tuple [.Name x px, .Name y py] k tpos) env (.ref a)) Q E h := by
  refine W.unpack R S hi rfl rfl fun h' S' => ?_
  show W prog w A (assignInOrder [PySem.assign (.Name x px) env, PySem.assign (.Name y py) env] [v₁, v₂]) Q E h'
  exact W.inOrder1 (W.mono (q h' S') (fun _ _ y => W.inOrder1 (W.mono y (fun _ _ z => W.inOrder0 z) fun _ _ z => z)) fun _ _ z => z)
theorem W.joinSM {cs : List Str} {vs : List Value} (S : St b h₀ X fz L l ob h) (hm : (a, .lst vs) ∈ ob) (hb : strVals cs vs) (hz : JoinOk ⟨#[]⟩ cs = true) (q : ∀ t, Q (.str (Txt.join ⟨#[]⟩ cs) t) h) :
    W prog w A (PySem.call (.builtin "str.join") [.str ⟨#[]⟩ t, .ref a]) Q E h := W.joinS (S.obs _ hm) hb hz q
theorem s_law_value (H : Hyp b) (O : Ok b h) (R : Room 2 A) (hk : k < 14) (q : ∀ v p h', okK k p → p.is v → Ext b.B [] h h' → Q v h') :
    W prog w A (PySem.call (.ref (b.fa "_law_value")) [.int (k : Int) t, .int z u]) Q E h := by
  have F := H.fn 78 (by decide)
  refine W.def0 H O F R [("kind", .int (k : Int) t), ("cell", .int z u)] (fun _ _ _ _ _ _ _ => by rfl) ?_
  intro L h₁ A' cd R' S
  dsimp only [cf0, cfc, cfl, cff, cfg, co0, coc, col, cof, cog, List.nil_append, List.cons_append] at S ⊢
  repeat' wtm_at "j"
  · have e : k = 11 := by wtm_at "la"
    rw [e] at q
    exact leafV (p := .b _) q (by assumption) trivial rfl
  · rename_i hrg S₂
    have e : k = 12 := by wtm_at "la"
    rw [e] at q
    refine forK.range (LSg _ _ _) R'.hh S₂ ⟨_, _, _, [], (by wtm_at "la"), rfl, by wtm_at "lk", ⟨[], rfl, rfl⟩, (fun _ h => nomatch h), rfl⟩ hrg (by wtm_at "la") (by wtm_at "la") ?_ ?_
    · clear S₂ S
      rintro it i tk l ob h hi ⟨z, t, vs, cs, hz, rfl, hr1, hb, hsg, hlen⟩ hit S
      have hvl := hb.len
      repeat' wtm_at "j"
      refine W.chrS (chr5 (by wtm_at "la")) fun n t hn1 hn2 => ?_
      repeat' wtm_at "j"
      rename_i S₃
      refine loopK.turn (by wtm_at "la") ⟨_, _, ⟨_, _, _, _, ?_, rfl, by wtm_at "lk", hb.snoc _ _, ?_, ?_⟩, S₃.drop⟩
      · wtm_at "la"
      · intro c hc
        rcases List.mem_append.mp hc with hc | hc
        · exact hsg c hc
        · rw [List.mem_singleton] at hc; exact ⟨n, hc, hn1, hn2⟩
      · rw [List.length_append, hlen]; rfl
    · rintro l ob h ⟨z, t, vs, cs, hz, rfl, hr1, hb, hsg, hlen⟩ S
      repeat' wtm_at "j"
      refine W.joinSM S (by wtm_at "mem") hb (sg_ok hsg (by wtm_at "la")) fun t => ?_
      repeat' wtm_at "j"
      exact leafV (p := .s _) q S (sg_text hsg (by wtm_at "la")) ⟨_, rfl⟩
  · rename_i S₂
    have e : k = 13 := by wtm_at "la"
    rw [e] at q
    obtain ⟨N, hN, S₃⟩ := S₂.cnt
    clear S₂
    refine W.comp rfl rfl (nmOk_of (by kernel_rfl!)) ?_
    repeat' wtm_at "j"
    rename_i hrg S₄
    refine compK.rangeC (fun _ ys => ∃ ns, IntsAre ys ns ∧ ∀ x ∈ ns, 0 ≤ x ∧ x < 256) R'.hh S₄ hrg (by wtm_at "la") rfl (ncOk_of (by kernel_rfl!)) (fun _ => by kernel_rfl!) rfl ⟨_, .nil, fun _ h => nomatch h⟩ ?_ ?_
    · clear S S₃ S₄
      rintro C D it i tk ys m h hi ⟨ns, his, hns⟩ hlen S
      repeat' wtm_at "j"
      refine ⟨⟨_, his.append (.cons _ _ .nil), ints_in hns fun y hy => ?_⟩, S⟩
      rw [List.mem_singleton] at hy; subst hy; wtm_at "la"
    · rintro D ys ⟨ns, his, hns⟩ hlen h S
      repeat' wtm_at "j"
      refine W.bytesN R'.hh S (by wtm_at "mem") his hns (by wtm_at "la") ?_
      intro tb h₅ S₅
      repeat' wtm_at "j"
      refine leafV (p := .y _) q S₅ ?_ ⟨_, rfl⟩
      show (bl ns).length ≤ 4000
      rw [bl_len, ← his.length]; wtm_at "la"
  · have h11 : k < 11 := by wtm_at "la"
    have hlh := lohi h11
    refine s_law_bounds H (by wtm_at "ok") (R'.le (by decide)) h11 ?_
    intro a t1 t2 h₂ x₂ hf hat
    rename_i S₂ _ _ _ _ _ _
    have S₃ := S₂.add x₂ hf hat
    refine W.unpack2 R'.hh S₃ (.head _) ?_
    intro h₃ S₄
    iterate 5 wtm_at "j"
    rename_i h₅ S₅
    clear S S₂ S₃ S₄ x₂ hf hat
    refine W.consK fun KK iK => ?_
    have tail : KK .next h₅ := by
      refine iK _ _ (seqK.next ?_)
      clear iK
      repeat' wtm_at "j"
      all_goals first
        | exact leafV (p := .i _) q (by assumption) (okK_i h11 ⟨by wtm_at "la", by wtm_at "la"⟩) ⟨_, rfl⟩
        | exact leafV (p := .i _) q (by assumption) (okK_i h11 (three_of (k := k) hlh _ (by wtm_at "la"))) ⟨_, rfl⟩
        | exact leafV (p := .i _) q (by assumption) (okK_i h11 (mod_in hlh.1)) ⟨_, rfl⟩
    repeat' wtm_at "j"
    all_goals first
      | exact tail
      | (refine iK _ _ (seqK.ret (retK.ret ?_)); exact leafV (p := .i _) q (by assumption) (okK_i h11 ⟨by wtm_at "la", by wtm_at "la"⟩) ⟨_, rfl⟩)
end

section
variable {prog : Program} {w : World} {A : Around} {E : Value → Heap → Prop} {h h₀ hc : Heap} {b : Bs} {v : Value} {Q : Value → Heap → Prop} {z y num : Int} {t u : Tok} {a c P p f a' C L : Addr} {n k : Nat} {X : List Addr} {fz ob : List (Addr × K)} {l : List (Str × Value)} {xs : List Value} {ns : List Int} {env : Env} {pos : Pos}
theorem okI_mono {P P' : Int → Prop} {p : PV} (f : ∀ z, P z → P' z) (h : okI P p) : okI P' p := by
  cases p with
  | i z => exact f z h
  | _ => exact h.elim
theorem okI_get {P : Int → Prop} {p : PV} (h : okI P p) : ∃ z, p = .i z ∧ P z := by
  cases p with
  | i z => exact ⟨z, rfl, h⟩
  | _ => exact h.elim
theorem Arg.mono {ok ok' : PV → Prop} {arg : Arg} (f : ∀ p, ok p → ok' p) (h : arg.all ok) : arg.all ok' := by
  cases arg with
  | one p => exact f p h
  | many ps => exact fun p hp => f p (h p hp)
theorem Arg.ext {h' : Heap} {arg : Arg} (x : arg.is h v) (e : Ext b.B [] h h') : arg.is h' v := by
  cases arg with
  | one p => exact x
  | many ps => obtain ⟨a, xs, rfl, hl, r⟩ := x; exact ⟨a, xs, rfl, K.ext (k := .lst xs) e List.not_mem_nil hl, r⟩
noncomputable def szK : Nat → PV → Int
  | 0 => szI vm
  | 1 => szI vm
  | 2 => szI vm
  | 3 => szI vz
  | 4 => szI vz
  | 5 => szI fun z => vm (zz z)
  | 6 => szI fun z => vm (zz z)
  | 7 => fun _ => 4
  | 8 => fun _ => 8
  | 9 => fun _ => 4
  | 10 => fun _ => 8
  | 11 => fun _ => 1
  | 12 => szS
  | _ => szY
theorem ok32 {k : Nat} (hk : k < 11) (p : PV) (h : okK k p) : ∃ z, p = .i z ∧ okN k z := by
  have e := k11 k hk
  rcases e with rfl | rfl | rfl | rfl | rfl | rfl | rfl | rfl | rfl | rfl | rfl <;> exact okI_get h
theorem okZ_of {k : Nat} {z : Int} (hk : k = 0 ∨ k = 1 ∨ k = 2 ∨ k = 5 ∨ k = 6) (h : okN k z) : okZ z := by
  obtain ⟨h1, h2⟩ := h
  rcases hk with rfl | rfl | rfl | rfl | rfl <;> (simp only [loK, hiK] at h1 h2; exact ⟨by wtm_at "la", by wtm_at "la"⟩)
theorem okU_of {k : Nat} {z : Int} (hk : k = 3 ∨ k = 4) (h : okN k z) : okU z := by
  obtain ⟨h1, h2⟩ := h
  rcases hk with rfl | rfl <;> (simp only [loK, hiK] at h1 h2; exact ⟨by wtm_at "la", by wtm_at "la"⟩)
theorem pZ {k : Nat} (hk : k = 0 ∨ k = 1 ∨ k = 2 ∨ k = 5 ∨ k = 6) (p : PV) (h : okK k p) : okI okZ p := by
  obtain ⟨z, rfl, hz⟩ := ok32 (by wtm_at "la") p h
  exact okZ_of hk hz
theorem pU {k : Nat} (hk : k = 3 ∨ k = 4) (p : PV) (h : okK k p) : okI okU p := by
  obtain ⟨z, rfl, hz⟩ := ok32 (by wtm_at "la") p h
  exact okU_of hk hz
theorem pW {p : PV} (h : okI okZ p) : okI okW p := okI_mono (fun _ h => okZW h) h
theorem s_law_one {p : PV} (H : Hyp b) (O : Ok b h) (R : Room 2 A) (hk : k < 14) (hp : okK k p) (hv : p.is v) (q : ∀ t h', Ext b.B [] h h' → Q (.bytes (encK k p).toArray t) h') :
    W prog w A (PySem.call (.ref (b.fa "_law_one")) [.int (k : Int) t, v]) Q E h := by
  by_cases h11 : k < 11
  · obtain ⟨z, rfl, hz⟩ := ok32 h11 p hp
    obtain ⟨t', rfl⟩ := hv
    exact s_law_oneI H O R h11 hz q
  · have e : k = 11 ∨ k = 12 ∨ k = 13 := by wtm_at "la"
    rcases e with rfl | rfl | rfl
    · cases p with
      | b x => have e : v = .bool x := hv; subst e; exact s_law_oneB H O R q
      | _ => exact hp.elim
    · cases p with
      | s x => obtain ⟨t', rfl⟩ := hv; exact s_law_oneS H O R hp q
      | _ => exact hp.elim
    · cases p with
      | y x => obtain ⟨t', rfl⟩ := hv; exact s_law_oneY H O R hp q
      | _ => exact hp.elim
theorem s_law_size {m : Mode} {arg : Arg} (H : Hyp b) (O : Ok b h) (R : Room 7 A) (hk : k < 14) (h0 : 0 ≤ num) (h1 : num < 2 ^ 29) (hv : arg.is h v) (hfit : arg.fit m) (hall : arg.all (okK k)) (hm : k < 12 ∨ m ≠ .pack) (q : ∀ t h', Ext b.B [] h h' → Q (.int (fsize num (szK k) m arg) t) h') :
    W prog w A (PySem.call (.ref (b.fa "_law_size")) [.int (k : Int) t, .int num u, .bool m.r, .bool m.p, v]) Q E h := by
  have F := H.fn 81 (by decide)
  refine W.def0 H O F R [("kind", .int (k : Int) t), ("number", .int num u), ("repeated", .bool m.r), ("packed", .bool m.p), ("value", v)] (fun _ _ _ _ _ _ _ => by rfl) ?_
  intro L h₁ A' cd R' S
  repeat' wtm_at "j"
  · have e : k = 0 := by wtm_at "la"
    rw [e] at hall q
    refine s_Int32Sizer H (by wtm_at "ok") (R'.le (by decide)) h0 (by wtm_at "la") ?_
    intro g h₅ x₅ ok₅
    have hf := ok₅.fnat
    have S₅ := St.ext0 (by assumption) x₅
    repeat' wtm_at "j"
    refine ok₅.run .refl S₅.ok (R'.le (by decide)) (Arg.ext hv S₅.ext) hfit (Arg.mono (fun p h => pW (pZ (by decide) p h)) hall) ?_
    intro t h₆ x₆
    repeat' wtm_at "j"
    exact q _ _ (S₅.ext0 x₆).ext
  · have e : k = 1 := by wtm_at "la"
    rw [e] at hall q
    refine s_Int64Sizer H (by wtm_at "ok") (R'.le (by decide)) h0 (by wtm_at "la") ?_
    intro g h₅ x₅ ok₅
    have hf := ok₅.fnat
    have S₅ := St.ext0 (by assumption) x₅
    repeat' wtm_at "j"
    refine ok₅.run .refl S₅.ok (R'.le (by decide)) (Arg.ext hv S₅.ext) hfit (Arg.mono (fun p h => pW (pZ (by decide) p h)) hall) ?_
    intro t h₆ x₆
    repeat' wtm_at "j"
    exact q _ _ (S₅.ext0 x₆).ext
  · have e : k = 2 := by wtm_at "la"
    rw [e] at hall q
    refine s_EnumSizer H (by wtm_at "ok") (R'.le (by decide)) h0 (by wtm_at "la") ?_
    intro g h₅ x₅ ok₅
    have hf := ok₅.fnat
    have S₅ := St.ext0 (by assumption) x₅
    repeat' wtm_at "j"
    refine ok₅.run .refl S₅.ok (R'.le (by decide)) (Arg.ext hv S₅.ext) hfit (Arg.mono (fun p h => pW (pZ (by decide) p h)) hall) ?_
    intro t h₆ x₆
    repeat' wtm_at "j"
    exact q _ _ (S₅.ext0 x₆).ext
  · have e : k = 3 := by wtm_at "la"
    rw [e] at hall q
    refine s_UInt32Sizer H (by wtm_at "ok") (R'.le (by decide)) h0 (by wtm_at "la") ?_
    intro g h₅ x₅ ok₅
    have hf := ok₅.fnat
    have S₅ := St.ext0 (by assumption) x₅
    repeat' wtm_at "j"
    refine ok₅.run .refl S₅.ok (R'.le (by decide)) (Arg.ext hv S₅.ext) hfit (Arg.mono (pU (by decide)) hall) ?_
    intro t h₆ x₆
    repeat' wtm_at "j"
    exact q _ _ (S₅.ext0 x₆).ext
  · have e : k = 4 := by wtm_at "la"
    rw [e] at hall q
    refine s_UInt64Sizer H (by wtm_at "ok") (R'.le (by decide)) h0 (by wtm_at "la") ?_
    intro g h₅ x₅ ok₅
    have hf := ok₅.fnat
    have S₅ := St.ext0 (by assumption) x₅
    repeat' wtm_at "j"
    refine ok₅.run .refl S₅.ok (R'.le (by decide)) (Arg.ext hv S₅.ext) hfit (Arg.mono (pU (by decide)) hall) ?_
    intro t h₆ x₆
    repeat' wtm_at "j"
    exact q _ _ (S₅.ext0 x₆).ext
  · have e : k = 5 := by wtm_at "la"
    rw [e] at hall q
    refine s_SInt32Sizer H (by wtm_at "ok") (R'.le (by decide)) h0 (by wtm_at "la") ?_
    intro g h₅ x₅ ok₅
    have hf := ok₅.fnat
    have S₅ := St.ext0 (by assumption) x₅
    repeat' wtm_at "j"
    refine ok₅.run .refl S₅.ok (R'.le (by decide)) (Arg.ext hv S₅.ext) hfit (Arg.mono (pZ (by decide)) hall) ?_
    intro t h₆ x₆
    repeat' wtm_at "j"
    exact q _ _ (S₅.ext0 x₆).ext
  · have e : k = 6 := by wtm_at "la"
    rw [e] at hall q
    refine s_SInt64Sizer H (by wtm_at "ok") (R'.le (by decide)) h0 (by wtm_at "la") ?_
    intro g h₅ x₅ ok₅
    have hf := ok₅.fnat
    have S₅ := St.ext0 (by assumption) x₅
    repeat' wtm_at "j"
    refine ok₅.run .refl S₅.ok (R'.le (by decide)) (Arg.ext hv S₅.ext) hfit (Arg.mono (pZ (by decide)) hall) ?_
    intro t h₆ x₆
    repeat' wtm_at "j"
    exact q _ _ (S₅.ext0 x₆).ext
  · have e : k = 7 := by wtm_at "la"
    rw [e] at hall q
    refine s_Fixed32Sizer H (by wtm_at "ok") (R'.le (by decide)) h0 (by wtm_at "la") ?_
    intro g h₅ x₅ ok₅
    have hf := ok₅.fnat
    have S₅ := St.ext0 (by assumption) x₅
    repeat' wtm_at "j"
    refine ok₅.run .refl S₅.ok (R'.le (by decide)) (Arg.ext hv S₅.ext) hfit (Arg.mono (fun _ _ => trivial) hall) ?_
    intro t h₆ x₆
    repeat' wtm_at "j"
    exact q _ _ (S₅.ext0 x₆).ext
  · have e : k = 8 := by wtm_at "la"
    rw [e] at hall q
    refine s_Fixed64Sizer H (by wtm_at "ok") (R'.le (by decide)) h0 (by wtm_at "la") ?_
    intro g h₅ x₅ ok₅
    have hf := ok₅.fnat
    have S₅ := St.ext0 (by assumption) x₅
    repeat' wtm_at "j"
    refine ok₅.run .refl S₅.ok (R'.le (by decide)) (Arg.ext hv S₅.ext) hfit (Arg.mono (fun _ _ => trivial) hall) ?_
    intro t h₆ x₆
    repeat' wtm_at "j"
    exact q _ _ (S₅.ext0 x₆).ext
  · have e : k = 9 := by wtm_at "la"
    rw [e] at hall q
    refine s_SFixed32Sizer H (by wtm_at "ok") (R'.le (by decide)) h0 (by wtm_at "la") ?_
    intro g h₅ x₅ ok₅
    have hf := ok₅.fnat
    have S₅ := St.ext0 (by assumption) x₅
    repeat' wtm_at "j"
    refine ok₅.run .refl S₅.ok (R'.le (by decide)) (Arg.ext hv S₅.ext) hfit (Arg.mono (fun _ _ => trivial) hall) ?_
    intro t h₆ x₆
    repeat' wtm_at "j"
    exact q _ _ (S₅.ext0 x₆).ext
  · have e : k = 10 := by wtm_at "la"
    rw [e] at hall q
    refine s_SFixed64Sizer H (by wtm_at "ok") (R'.le (by decide)) h0 (by wtm_at "la") ?_
    intro g h₅ x₅ ok₅
    have hf := ok₅.fnat
    have S₅ := St.ext0 (by assumption) x₅
    repeat' wtm_at "j"
    refine ok₅.run .refl S₅.ok (R'.le (by decide)) (Arg.ext hv S₅.ext) hfit (Arg.mono (fun _ _ => trivial) hall) ?_
    intro t h₆ x₆
    repeat' wtm_at "j"
    exact q _ _ (S₅.ext0 x₆).ext
  · have e : k = 11 := by wtm_at "la"
    rw [e] at hall q
    refine s_BoolSizer H (by wtm_at "ok") (R'.le (by decide)) h0 (by wtm_at "la") ?_
    intro g h₅ x₅ ok₅
    have hf := ok₅.fnat
    have S₅ := St.ext0 (by assumption) x₅
    repeat' wtm_at "j"
    refine ok₅.run .refl S₅.ok (R'.le (by decide)) (Arg.ext hv S₅.ext) hfit (Arg.mono (fun _ _ => trivial) hall) ?_
    intro t h₆ x₆
    repeat' wtm_at "j"
    exact q _ _ (S₅.ext0 x₆).ext
  · have e : k = 12 := by wtm_at "la"
    rw [e] at hall q
    refine s_StringSizer H (by wtm_at "ok") (R'.le (by decide)) h0 (by wtm_at "la") (by rcases hm with h | h <;> first | exact h | wtm_at "la") ?_
    intro g h₅ x₅ ok₅
    have hf := ok₅.fnat
    have S₅ := St.ext0 (by assumption) x₅
    repeat' wtm_at "j"
    refine ok₅.run .refl S₅.ok (R'.le (by decide)) (Arg.ext hv S₅.ext) hfit (Arg.mono (fun p h => by cases p <;> first | exact h.elim | exact h.1) hall) ?_
    intro t h₆ x₆
    repeat' wtm_at "j"
    exact q _ _ (S₅.ext0 x₆).ext
  · have e : k = 13 := by wtm_at "la"
    rw [e] at hall q
    refine s_BytesSizer H (by wtm_at "ok") (R'.le (by decide)) h0 (by wtm_at "la") (by rcases hm with h | h <;> first | exact h | wtm_at "la") ?_
    intro g h₅ x₅ ok₅
    have hf := ok₅.fnat
    have S₅ := St.ext0 (by assumption) x₅
    repeat' wtm_at "j"
    refine ok₅.run .refl S₅.ok (R'.le (by decide)) (Arg.ext hv S₅.ext) hfit hall ?_
    intro t h₆ x₆
    repeat' wtm_at "j"
    exact q _ _ (S₅.ext0 x₆).ext
theorem s_law_told {p : PV} (H : Hyp b) (O : Ok b h) (R : Room 6 A) (hk : k < 14) (h0 : 0 ≤ num) (h1 : num < 2 ^ 29) (hp : okK k p) (hv : p.is v) (he : k ≠ 2 ∨ ∃ z, p = .i z ∧ 0 ≤ z) (q : ∀ t h', Ext b.B [] h h' → Q (.int (vz (8 * num) + szK k p) t) h') :
    W prog w A (PySem.call (.ref (b.fa "_law_told")) [.int (k : Int) t, .int num u, v]) Q E h := by
  have F := H.fn 83 (by decide)
  refine W.def0 H O F R [("kind", .int (k : Int) t), ("number", .int num u), ("value", v)] (fun _ _ _ _ _ _ _ => by rfl) ?_
  intro L h₁ A' cd R' S
  repeat' wtm_at "j"
  · have e : k = 0 := by wtm_at "la"
    rw [e] at hp q
    obtain ⟨z, rfl, hz⟩ := ok32 (by decide) p hp
    obtain ⟨t', hv'⟩ := hv
    rw [hv']
    have hz := okZ_of (by decide) hz
    have hz1 := hz.1
    have hz2 := hz.2
    refine s_Int32ByteSize H (by wtm_at "ok") (R'.le (by decide)) h0 (by wtm_at "la") (by wtm_at "la") (by wtm_at "la") (St.useI (by assumption) ?_)
    intro _ _ _
    repeat' wtm_at "j"
    exact leafI q (by assumption) rfl
  · have e : k = 1 := by wtm_at "la"
    rw [e] at hp q
    obtain ⟨z, rfl, hz⟩ := ok32 (by decide) p hp
    obtain ⟨t', hv'⟩ := hv
    rw [hv']
    have hz := okZ_of (by decide) hz
    have hz1 := hz.1
    have hz2 := hz.2
    refine s_Int64ByteSize H (by wtm_at "ok") (R'.le (by decide)) h0 (by wtm_at "la") (by wtm_at "la") (by wtm_at "la") (St.useI (by assumption) ?_)
    intro _ _ _
    repeat' wtm_at "j"
    exact leafI q (by assumption) rfl
  · have e : k = 2 := by wtm_at "la"
    rw [e] at hp q
    obtain ⟨z, rfl, hz⟩ := ok32 (by decide) p hp
    obtain ⟨t', hv'⟩ := hv
    rw [hv']
    have hz := okZ_of (by decide) hz
    have hz1 := hz.1
    have hz2 := hz.2
    have hz3 : 0 ≤ z := by
      rcases he with h | ⟨z', e, h⟩
      · exact absurd e h
      · cases e; exact h
    refine s_EnumByteSize H (by wtm_at "ok") (R'.le (by decide)) h0 (by wtm_at "la") (by wtm_at "la") (by wtm_at "la") (St.useI (by assumption) ?_)
    intro _ _ _
    repeat' wtm_at "j"
    exact leafI q (by assumption) (by show vz (8 * num) + vz z = vz (8 * num) + vm z; rw [vm_pos hz3 (by wtm_at "la")])
  · have e : k = 3 := by wtm_at "la"
    rw [e] at hp q
    obtain ⟨z, rfl, hz⟩ := ok32 (by decide) p hp
    obtain ⟨t', hv'⟩ := hv
    rw [hv']
    have hz := okU_of (by decide) hz
    have hz1 := hz.1
    have hz2 := hz.2
    refine s_UInt32ByteSize H (by wtm_at "ok") (R'.le (by decide)) h0 (by wtm_at "la") (by wtm_at "la") (by wtm_at "la") (St.useI (by assumption) ?_)
    intro _ _ _
    repeat' wtm_at "j"
    exact leafI q (by assumption) rfl
  · have e : k = 4 := by wtm_at "la"
    rw [e] at hp q
    obtain ⟨z, rfl, hz⟩ := ok32 (by decide) p hp
    obtain ⟨t', hv'⟩ := hv
    rw [hv']
    have hz := okU_of (by decide) hz
    have hz1 := hz.1
    have hz2 := hz.2
    refine s_UInt64ByteSize H (by wtm_at "ok") (R'.le (by decide)) h0 (by wtm_at "la") (by wtm_at "la") (by wtm_at "la") (St.useI (by assumption) ?_)
    intro _ _ _
    repeat' wtm_at "j"
    exact leafI q (by assumption) rfl
  · have e : k = 5 := by wtm_at "la"
    rw [e] at hp q
    obtain ⟨z, rfl, hz⟩ := ok32 (by decide) p hp
    obtain ⟨t', hv'⟩ := hv
    rw [hv']
    have hz := okZ_of (by decide) hz
    have hz1 := hz.1
    have hz2 := hz.2
    refine s_SInt32ByteSize H (by wtm_at "ok") (R'.le (by decide)) h0 (by wtm_at "la") (by wtm_at "la") (by wtm_at "la") (St.useI (by assumption) ?_)
    intro _ _ _
    repeat' wtm_at "j"
    exact leafI q (by assumption) (by show vz (8 * num) + vz (zz z) = vz (8 * num) + vm (zz z); rw [vm_pos (zz_range hz1 hz2).1 (zz_range hz1 hz2).2])
  · have e : k = 6 := by wtm_at "la"
    rw [e] at hp q
    obtain ⟨z, rfl, hz⟩ := ok32 (by decide) p hp
    obtain ⟨t', hv'⟩ := hv
    rw [hv']
    have hz := okZ_of (by decide) hz
    have hz1 := hz.1
    have hz2 := hz.2
    refine s_SInt64ByteSize H (by wtm_at "ok") (R'.le (by decide)) h0 (by wtm_at "la") (by wtm_at "la") (by wtm_at "la") (St.useI (by assumption) ?_)
    intro _ _ _
    repeat' wtm_at "j"
    exact leafI q (by assumption) (by show vz (8 * num) + vz (zz z) = vz (8 * num) + vm (zz z); rw [vm_pos (zz_range hz1 hz2).1 (zz_range hz1 hz2).2])
  · have e : k = 7 := by wtm_at "la"
    rw [e] at hp q
    exact leafI q (by assumption) rfl
  · have e : k = 8 := by wtm_at "la"
    rw [e] at hp q
    exact leafI q (by assumption) rfl
  · have e : k = 9 := by wtm_at "la"
    rw [e] at hp q
    exact leafI q (by assumption) rfl
  · have e : k = 10 := by wtm_at "la"
    rw [e] at hp q
    exact leafI q (by assumption) rfl
  · have e : k = 11 := by wtm_at "la"
    rw [e] at hp q
    exact leafI q (by assumption) rfl
  · have e : k = 12 := by wtm_at "la"
    rw [e] at hp q
    cases p with
    | s x =>
      obtain ⟨t', hv'⟩ := hv
      rw [hv']
      refine s_StringByteSize H (by wtm_at "ok") (R'.le (by decide)) h0 (by wtm_at "la") hp.1 (St.useI (by assumption) ?_)
      intro _ _ _
      repeat' wtm_at "j"
      exact leafI q (by assumption) rfl
    | _ => exact hp.elim
  · have e : k = 13 := by wtm_at "la"
    rw [e] at hp q
    cases p with
    | y x =>
      obtain ⟨t', hv'⟩ := hv
      rw [hv']
      refine s_BytesByteSize H (by wtm_at "ok") (R'.le (by decide)) h0 (by wtm_at "la") hp (St.useI (by assumption) ?_)
      intro _ _ _
      repeat' wtm_at "j"
      exact leafI q (by assumption) rfl
    | _ => exact hp.elim
end

section
variable {prog : Program} {w : World} {A : Around} {E : Value → Heap → Prop} {h h₀ hc : Heap} {b : Bs} {v : Value} {Q : Value → Heap → Prop} {z y num : Int} {t u u' : Tok} {a c P p f a' C L : Addr} {n k : Nat} {X : List Addr} {fz ob : List (Addr × K)} {ls : List (Str × Value)} {l : List Env} {xs vs : List Value} {ns : List Int} {env : Env} {pos : Pos}
  {params : Arguments} {sc : Scope} {qn : Str} {cl : List (Str × Addr)} {body : List Stmt}
theorem FnL.store {h' : Heap} {m : Str → Option Value} {body : Expr} (x : FnL h f qn params body sc cl (.ref c)) (C : CodeHd h c P) (n : h.Ns L m) (e : Heap.SameBut L h h') : FnL h' f qn params body sc cl (.ref c) ∧ CodeHd h' c P := by
  obtain ⟨oL, _, _, hL, hd, _⟩ := n
  have k : ∀ b' o, h.get? b' = some o → NoDict o → h'.get? b' = some o := fun b' o eo nd => e.extBut b' o (fun q => by subst q; rw [hL] at eo; cases eo; exact nd _ _ hd) eo
  refine ⟨?_, codeHd_at C fun o eo => ?_⟩
  · obtain ⟨o, name, doc, pm, ct, e1, d, c', oc, vs, t, c1, c2, c3, c4⟩ := x
    exact ⟨o, name, doc, pm, ct, k _ _ e1 (fun _ _ => by rw [d]; nofun), d, c', oc, vs, t, c1, k _ _ c2 (fun _ _ => by rw [c3]; nofun), c3, c4⟩
  · obtain ⟨o', _, _, _, _, _, _, _, _, e1, e2, e3, _⟩ := id C
    rw [eo] at e1; cases e1
    exact k _ _ eo (fun _ _ => by rw [e3]; nofun)
theorem Arg.ne {arg : Arg} (hv : arg.is h v) (hp : h.get? p = none) : ∀ a, v = .ref a → a ≠ p := by
  intro a e q
  subst e q
  cases arg with
  | one x =>
    cases x with
    | i z => obtain ⟨_, e⟩ := hv; cases e
    | b x => cases (show Value.ref a = .bool x from hv)
    | s x => obtain ⟨_, e⟩ := hv; cases e
    | y x => obtain ⟨_, e⟩ := hv; cases e
  | many ps => obtain ⟨a', xs, e, ⟨n, hl⟩, _⟩ := hv; cases e; rw [hp] at hl; cases hl
/-- a maker of the top that may raise -/
theorem W.mkrR {cls : Value} (H : Hyp b) (O : Ok b h) (F : ∃ c P, FnO b.B a qn params body sc [] .none (.ref c) ∧ CodeHd b.B c P ∧ P ∈ b.ts) (R : Room (n + 1) A) (FR : FrOk b A l h) (r : ∀ e h', Rz b [] cls h l e h' → E e h') (binds : List (Str × Value))
    (hb : ∀ cd name kV doc pm an ct, bindArgs (fnX name qn params body sc [] .none kV doc pm an cd ct) ⟨vs, []⟩ = Pure.pure binds)
    (k : ∀ L h₁ A' cs os, cellsFrom (L + 1) sc.names [] = cs → cellObs (L + 1) sc.names = os → ∀ c P, Room n A' → A'.frames = some (envX qn sc L a (.ref c) cs :: l) → Code b h c P → St b h [] [] L [] os h₁ → bindK prog w A.in1 (envX qn sc L a (.ref c) cs) binds (fun h₂ => Ok b h₂ ∧
      W prog w A' (execs body (envX qn sc L a (.ref c) cs)) (retK Q) (Thr b [] cls h (envX qn sc L a (.ref c) cs :: l)) h₂) h₁)
    (hco : sc.isCoroutine = false := by rfl) (hgen : sc.isGenerator = false := by rfl) : W prog w A (PySem.call (.ref a) vs) Q E h := by
  obtain ⟨c, P, F, C, hP⟩ := F
  refine W.frameR (ob₀ := []) (X := []) (fz := []) (dv := []) H.g O (F.up O) rfl R FR r (fun s name kV doc pm an ct _ => BindsTo.of_eq (hb _ name kV doc pm an ct)) (fun _ h => nomatch h) (fun _ h => nomatch h) (fun _ h => nomatch h) List.nodup_nil (fun L h₁ A' R' hA S => ?_) hco hgen
  rw [List.append_nil] at S
  exact k L h₁ A' _ _ rfl rfl c P R' hA ⟨codeHd_at C fun o => O.sub _ _, O.tabs P hP⟩ S
theorem encK_len {k : Nat} (hk : k < 14) (p : PV) (h : okK k p) : (encK k p).length ≤ 4010 := by
  by_cases h11 : k < 11
  · obtain ⟨z, rfl, hz⟩ := ok32 h11 p h
    have hr := okN_range hz
    have e := k11 k h11
    have v1 : (vint (z % 18446744073709551616).toNat).length ≤ 10 := vint_le (by wtm_at "la")
    have v2 : 0 ≤ z → (vint z.toNat).length ≤ 10 := fun h => vint_le (by wtm_at "la")
    have v3 : okZ z → (vint (zz z).toNat).length ≤ 10 := fun h => vint_le (by have := zz_range h.1 h.2; wtm_at "la")
    have v4 : ∀ F : Fmt, (packed F z).length ≤ 8 := fun F => by rw [packed_len]; exact F.size_le
    rcases e with rfl | rfl | rfl | rfl | rfl | rfl | rfl | rfl | rfl | rfl | rfl
    · exact Nat.le_trans v1 (by decide)
    · exact Nat.le_trans v1 (by decide)
    · exact Nat.le_trans v1 (by decide)
    · exact Nat.le_trans (v2 (okU_of (by decide) hz).1) (by decide)
    · exact Nat.le_trans (v2 (okU_of (by decide) hz).1) (by decide)
    · exact Nat.le_trans (v3 (okZ_of (by decide) hz)) (by decide)
    · exact Nat.le_trans (v3 (okZ_of (by decide) hz)) (by decide)
    · exact Nat.le_trans (v4 .I) (by decide)
    · exact Nat.le_trans (v4 .Q) (by decide)
    · exact Nat.le_trans (v4 .i) (by decide)
    · exact Nat.le_trans (v4 .q) (by decide)
  · have e : k = 11 ∨ k = 12 ∨ k = 13 := by wtm_at "la"
    rcases e with rfl | rfl | rfl
    · cases p with
      | b x => cases x <;> decide
      | _ => exact h.elim
    · cases p with
      | s x =>
        have h1 := u8_le h.1.2
        have h2 := vint_le (Z := (u8 x).length) (by wtm_at "la")
        show (vint _ ++ u8 x).length ≤ 4010
        rw [List.length_append]; wtm_at "la"
      | _ => exact h.elim
    · cases p with
      | y x =>
        have h1 : x.length ≤ 4000 := h
        have h2 := vint_le (Z := x.length) (by wtm_at "la")
        show (vint _ ++ x).length ≤ 4010
        rw [List.length_append]; wtm_at "la"
      | _ => exact h.elim
theorem flat_le {f : PV → List UInt8} {m : Nat} : ∀ {ps : List PV}, (∀ p ∈ ps, (f p).length ≤ m) → (ps.flatMap f).length ≤ m * ps.length
  | [], _ => by simp
  | p :: ps, h => by
    have h1 := h p (.head _)
    have h2 := flat_le (ps := ps) fun q hq => h q (.tail _ hq)
    simp only [List.flatMap_cons, List.length_append, List.length_cons, Nat.mul_add]
    wtm_at "la"
theorem wtK_le {k : Nat} (hk : k < 14) : 0 ≤ wtK k ∧ wtK k ≤ 5 := by
  have : ∀ k : Nat, k < 14 → 0 ≤ wtK k ∧ wtK k ≤ 5 := by decide
  exact this k hk
theorem wireB_le {k : Nat} {m : Mode} {arg : Arg} (hk : k < 14) (h0 : 0 ≤ num) (h1 : num < 2 ^ 29) (hall : arg.all (okK k)) (hv : arg.is h v) : (wireB num (wtK k) (encK k) m arg).length ≤ 100000 := by
  have hw := wtK_le hk
  have t1 : (vint (8 * num + wtK k).toNat).length ≤ 10 := vint_le (by wtm_at "la")
  have t2 : (vint (8 * num + 2).toNat).length ≤ 10 := vint_le (by wtm_at "la")
  cases arg with
  | one p =>
    have := encK_len hk p hall
    cases m with
    | plain => show (vint _ ++ encK k p).length ≤ _; rw [List.length_append]; wtm_at "la"
    | _ => exact Nat.zero_le _
  | many ps =>
    obtain ⟨a, xs, _, _, _, h5⟩ := hv
    have hf := flat_le (f := encK k) (m := 4010) (ps := ps) fun p hp => encK_len hk p (hall p hp)
    have h6 : 4010 * ps.length ≤ 4010 * 5 := Nat.mul_le_mul_left _ h5
    have t3 := vint_le (Z := (ps.flatMap (encK k)).length) (by wtm_at "la")
    cases m with
    | plain => exact Nat.zero_le _
    | rep =>
      have := flat_le (f := fun p => vint (8 * num + wtK k).toNat ++ encK k p) (m := 4020) (ps := ps) fun p hp => by
        have := encK_len hk p (hall p hp)
        rw [List.length_append]; wtm_at "la"
      have h7 : 4020 * ps.length ≤ 4020 * 5 := Nat.mul_le_mul_left _ h5
      show (ps.flatMap _).length ≤ _
      wtm_at "la"
    | pack =>
      show (vint _ ++ vint _ ++ _).length ≤ _
      rw [List.length_append, List.length_append]; wtm_at "la"
theorem okF_K {F : Fmt} {k : Nat} (e1 : loK k = F.lo) (e2 : hiK k = F.hi) (hk : k < 11) (p : PV) (h : okK k p) : okI (okF F) p := by
  obtain ⟨z, rfl, hz⟩ := ok32 hk p h
  exact ⟨e1 ▸ hz.1, e2 ▸ hz.2⟩
theorem addr_of {b : Bs} {f p : Addr} {h : Heap} (hw : WrOk b f p h) : ∃ p', p' = p := ⟨p, rfl⟩
theorem s_law_written {m : Mode} {arg : Arg} (H : Hyp b) (OC : ExcC b C) (O : Ok b h) (R : Room 9 A) (hk : k < 14) (h0 : 0 ≤ num) (h1 : num < 2 ^ 29) (hv : arg.is h v) (hfit : arg.fit m) (hall : arg.all (okK k)) (hm : k < 12 ∨ m ≠ .pack) (q : ∀ t h', Ext b.B [] h h' → Q (.bytes (wireB num (wtK k) (encK k) m arg).toArray t) h') :
    W prog w A (PySem.call (.ref (b.fa "_law_written")) [.int (k : Int) t, .int num u, .bool m.r, .bool m.p, v]) Q E h := by
  have Fm := H.mkr 82 (by decide)
  have hle := wireB_le (m := m) hk h0 h1 hall hv
  refine W.mkr1 H O Fm R [("kind", .int (k : Int) t), ("number", .int num u), ("repeated", .bool m.r), ("packed", .bool m.p), ("value", v)] (fun _ _ _ _ _ _ _ => by rfl) ?_
  intro L₄ h₄ A₄
  refine elimCO ?_
  intro c P R₄ C₃ S₄
  dsimp only [cf0, cfc, cfl, cff, cfg, co0, coc, col, cof, cog, List.nil_append, List.cons_append] at S₄ ⊢
  repeat' wtm_at "j"
  refine W.lam H (by assumption) C₃ rfl rfl rfl (by kernel_rfl) rfl ?_
  intro f c' P' h₅ S₅ F₅ C₅
  refine W.storeL2 S₅ rfl rfl (by kernel_rfl) ?_
  intro h₆ S₆ same
  obtain ⟨F₆, C₆⟩ := F₅.store C₅ S₅.ns same
  clear S₄ S₅ F₅ C₅ same
  have hw := wrOk_of H S₆ F₆ C₆ (by wtm_at "mem") (by wtm_at "mem") (fun v => [("piece", v)]) (fun _ _ _ _ _ _ => by rfl) (by
    intro prog w A h' v xs Q L h₁ A' R' hz S q
    dsimp only [cf0, cfc, cfl, cff, cfg, co0, coc, col, cof, cog, List.nil_append, List.cons_append] at S ⊢
    repeat' wtm_at "j"
    rename_i S'
    exact q _ S'.ext (S'.obs _ (.head _)))
  have hpn := S₆.obn (_, .lst _) (by wtm_at "mem")
  simp only [List.not_mem_nil, or_false] at hpn
  clear F₆ C₆
  obtain ⟨pp, epp⟩ := addr_of hw
  subst epp
  refine W.consK fun KK iK => ?_
  have tail : ∀ h₇ h₈, Ext b.B [] h₆ h₇ → Wrote b.B pp [] 100 (wireB num (wtK k) (encK k) m arg) h₇ h₈ → KK .next h₈ := by
    intro h₇ h₈ x₇ wr
    obtain ⟨ys, bs, S₈, hb, hbf, hn⟩ := wr.useU (S₆.ext0 x₇) (fun ys => by wtm_at "upd")
    rw [List.nil_append] at S₈
    refine iK _ _ (seqK.next ?_)
    repeat' wtm_at "j"
    refine W.joinM S₈ (by wtm_at "mem") hb (by rw [hbf]; exact hle) ?_
    intro tj
    repeat' wtm_at "j"
    rw [hbf]
    exact q _ _ S₈.ext
  clear iK
  repeat' wtm_at "j"
  · have e : k = 0 := by wtm_at "la"
    rw [e] at hall tail
    refine s_Int32Encoder H (by wtm_at "ok") (R₄.le (by decide)) h0 h1 ?_
    intro g h₇ x₇ ok₇
    have hf := ok₇.fnat
    have S₇ := S₆.ext0 x₇
    repeat' wtm_at "j"
    refine ok₇.run .refl S₇.ok (R₄.le (by decide)) (hw.ext (x₇.mono nofun)) (S₇.obs (_, .lst _) (by wtm_at "mem")) (by wtm_at "len") (Arg.ext hv S₇.ext) (Arg.ne hv hpn) hfit (Arg.mono (pZ (by decide)) hall) ?_
    intro r h₈ wr
    repeat' wtm_at "j"
    exact tail _ _ x₇ wr
  · have e : k = 1 := by wtm_at "la"
    rw [e] at hall tail
    refine s_Int64Encoder H (by wtm_at "ok") (R₄.le (by decide)) h0 h1 ?_
    intro g h₇ x₇ ok₇
    have hf := ok₇.fnat
    have S₇ := S₆.ext0 x₇
    repeat' wtm_at "j"
    refine ok₇.run .refl S₇.ok (R₄.le (by decide)) (hw.ext (x₇.mono nofun)) (S₇.obs (_, .lst _) (by wtm_at "mem")) (by wtm_at "len") (Arg.ext hv S₇.ext) (Arg.ne hv hpn) hfit (Arg.mono (pZ (by decide)) hall) ?_
    intro r h₈ wr
    repeat' wtm_at "j"
    exact tail _ _ x₇ wr
  · have e : k = 2 := by wtm_at "la"
    rw [e] at hall tail
    refine s_EnumEncoder H (by wtm_at "ok") (R₄.le (by decide)) h0 h1 ?_
    intro g h₇ x₇ ok₇
    have hf := ok₇.fnat
    have S₇ := S₆.ext0 x₇
    repeat' wtm_at "j"
    refine ok₇.run .refl S₇.ok (R₄.le (by decide)) (hw.ext (x₇.mono nofun)) (S₇.obs (_, .lst _) (by wtm_at "mem")) (by wtm_at "len") (Arg.ext hv S₇.ext) (Arg.ne hv hpn) hfit (Arg.mono (pZ (by decide)) hall) ?_
    intro r h₈ wr
    repeat' wtm_at "j"
    exact tail _ _ x₇ wr
  · have e : k = 3 := by wtm_at "la"
    rw [e] at hall tail
    refine s_UInt32Encoder H (by wtm_at "ok") (R₄.le (by decide)) h0 h1 ?_
    intro g h₇ x₇ ok₇
    have hf := ok₇.fnat
    have S₇ := S₆.ext0 x₇
    repeat' wtm_at "j"
    refine ok₇.run .refl S₇.ok (R₄.le (by decide)) (hw.ext (x₇.mono nofun)) (S₇.obs (_, .lst _) (by wtm_at "mem")) (by wtm_at "len") (Arg.ext hv S₇.ext) (Arg.ne hv hpn) hfit (Arg.mono (pU (by decide)) hall) ?_
    intro r h₈ wr
    repeat' wtm_at "j"
    exact tail _ _ x₇ wr
  · have e : k = 4 := by wtm_at "la"
    rw [e] at hall tail
    refine s_UInt64Encoder H (by wtm_at "ok") (R₄.le (by decide)) h0 h1 ?_
    intro g h₇ x₇ ok₇
    have hf := ok₇.fnat
    have S₇ := S₆.ext0 x₇
    repeat' wtm_at "j"
    refine ok₇.run .refl S₇.ok (R₄.le (by decide)) (hw.ext (x₇.mono nofun)) (S₇.obs (_, .lst _) (by wtm_at "mem")) (by wtm_at "len") (Arg.ext hv S₇.ext) (Arg.ne hv hpn) hfit (Arg.mono (pU (by decide)) hall) ?_
    intro r h₈ wr
    repeat' wtm_at "j"
    exact tail _ _ x₇ wr
  · have e : k = 5 := by wtm_at "la"
    rw [e] at hall tail
    refine s_SInt32Encoder H (by wtm_at "ok") (R₄.le (by decide)) h0 h1 ?_
    intro g h₇ x₇ ok₇
    have hf := ok₇.fnat
    have S₇ := S₆.ext0 x₇
    repeat' wtm_at "j"
    refine ok₇.run .refl S₇.ok (R₄.le (by decide)) (hw.ext (x₇.mono nofun)) (S₇.obs (_, .lst _) (by wtm_at "mem")) (by wtm_at "len") (Arg.ext hv S₇.ext) (Arg.ne hv hpn) hfit (Arg.mono (pZ (by decide)) hall) ?_
    intro r h₈ wr
    repeat' wtm_at "j"
    exact tail _ _ x₇ wr
  · have e : k = 6 := by wtm_at "la"
    rw [e] at hall tail
    refine s_SInt64Encoder H (by wtm_at "ok") (R₄.le (by decide)) h0 h1 ?_
    intro g h₇ x₇ ok₇
    have hf := ok₇.fnat
    have S₇ := S₆.ext0 x₇
    repeat' wtm_at "j"
    refine ok₇.run .refl S₇.ok (R₄.le (by decide)) (hw.ext (x₇.mono nofun)) (S₇.obs (_, .lst _) (by wtm_at "mem")) (by wtm_at "len") (Arg.ext hv S₇.ext) (Arg.ne hv hpn) hfit (Arg.mono (pZ (by decide)) hall) ?_
    intro r h₈ wr
    repeat' wtm_at "j"
    exact tail _ _ x₇ wr
  · have e : k = 7 := by wtm_at "la"
    rw [e] at hall tail
    refine s_Fixed32Encoder H OC (by wtm_at "ok") (R₄.le (by decide)) h0 h1 ?_
    intro g h₇ x₇ ok₇ _
    have hf := ok₇.fnat
    have S₇ := S₆.ext0 x₇
    repeat' wtm_at "j"
    refine ok₇.run .refl S₇.ok (R₄.le (by decide)) (hw.ext (x₇.mono nofun)) (S₇.obs (_, .lst _) (by wtm_at "mem")) (by wtm_at "len") (Arg.ext hv S₇.ext) (Arg.ne hv hpn) hfit (Arg.mono (okF_K (F := .I) rfl rfl (by decide)) hall) ?_
    intro r h₈ wr
    repeat' wtm_at "j"
    exact tail _ _ x₇ wr
  · have e : k = 8 := by wtm_at "la"
    rw [e] at hall tail
    refine s_Fixed64Encoder H OC (by wtm_at "ok") (R₄.le (by decide)) h0 h1 ?_
    intro g h₇ x₇ ok₇ _
    have hf := ok₇.fnat
    have S₇ := S₆.ext0 x₇
    repeat' wtm_at "j"
    refine ok₇.run .refl S₇.ok (R₄.le (by decide)) (hw.ext (x₇.mono nofun)) (S₇.obs (_, .lst _) (by wtm_at "mem")) (by wtm_at "len") (Arg.ext hv S₇.ext) (Arg.ne hv hpn) hfit (Arg.mono (okF_K (F := .Q) rfl rfl (by decide)) hall) ?_
    intro r h₈ wr
    repeat' wtm_at "j"
    exact tail _ _ x₇ wr
  · have e : k = 9 := by wtm_at "la"
    rw [e] at hall tail
    refine s_SFixed32Encoder H OC (by wtm_at "ok") (R₄.le (by decide)) h0 h1 ?_
    intro g h₇ x₇ ok₇ _
    have hf := ok₇.fnat
    have S₇ := S₆.ext0 x₇
    repeat' wtm_at "j"
    refine ok₇.run .refl S₇.ok (R₄.le (by decide)) (hw.ext (x₇.mono nofun)) (S₇.obs (_, .lst _) (by wtm_at "mem")) (by wtm_at "len") (Arg.ext hv S₇.ext) (Arg.ne hv hpn) hfit (Arg.mono (okF_K (F := .i) rfl rfl (by decide)) hall) ?_
    intro r h₈ wr
    repeat' wtm_at "j"
    exact tail _ _ x₇ wr
  · have e : k = 10 := by wtm_at "la"
    rw [e] at hall tail
    refine s_SFixed64Encoder H OC (by wtm_at "ok") (R₄.le (by decide)) h0 h1 ?_
    intro g h₇ x₇ ok₇ _
    have hf := ok₇.fnat
    have S₇ := S₆.ext0 x₇
    repeat' wtm_at "j"
    refine ok₇.run .refl S₇.ok (R₄.le (by decide)) (hw.ext (x₇.mono nofun)) (S₇.obs (_, .lst _) (by wtm_at "mem")) (by wtm_at "len") (Arg.ext hv S₇.ext) (Arg.ne hv hpn) hfit (Arg.mono (okF_K (F := .q) rfl rfl (by decide)) hall) ?_
    intro r h₈ wr
    repeat' wtm_at "j"
    exact tail _ _ x₇ wr
  · have e : k = 11 := by wtm_at "la"
    rw [e] at hall tail
    refine s_BoolEncoder H (by wtm_at "ok") (R₄.le (by decide)) h0 h1 ?_
    intro g h₇ x₇ ok₇
    have hf := ok₇.fnat
    have S₇ := S₆.ext0 x₇
    repeat' wtm_at "j"
    refine ok₇.run .refl S₇.ok (R₄.le (by decide)) (hw.ext (x₇.mono nofun)) (S₇.obs (_, .lst _) (by wtm_at "mem")) (by wtm_at "len") (Arg.ext hv S₇.ext) (Arg.ne hv hpn) hfit hall ?_
    intro r h₈ wr
    repeat' wtm_at "j"
    exact tail _ _ x₇ wr
  · have e : k = 12 := by wtm_at "la"
    rw [e] at hall tail
    refine s_StringEncoder H (by wtm_at "ok") (R₄.le (by decide)) h0 h1 (by rcases hm with h | h <;> first | exact h | wtm_at "la") ?_
    intro g h₇ x₇ ok₇
    have hf := ok₇.fnat
    have S₇ := S₆.ext0 x₇
    repeat' wtm_at "j"
    refine ok₇.run .refl S₇.ok (R₄.le (by decide)) (hw.ext (x₇.mono nofun)) (S₇.obs (_, .lst _) (by wtm_at "mem")) (by wtm_at "len") (Arg.ext hv S₇.ext) (Arg.ne hv hpn) hfit (Arg.mono (fun p h => by cases p <;> first | exact h.elim | exact h.1) hall) ?_
    intro r h₈ wr
    repeat' wtm_at "j"
    exact tail _ _ x₇ wr
  · have e : k = 13 := by wtm_at "la"
    rw [e] at hall tail
    refine s_BytesEncoder H (by wtm_at "ok") (R₄.le (by decide)) h0 h1 (by rcases hm with h | h <;> first | exact h | wtm_at "la") ?_
    intro g h₇ x₇ ok₇
    have hf := ok₇.fnat
    have S₇ := S₆.ext0 x₇
    repeat' wtm_at "j"
    refine ok₇.run .refl S₇.ok (R₄.le (by decide)) (hw.ext (x₇.mono nofun)) (S₇.obs (_, .lst _) (by wtm_at "mem")) (by wtm_at "len") (Arg.ext hv S₇.ext) (Arg.ne hv hpn) hfit hall ?_
    intro r h₈ wr
    repeat' wtm_at "j"
    exact tail _ _ x₇ wr
theorem s_law_writtenR (H : Hyp b) (OC : ExcC b C) (O : Ok b h) (R : Room 9 A) (FR : FrOk b A l h) (h7 : 7 ≤ k) (hk : k < 11) (h0 : 0 ≤ num) (h1 : num < 2 ^ 29) (hbad : ¬ okN k z) (r : ∀ e h', Rz b [] (.ref C) h l e h' → E e h') :
    W prog w A (PySem.call (.ref (b.fa "_law_written")) [.int (k : Int) t, .int num u, .bool false, .bool false, .int z u']) Q E h := by
  have Fm := H.mkr 82 (by decide)
  refine W.mkrR H O Fm R FR r [("kind", .int (k : Int) t), ("number", .int num u), ("repeated", .bool false), ("packed", .bool false), ("value", .int z u')] (fun _ _ _ _ _ _ _ => by rfl) ?_
  intro L₄ h₄ A₄
  refine elimCO ?_
  intro c P R₄ hA C₃ S₄
  dsimp only [cf0, cfc, cfl, cff, cfg, co0, coc, col, cof, cog, List.nil_append, List.cons_append] at hA S₄ ⊢
  repeat' wtm_at "j"
  refine W.lam H (by assumption) C₃ rfl rfl rfl (by kernel_rfl) rfl ?_
  intro f c' P' h₅ S₅ F₅ C₅
  refine W.storeL2 S₅ rfl rfl (by kernel_rfl) ?_
  intro h₆ S₆ same
  obtain ⟨F₆, C₆⟩ := F₅.store C₅ S₅.ns same
  clear S₄ S₅ F₅ C₅ same
  have hw := wrOk_of H S₆ F₆ C₆ (by wtm_at "mem") (by wtm_at "mem") (fun v => [("piece", v)]) (fun _ _ _ _ _ _ => by rfl) (by
    intro prog w A h' v xs Q L h₁ A' R' hz S q
    dsimp only [cf0, cfc, cfl, cff, cfg, co0, coc, col, cof, cog, List.nil_append, List.cons_append] at S ⊢
    repeat' wtm_at "j"
    rename_i S'
    exact q _ S'.ext (S'.obs _ (.head _)))
  have hpn := S₆.obn (_, .lst _) (by wtm_at "mem")
  simp only [List.not_mem_nil, or_false] at hpn
  clear F₆ C₆
  repeat' wtm_at "j"
  all_goals first
    | (exfalso; wtm_at "la")
    | skip
  · have e : k = 7 := by wtm_at "la"
    rw [e] at hbad
    refine s_Fixed32Encoder (m := .plain) H OC (by wtm_at "ok") (R₄.le (by decide)) h0 h1 ?_
    intro g h₇ x₇ ok₇ bad₇
    have bad₇ := bad₇ rfl
    have hf := ok₇.fnat
    have S₇ := S₆.ext0 x₇
    repeat' wtm_at "j"
    exact bad₇.run .refl S₇.ok (R₄.le (by decide)) (FrOk.push FR S₇ hA rfl (by nofun)) (hw.ext (x₇.mono nofun)) (S₇.obs (_, .lst _) (by wtm_at "mem")) (by wtm_at "len") (fun h => hbad h) fun e h'' rz => .inl (rz.up S₇.ext fun y hy => by rw [List.mem_singleton] at hy; exact .inl (hy ▸ hpn))
  · have e : k = 8 := by wtm_at "la"
    rw [e] at hbad
    refine s_Fixed64Encoder (m := .plain) H OC (by wtm_at "ok") (R₄.le (by decide)) h0 h1 ?_
    intro g h₇ x₇ ok₇ bad₇
    have bad₇ := bad₇ rfl
    have hf := ok₇.fnat
    have S₇ := S₆.ext0 x₇
    repeat' wtm_at "j"
    exact bad₇.run .refl S₇.ok (R₄.le (by decide)) (FrOk.push FR S₇ hA rfl (by nofun)) (hw.ext (x₇.mono nofun)) (S₇.obs (_, .lst _) (by wtm_at "mem")) (by wtm_at "len") (fun h => hbad h) fun e h'' rz => .inl (rz.up S₇.ext fun y hy => by rw [List.mem_singleton] at hy; exact .inl (hy ▸ hpn))
  · have e : k = 9 := by wtm_at "la"
    rw [e] at hbad
    refine s_SFixed32Encoder (m := .plain) H OC (by wtm_at "ok") (R₄.le (by decide)) h0 h1 ?_
    intro g h₇ x₇ ok₇ bad₇
    have bad₇ := bad₇ rfl
    have hf := ok₇.fnat
    have S₇ := S₆.ext0 x₇
    repeat' wtm_at "j"
    exact bad₇.run .refl S₇.ok (R₄.le (by decide)) (FrOk.push FR S₇ hA rfl (by nofun)) (hw.ext (x₇.mono nofun)) (S₇.obs (_, .lst _) (by wtm_at "mem")) (by wtm_at "len") (fun h => hbad h) fun e h'' rz => .inl (rz.up S₇.ext fun y hy => by rw [List.mem_singleton] at hy; exact .inl (hy ▸ hpn))
  · have e : k = 10 := by wtm_at "la"
    rw [e] at hbad
    refine s_SFixed64Encoder (m := .plain) H OC (by wtm_at "ok") (R₄.le (by decide)) h0 h1 ?_
    intro g h₇ x₇ ok₇ bad₇
    have bad₇ := bad₇ rfl
    have hf := ok₇.fnat
    have S₇ := S₆.ext0 x₇
    repeat' wtm_at "j"
    exact bad₇.run .refl S₇.ok (R₄.le (by decide)) (FrOk.push FR S₇ hA rfl (by nofun)) (hw.ext (x₇.mono nofun)) (S₇.obs (_, .lst _) (by wtm_at "mem")) (by wtm_at "len") (fun h => hbad h) fun e h'' rz => .inl (rz.up S₇.ext fun y hy => by rw [List.mem_singleton] at hy; exact .inl (hy ▸ hpn))
end

section
variable {prog : Program} {w : World} {A : Around} {E : Value → Heap → Prop} {h h₀ hc : Heap} {b : Bs} {v : Value} {Q : Value → Heap → Prop} {z y num : Int} {t u u' : Tok} {a c P p f a' C L : Addr} {n k i : Nat} {X : List Addr} {fz ob : List (Addr × K)} {ls : List (Str × Value)} {l : List Env} {xs vs : List Value} {ns : List Int} {env : Env} {pos : Pos}
  {params : Arguments} {sc : Scope} {qn : Str} {cl : List (Str × Addr)} {body : List Stmt}
/-! the plain law -/
theorem vint_tag (n w : Nat) (hw : w < 8) : (vint (8 * n + w)).length = (vint (8 * n)).length := by
  by_cases h : 8 * n < 128
  · rw [vint_lt h, vint_lt (by wtm_at "la")]; rfl
  · rw [vint_ge h, vint_ge (by wtm_at "la")]
    have e : (8 * n + w) / 128 = 8 * n / 128 := by wtm_at "la"
    rw [e]; rfl
theorem vz_tag {num wt : Int} (h0 : 0 ≤ num) (w0 : 0 ≤ wt) (w1 : wt < 8) : ((vint (8 * num + wt).toNat).length : Int) = vz (8 * num) := by
  obtain ⟨n, rfl⟩ := Int.eq_ofNat_of_zero_le h0
  obtain ⟨m, rfl⟩ := Int.eq_ofNat_of_zero_le w0
  unfold vz
  rw [show (8 * (n : Int) + (m : Int)).toNat = 8 * n + m by wtm_at "la", show (8 * (n : Int)).toNat = 8 * n by wtm_at "la", vint_tag n m (by wtm_at "la")]
theorem vz_nat (n : Nat) : vz (n : Int) = ((vint n).length : Int) := by unfold vz; rw [Int.toNat_natCast]
theorem sz_len {k : Nat} (hk : k < 14) (p : PV) (h : okK k p) : szK k p = ((encK k p).length : Int) := by
  by_cases h11 : k < 11
  · obtain ⟨z, rfl, hz⟩ := ok32 h11 p h
    have e := k11 k h11
    have v3 : okZ z → vm (zz z) = vz (zz z) := fun h => vm_pos (zz_range h.1 h.2).1 (zz_range h.1 h.2).2
    rcases e with rfl | rfl | rfl | rfl | rfl | rfl | rfl | rfl | rfl | rfl | rfl
    · rfl
    · rfl
    · rfl
    · rfl
    · rfl
    · exact v3 (okZ_of (by decide) hz)
    · exact v3 (okZ_of (by decide) hz)
    · show (4 : Int) = ((packed .I z).length : Int); rw [packed_len]; rfl
    · show (8 : Int) = ((packed .Q z).length : Int); rw [packed_len]; rfl
    · show (4 : Int) = ((packed .i z).length : Int); rw [packed_len]; rfl
    · show (8 : Int) = ((packed .q z).length : Int); rw [packed_len]; rfl
  · have e : k = 11 ∨ k = 12 ∨ k = 13 := by wtm_at "la"
    rcases e with rfl | rfl | rfl
    · cases p with
      | b x => cases x <;> rfl
      | _ => exact h.elim
    · cases p with
      | s x =>
        show vz ((u8 x).length : Int) + ((u8 x).length : Int) = ((vint (u8 x).length ++ u8 x).length : Int)
        rw [vz_nat, List.length_append]; wtm_at "la"
      | _ => exact h.elim
    · cases p with
      | y x =>
        show vz (x.length : Int) + (x.length : Int) = ((vint x.length ++ x).length : Int)
        rw [vz_nat, List.length_append]; wtm_at "la"
      | _ => exact h.elim
theorem sum_len {k : Nat} (hk : k < 14) {ps : List PV} (h : ∀ p ∈ ps, okK k p) : sumI (szK k) ps = ((ps.flatMap (encK k)).length : Int) := by
  rw [len_flat]; exact sumI_congr fun p hp => sz_len hk p (h p hp)
theorem flat_tag (tg : List UInt8) (f : PV → List UInt8) : ∀ ps : List PV, ((ps.flatMap fun p => tg ++ f p).length : Int) = (tg.length : Int) * ps.length + ((ps.flatMap f).length : Int)
  | [] => by simp
  | p :: ps => by
    have := flat_tag tg f ps
    simp only [List.flatMap_cons, List.length_append, List.length_cons, Int.natCast_add] at this ⊢
    rw [this, Int.mul_add]; simp; wtm_at "la"
theorem fsize_len {k : Nat} {m : Mode} {arg : Arg} (hk : k < 14) (h0 : 0 ≤ num) (hfit : arg.fit m) (hall : arg.all (okK k)) : fsize num (szK k) m arg = ((wireB num (wtK k) (encK k) m arg).length : Int) := by
  have hw := wtK_le hk
  have t1 := vz_tag h0 hw.1 (by wtm_at "la")
  have t2 := vz_tag (wt := 2) h0 (by decide) (by decide)
  cases arg with
  | one p =>
    cases m with
    | plain =>
      show vz (8 * num) + szK k p = ((vint (8 * num + wtK k).toNat ++ encK k p).length : Int)
      rw [List.length_append, sz_len hk p hall, ← t1]; wtm_at "la"
    | _ => exact hfit.elim
  | many ps =>
    have hs := sum_len hk hall
    cases m with
    | plain => exact hfit.elim
    | rep =>
      show vz (8 * num) * ps.length + sumI (szK k) ps = ((ps.flatMap fun p => vint (8 * num + wtK k).toNat ++ encK k p).length : Int)
      rw [flat_tag, hs, t1]
    | pack =>
      show sumI (szK k) ps + vz (sumI (szK k) ps) + vz (8 * num) = ((vint (8 * num + 2).toNat ++ vint (ps.flatMap (encK k)).length ++ ps.flatMap (encK k)).length : Int)
      rw [hs, vz_nat, List.length_append, List.length_append, ← t2]; wtm_at "la"
/-- a def of the top that reads lists, and knows its frames -/
theorem W.defFF (H : Hyp b) (O : Ok b h) (F : ∃ cd, FnO b.B a qn params body sc [] .none cd) (R : Room (n + 1) A) (FR : FrOk b A l h) (fz : List (Addr × K)) (hfz : ∀ p ∈ fz, p.2.at h p.1) (binds : List (Str × Value))
    (hb : ∀ cd name kV doc pm an ct, bindArgs (fnX name qn params body sc [] .none kV doc pm an cd ct) ⟨vs, []⟩ = Pure.pure binds)
    (k : ∀ L h₁ A' cd cs os, cellsFrom (L + 1) sc.names [] = cs → cellObs (L + 1) sc.names = os → Room n A' → A'.frames = some (envX qn sc L a cd cs :: l) → St b h [] fz L [] os h₁ → bindK prog w A.in1 (envX qn sc L a cd cs) binds (fun h₂ => Ok b h₂ ∧
      W prog w A' (execs body (envX qn sc L a cd cs)) (retK Q) (fun _ _ => False) h₂) h₁)
    (hco : sc.isCoroutine = false := by rfl) (hgen : sc.isGenerator = false := by rfl) : W prog w A (PySem.call (.ref a) vs) Q E h := by
  obtain ⟨cd, F⟩ := F
  refine W.call (ob₀ := []) (X := []) (fz := fz) H.g O (F.up O) (by have := R.dp; wtm_at "la") (fun s name kV doc pm an ct _ => BindsTo.of_eq (hb cd name kV doc pm an ct)) (fun _ h => nomatch h) (fun p hp => ⟨hfz p hp, List.not_mem_nil⟩) (fun _ h => nomatch h) List.nodup_nil (fun L h₁ S => ?_) hco hgen
  rw [List.append_nil] at S
  exact bindK.mono (fun h₂ y => ⟨y.1, W.mono y.2 (fun _ _ y => y) fun _ _ y => y.elim⟩) (k L h₁ _ cd _ _ rfl rfl R.deeper (Around.frames_deeper FR.st) S)
theorem two_of {lo hi : Int} {a b : Int} (h : lo < hi) (h1 : 0 ≤ a) (h2 : 0 ≤ b) (j : Nat) (hj : j < 2) : ¬ (lo ≤ ([lo - 1 - a, hi + b] : List Int).getD j 0 ∧ ([lo - 1 - a, hi + b] : List Int).getD j 0 < hi) := by
  match j, hj with
  | 0, _ => show ¬ (lo ≤ lo - 1 - a ∧ _); wtm_at "la"
  | 1, _ => show ¬ (_ ∧ hi + b < hi); wtm_at "la"
theorem s_law_refused (H : Hyp b) (OC : ExcC b C) (O : Ok b h) (R : Room 10 A) (FR : FrOk b A l h) (h7 : 7 ≤ k) (hk : k < 11) (h0 : 0 ≤ num) (h1 : num < 2 ^ 29) (q : ∀ h', Ext b.B [] h h' → Q (.bool true) h') :
    W prog w A (PySem.call (.ref (b.fa "_law_refused")) [.int (k : Int) t, .int num u, .int z u']) Q E h := by
  have F := H.fn 84 (by decide)
  have hlh := lohi hk
  refine W.defFF H O F R FR [] (fun _ h => nomatch h) [("kind", .int (k : Int) t), ("number", .int num u), ("cell", .int z u')] (fun _ _ _ _ _ _ _ => by rfl) ?_
  intro L h₁ A' cd
  refine elimCO ?_
  intro R' hA S
  dsimp only [cf0, cfc, cfl, cff, cfg, co0, coc, col, cof, cog, List.nil_append, List.cons_append] at hA S ⊢
  repeat' wtm_at "j"
  refine s_law_bounds H (by wtm_at "ok") (R'.le (by decide)) hk ?_
  intro a t1 t2 h₂ x₂ hf hat
  have S₃ := St.add (by assumption) x₂ hf hat
  refine W.unpack2 R'.hh S₃ (.head _) ?_
  intro h₃ S₄
  clear S S₃ hat x₂ hf
  repeat' wtm_at "j"
  rename_i S₅
  refine W.tryC (h₀ := h) (X := []) H.g O OC (by decide +kernel) hA rfl rfl rfl rfl rfl ?_ ?_
  · repeat' wtm_at "j"
    exact s_law_writtenR H OC S₅.ok (R'.le (by decide)) (FrOk.push FR S₅ hA rfl (by nofun)) h7 hk h0 h1 (two_of hlh.1 (by wtm_at "la") (by wtm_at "la") _ (by wtm_at "la")) fun e h' rz => rz.up S₅.ext fun _ hy => nomatch hy
  · intro h₆ A₆ x₆
    repeat' wtm_at "j"
    exact q _ x₆
end

section
variable {prog : Program} {w : World} {A : Around} {E : Value → Heap → Prop} {h h₀ hc : Heap} {b : Bs} {v : Value} {Q : Value → Heap → Prop} {z y num : Int} {t u u' : Tok} {a c P p f a' C L D : Addr} {n k i : Nat} {X : List Addr} {fz ob : List (Addr × K)} {ls : List (Str × Value)} {l : List Env} {xs vs : List Value} {ns : List Int} {env : Env} {pos : Pos}
theorem W.listF (S : St b h₀ X fz L ls ob h) (hm : (a, .lst xs) ∈ fz) (hz : xs.length ≤ 1000) (q : ∀ D h', St b h₀ X fz L ls ((D, .lst xs) :: ob) h' → Q (.ref D) h') : W prog w A (PySem.call (.type "list") [.ref a]) Q E h := W.listC S (S.fzAt hm) (by rw [sizeLine_eq]; wtm_at "la") q
theorem s_law_varintN (H : Hyp b) (O : Ok b h) (R : Room 1 A) (h1 : n ≤ 1000000) (q : ∀ t h', Ext b.B [] h h' → Q (.bytes (vint n).toArray t) h') :
    W prog w A (PySem.call (.ref (b.fa "_law_varint")) [.int (n : Int) t]) Q E h := s_law_varint H O R (by wtm_at "la") (by wtm_at "la") q
theorem W.itemFx {value slice : Expr} (S : St b h₀ X fz L ls ob h) (hm : (a, .lst xs) ∈ fz) (hx : xs[i]? = some v) (hz : xs.length ≤ 1000) (x : Q v h)
    (hs : subscripted slice false (.ref a) (.int (i : Int) u) = operate [.ref a, .int (i : Int) u] (getItem (.ref a) (.int (i : Int) u)) := by with_unfolding_all rfl) : W prog w A (subscriptTail value slice (.ref a) (.int (i : Int) u)) Q E h := by
  have hi := (List.getElem?_eq_some_iff.mp hx).1
  exact W.item (S.fzAt hm) (by wtm_at "la") (by wtm_at "la") (by wtm_at "la") (fun v' e => by rw [Int.toNat_natCast, hx] at e; cases e; exact x) hs
theorem W.itemOx {value slice : Expr} (S : St b h₀ X fz L ls ob h) (hm : (a, .lst xs) ∈ ob) (hx : xs[i]? = some v) (hz : xs.length ≤ 1000) (x : Q v h)
    (hs : subscripted slice false (.ref a) (.int (i : Int) u) = operate [.ref a, .int (i : Int) u] (getItem (.ref a) (.int (i : Int) u)) := by with_unfolding_all rfl) : W prog w A (subscriptTail value slice (.ref a) (.int (i : Int) u)) Q E h := by
  have hi := (List.getElem?_eq_some_iff.mp hx).1
  exact W.item (S.obs _ hm) (by wtm_at "la") (by wtm_at "la") (by wtm_at "la") (fun v' e => by rw [Int.toNat_natCast, hx] at e; cases e; exact x) hs
theorem W.joinE {bs : List (List UInt8)} {x : List UInt8} (S : St b h₀ X fz L ls ob h) (hm : (a, .lst vs) ∈ ob) (hb : BytesAre vs bs) (he : bs.flatten = x) (hz : x.length ≤ 100000) (q : ∀ t, Q (.bytes x.toArray t) h) :
    W prog w A (PySem.call (.builtin "bytes.join") [.bytes #[] t, .ref a]) Q E h := by subst he; exact W.joinM S hm hb hz q
theorem iteK.eqY {x y : List UInt8} {p q : Prop} (e : x = y) (z : q) : iteK (x != y) p q := by subst e; rw [show (x != x) = false by simp]; exact iteK.ff z
theorem bneB {x y : List UInt8} (e : x = y) : (x != y) = false := by subst e; simp
theorem s_law_sizeL {m : Mode} {arg : Arg} (H : Hyp b) (O : Ok b h) (R : Room 7 A) (hk : k < 14) (h0 : 0 ≤ num) (h1 : num < 2 ^ 29) (hv : arg.is h v) (hfit : arg.fit m) (hall : arg.all (okK k)) (hm : k < 12 ∨ m ≠ .pack) (q : ∀ t h', Ext b.B [] h h' → Q (.int ((wireB num (wtK k) (encK k) m arg).length : Int) t) h') :
    W prog w A (PySem.call (.ref (b.fa "_law_size")) [.int (k : Int) t, .int num u, .bool m.r, .bool m.p, v]) Q E h := s_law_size H O R hk h0 h1 hv hfit hall hm (fsize_len hk h0 hfit hall ▸ q)
theorem s_law_toldL {p : PV} (H : Hyp b) (O : Ok b h) (R : Room 6 A) (hk : k < 14) (h0 : 0 ≤ num) (h1 : num < 2 ^ 29) (hp : okK k p) (hv : p.is v) (he : k ≠ 2 ∨ ∃ z, p = .i z ∧ 0 ≤ z) (q : ∀ t h', Ext b.B [] h h' → Q (.int ((wireB num (wtK k) (encK k) .plain (.one p)).length : Int) t) h') :
    W prog w A (PySem.call (.ref (b.fa "_law_told")) [.int (k : Int) t, .int num u, v]) Q E h := s_law_told H O R hk h0 h1 hp hv he (by
  have e := fsize_len (m := .plain) (arg := .one p) hk h0 trivial hp
  rw [show vz (8 * num) + szK k p = fsize num (szK k) .plain (.one p) from rfl, e]; exact q)
/-- the turns over the values -/
noncomputable def JF (ob₀ : List (Addr × K)) (a D D' : Addr) (num z : Int) (u u' : Tok) (i : Nat) (l : List (Str × Value)) (ob : List (Addr × K)) : Prop :=
  ob = ob₀ ∧ l.lookup (Str.ofString "number") = some (.int num u) ∧ l.lookup (Str.ofString "values") = some (.ref a) ∧ l.lookup (Str.ofString "cell") = some (.int z u') ∧ l.lookup (Str.ofString "handed") = some (.ref D) ∧ l.lookup (Str.ofString "rows") = some (.ref D')
theorem endJ {x : Addr × K} {J : List (Str × Value) → List (Addr × K) → Prop} (S : St b h₀ X fz L ls (x :: ob) h) (j : J ls ob) : ∃ l ob, J l ob ∧ St b h₀ X fz L l (x :: ob) h := ⟨_, _, j, S⟩
theorem bytes_at {vs : List Value} {k : Nat} {ps : List PV} {p : PV} (x : BytesAre vs (ps.map (encK k))) (hp : ps[i]? = some p) : ∃ t, vs[i]? = some (.bytes (encK k p).toArray t) := by
  have hi : i < vs.length := by rw [x.length, List.length_map]; exact (List.getElem?_eq_some_iff.mp hp).1
  obtain ⟨b, t, e1, e2⟩ := x.get hi
  rw [List.getElem?_map, hp] at e1
  cases e1
  exact ⟨t, e2⟩
end
section
variable {prog : Program} {w : World} {A : Around} {E : Value → Heap → Prop} {h h₀ hc : Heap} {b : Bs} {v : Value} {Q : Value → Heap → Prop} {z y num : Int} {t u u' : Tok} {a c P p f a' C L D : Addr} {n k i : Nat} {X : List Addr} {fz ob : List (Addr × K)} {ls : List (Str × Value)} {l : List Env} {xs vs : List Value} {ns : List Int} {env : Env} {pos : Pos}
theorem s_law_field {ps : List PV} (H : Hyp b) (OC : ExcC b C) (O : Ok b h) (R : Room 11 A) (FR : FrOk b A l h) (hk : k < 14) (h0 : 0 ≤ num) (h1 : num < 2 ^ 29) (hl : h.PlainList a xs.toArray) (hps : PVs xs ps) (hlen : ps.length ≤ 5) (hall : ∀ p ∈ ps, okK k p) (q : ∀ h', Ext b.B [] h h' → Q (.bool true) h') :
    W prog w A (PySem.call (.ref (b.fa "_law_field")) [.int (k : Int) t, .int num u, .ref a, .int z u']) Q E h := by
  have F := H.fn 85 (by decide)
  have hw := wtK_le hk
  have hv5 : Arg.is h (.many ps) (.ref a) := ⟨a, xs, rfl, hl, hps, hlen⟩
  have hxl := hps.length
  have ht10 : (vint (8 * num + wtK k).toNat).length ≤ 10 := vint_le (by wtm_at "la")
  refine W.defFF H O F R FR [(a, .lst xs)] (fun p hp => by rw [List.mem_singleton] at hp; subst hp; exact hl) [("kind", .int (k : Int) t), ("number", .int num u), ("values", .ref a), ("cell", .int z u')] (fun _ _ _ _ _ _ _ => by rfl) ?_
  intro L h₁ A' cd
  refine elimCO ?_
  intro R' hA S
  dsimp only [cf0, cfc, cfl, cff, cfg, co0, coc, col, cof, cog, List.nil_append, List.cons_append] at hA S ⊢
  repeat' wtm_at "j"
  rename_i S₁
  clear S
  refine W.assignComp rfl rfl rfl (nmOk_of (by kernel_rfl!)) ?_
  repeat' wtm_at "j"
  refine compK.listF (fun i ys => BytesAre ys ((ps.take i).map (encK k))) R'.hh S₁ (by wtm_at "mem") (by wtm_at "la") rfl (ncOk_of (by kernel_rfl!)) (fun _ => by kernel_rfl!) rfl .nil ?_ ?_
  · clear S₁
    rintro C D it i v ys m h hv hJ hly S
    obtain ⟨p, hp, hpv⟩ := hps.get hv
    repeat' wtm_at "j"
    refine s_law_one H (by wtm_at "ok") (R'.le (by decide)) hk (hall p (List.mem_of_getElem? hp)) hpv (St.useI (by assumption) ?_)
    intro _ _ _
    refine ⟨?_, by assumption⟩
    rw [List.take_add_one, hp, List.map_append]
    exact hJ.append (.cons _ _ .nil)
  intro D ys hJ hly C m h S
  rw [hxl, List.take_length] at hJ
  rw [hxl] at hly
  refine W.assignName (W.storeL S rfl rfl (by kernel_rfl!) fun h' S' => ⟨_, _, S', fun h'' S'' => ?_⟩)
  clear S S' S₁
  repeat' wtm_at "j"
  rename_i hrg S₂
  refine forK.range (JF _ a _ D num z u u') R'.hh S₂ ⟨rfl, by wtm_at "lk", by wtm_at "lk", by wtm_at "lk", by wtm_at "lk", by wtm_at "lk"⟩ hrg (by wtm_at "la") (by wtm_at "la") ?_ ?_
  · clear S₂ S''
    rintro it i tk l ob h hi ⟨rfl, r1, r2, r3, r4, r5⟩ hit S
    have hil : i < xs.length := by wtm_at "la"
    have hx : xs[i]? = some xs[i] := List.getElem?_eq_getElem hil
    obtain ⟨p, hp, hpv⟩ := hps.get hx
    generalize xs[i] = v₀ at hx hpv
    have hok := hall p (List.mem_of_getElem? hp)
    obtain ⟨tr, hrow⟩ := bytes_at hJ hp
    have hl1 := encK_len hk p hok
    have hE : ((wireB num (wtK k) (encK k) .plain (.one p)).length : Int) = ((vint (8 * num + wtK k).toNat ++ encK k p).length : Int) := rfl
    repeat' wtm_at "j"
    refine s_law_written (m := .plain) (arg := .one p) H OC (by wtm_at "ok") (R'.le (by decide)) hk h0 h1 hpv trivial hok (.inr nofun) (St.useI (by assumption) ?_)
    intro _ _ _
    repeat' wtm_at "j"
    refine s_law_sizeL (m := .plain) (arg := .one p) H (by wtm_at "ok") (R'.le (by decide)) hk h0 h1 hpv trivial hok (.inr nofun) (St.useI (by assumption) ?_)
    intro _ _ _
    repeat' wtm_at "j"
    · exact absurd hE (by assumption)
    · refine s_law_toldL H (by wtm_at "ok") (R'.le (by decide)) hk h0 h1 hok hpv (.inl (by wtm_at "la")) (St.useI (by assumption) ?_)
      intro _ _ _
      repeat' wtm_at "j"
      · exact absurd hE (by assumption)
      · exact loopK.turn (by wtm_at "la") (endJ (by assumption) ⟨rfl, by wtm_at "lk", by wtm_at "lk", by wtm_at "lk", by wtm_at "lk", by wtm_at "lk"⟩)
    · obtain ⟨z', rfl, hz⟩ := ok32 (by wtm_at "la") p hok
      obtain ⟨tz, rfl⟩ := hpv
      repeat' wtm_at "j"
      · refine s_law_toldL H (by wtm_at "ok") (R'.le (by decide)) hk h0 h1 hok ⟨_, rfl⟩ (.inr ⟨z', rfl, by assumption⟩) (St.useI (by assumption) ?_)
        intro _ _ _
        repeat' wtm_at "j"
        · exact absurd hE (by assumption)
        · exact loopK.turn (by wtm_at "la") (endJ (by assumption) ⟨rfl, by wtm_at "lk", by wtm_at "lk", by wtm_at "lk", by wtm_at "lk", by wtm_at "lk"⟩)
      · exact loopK.turn (by wtm_at "la") (endJ (by assumption) ⟨rfl, by wtm_at "lk", by wtm_at "lk", by wtm_at "lk", by wtm_at "lk", by wtm_at "lk"⟩)
  · clear S₂ S''
    rintro l ob h ⟨rfl, r1, r2, r3, r4, r5⟩ S
    have hyz : ys.length ≤ 1000 := by wtm_at "la"
    repeat' wtm_at "j"
    refine W.comp rfl rfl (nmOk_of (by kernel_rfl!)) ?_
    repeat' wtm_at "j"
    refine compK.listO (fun i ws => BytesAre ws ((ps.take i).map fun p => vint (8 * num + wtK k).toNat ++ encK k p)) R'.hh S (by wtm_at "mem") (by wtm_at "la") rfl (ncOk_of (by kernel_rfl!)) (fun _ => by kernel_rfl!) rfl .nil ?_ ?_
    · clear S
      rintro C D it i v ws m h hv hW hlw S
      have hi : i < ps.length := by have := (List.getElem?_eq_some_iff.mp hv).1; wtm_at "la"
      have hp : ps[i]? = some ps[i] := List.getElem?_eq_getElem hi
      obtain ⟨tr, hrow⟩ := bytes_at hJ hp
      rw [hrow] at hv
      cases hv
      have hl1 := encK_len hk ps[i] (hall _ (List.getElem_mem hi))
      repeat' wtm_at "j"
      refine ⟨?_, by assumption⟩
      rw [List.take_add_one, hp, List.map_append]
      exact hW.append (.cons _ _ .nil)
    intro D₂ ws hW hlw h S₃
    rw [hly, List.take_length] at hW
    clear S
    have hle := fun m => wireB_le (m := m) (arg := .many ps) hk h0 h1 hall hv5
    have hfl : (ps.flatMap (encK k)).length ≤ 20050 := by
      have h5 := flat_le (f := encK k) (m := 4010) (ps := ps) fun p hp => encK_len hk p (hall p hp)
      have h6 : 4010 * ps.length ≤ 4010 * 5 := Nat.mul_le_mul_left _ hlen
      wtm_at "la"
    have ht2 : (vint (8 * num + 2).toNat).length ≤ 10 := vint_le (by wtm_at "la")
    have hv3 := vint_le (Z := (ps.flatMap (encK k)).length) (by wtm_at "la")
    clear hv5
    repeat' wtm_at "j"
    refine W.joinE (x := wireB num (wtK k) (encK k) .rep (.many ps)) S₃ (by wtm_at "mem") hW rfl (hle _) ?_
    intro _
    repeat' wtm_at "j"
    refine s_law_written (m := .rep) (arg := .many ps) H OC (by wtm_at "ok") (R'.le (by decide)) hk h0 h1 ⟨_, xs, rfl, St.obs (by assumption) (_, .lst xs) (by wtm_at "mem"), hps, hlen⟩ trivial hall (.inr nofun) (St.useI (by assumption) ?_)
    intro _ _ _
    repeat' wtm_at "j"
    refine s_law_sizeL (m := .rep) (arg := .many ps) H (by wtm_at "ok") (R'.le (by decide)) hk h0 h1 ⟨_, xs, rfl, St.obs (by assumption) (_, .lst xs) (by wtm_at "mem"), hps, hlen⟩ trivial hall (.inr nofun) (St.useI (by assumption) ?_)
    intro _ _ _
    have hle2 := hle .rep
    repeat' wtm_at "j"
    · exact absurd (Eq.refl ((wireB num (wtK k) (encK k) .rep (.many ps)).length : Int)) (by assumption)
    · refine W.joinE (x := ps.flatMap (encK k)) (by assumption) (by wtm_at "mem") hJ rfl (by wtm_at "la") ?_
      intro _
      repeat' wtm_at "j"
      refine s_law_written (m := .pack) (arg := .many ps) H OC (by wtm_at "ok") (R'.le (by decide)) hk h0 h1 ⟨_, xs, rfl, St.obs (by assumption) (_, .lst xs) (by wtm_at "mem"), hps, hlen⟩ trivial hall (.inl (by wtm_at "la")) (St.useI (by assumption) ?_)
      intro _ _ _
      repeat' wtm_at "j"
      refine s_law_sizeL (m := .pack) (arg := .many ps) H (by wtm_at "ok") (R'.le (by decide)) hk h0 h1 ⟨_, xs, rfl, St.obs (by assumption) (_, .lst xs) (by wtm_at "mem"), hps, hlen⟩ trivial hall (.inl (by wtm_at "la")) (St.useI (by assumption) ?_)
      intro _ _ _
      have hE : ((wireB num (wtK k) (encK k) .pack (.many ps)).length : Int) = ((vint (8 * num + 2).toNat ++ vint (ps.flatMap (encK k)).length ++ ps.flatMap (encK k)).length : Int) := rfl
      repeat' wtm_at "j"
      · exact absurd hE (by assumption)
      · refine s_law_refused H OC (by wtm_at "ok") (R'.le (by decide)) (FrOk.push FR (by assumption) hA rfl (by nofun)) (by wtm_at "la") (by wtm_at "la") h0 h1 ?_
        intro h' x'
        have S' := St.ext0 (by assumption) x'
        repeat' wtm_at "j"
        refine W.eqL (by have := R'.un; wtm_at "la") (St.obs (by assumption) (_, .lst xs) (by wtm_at "mem")) (St.fzAt (by assumption) (k := .lst xs) (by wtm_at "mem")) ?_
        repeat' wtm_at "j"
        exact q _ (St.ext (by assumption))
      · refine W.eqL (by have := R'.un; wtm_at "la") (St.obs (by assumption) (_, .lst xs) (by wtm_at "mem")) (St.fzAt (by assumption) (k := .lst xs) (by wtm_at "mem")) ?_
        repeat' wtm_at "j"
        exact q _ (St.ext (by assumption))
      · refine W.eqL (by have := R'.un; wtm_at "la") (St.obs (by assumption) (_, .lst xs) (by wtm_at "mem")) (St.fzAt (by assumption) (k := .lst xs) (by wtm_at "mem")) ?_
        repeat' wtm_at "j"
        exact q _ (St.ext (by assumption))
    · refine s_law_refused H OC (by wtm_at "ok") (R'.le (by decide)) (FrOk.push FR (by assumption) hA rfl (by nofun)) (by wtm_at "la") (by wtm_at "la") h0 h1 ?_
      intro h' x'
      have S' := St.ext0 (by assumption) x'
      repeat' wtm_at "j"
      refine W.eqL (by have := R'.un; wtm_at "la") (St.obs (by assumption) (_, .lst xs) (by wtm_at "mem")) (St.fzAt (by assumption) (k := .lst xs) (by wtm_at "mem")) ?_
      repeat' wtm_at "j"
      exact q _ (St.ext (by assumption))
    · refine W.eqL (by have := R'.un; wtm_at "la") (St.obs (by assumption) (_, .lst xs) (by wtm_at "mem")) (St.fzAt (by assumption) (k := .lst xs) (by wtm_at "mem")) ?_
      repeat' wtm_at "j"
      exact q _ (St.ext (by assumption))
    · refine W.eqL (by have := R'.un; wtm_at "la") (St.obs (by assumption) (_, .lst xs) (by wtm_at "mem")) (St.fzAt (by assumption) (k := .lst xs) (by wtm_at "mem")) ?_
      repeat' wtm_at "j"
      exact q _ (St.ext (by assumption))
end

section
variable {prog : Program} {w : World} {A : Around} {E : Value → Heap → Prop} {h h₀ hc : Heap} {b : Bs} {v : Value} {Q : Value → Heap → Prop} {z y num : Int} {t u u' : Tok} {a c P p f a' C L D : Addr} {n k i : Nat} {X : List Addr} {fz ob : List (Addr × K)} {ls : List (Str × Value)} {l : List Env} {xs vs : List Value} {ns : List Int} {env : Env} {pos : Pos}
theorem W.mod14 (x : ∀ (k : Nat) t, k < 14 → Q (.int (k : Int) t) h) : W prog w A (binaryOp .Mod (.int z t) (.int 14 u)) Q E h := W.modE (by decide) fun t => by
  obtain ⟨k, hk⟩ := Int.eq_ofNat_of_zero_le (show 0 ≤ z % 14 by wtm_at "la")
  rw [hk]
  exact x k t (by wtm_at "la")
theorem W.mod29 (x : ∀ (m : Int) t, 0 ≤ m → m < 536870911 → Q (.int m t) h) : W prog w A (binaryOp .Mod (.int z t) (.int (1 * 2 ^ (29 : Int).toNat - 1) u)) Q E h := by
  have e : (1 : Int) * 2 ^ (29 : Int).toNat - 1 = 536870911 := by decide
  rw [e]
  exact W.modE (by decide) fun t => x _ t (by wtm_at "la") (by wtm_at "la")
theorem s_law_cellM (H : Hyp b) (S : St b h₀ X fz L ls ob h) (hm : (a, .lst xs) ∈ fz) (his : IntsAre xs ns) (hn : ns.length ≤ 63) (R : Room 1 A) (h0 : 0 ≤ z) (q : ∀ n t h', St b h₀ X fz L ls ob h' → Q (.int n t) h') :
    W prog w A (PySem.call (.ref (b.fa "_law_cell")) [.ref a, .int z t]) Q E h := s_law_cell H S.ok R (S.fzAt hm) his hn h0 fun n t h' x => q n t h' (S.ext0 x)
section
variable {elt iter : Expr} {x : Str} {px : Pos} {scope : Scope} {cpos : Pos} {cl : List (Str × Addr)} {use : Option (Value → Sem Unit)}
theorem compK.rangeZ {N : Int} {t u v : Tok}
    (J : Nat → List Value → Prop) (R : A.handled = none) (S : St b h₀ X fz L ls ob h) (hr : IsRange h a 0 N 1 t u v) (hN : 0 ≤ N) (hn : N ≤ 16777216)
    (hkind : scope.kind = .function) (hcell : ∀ y ∈ scope.names, y.2 ≠ .cell) (hx : ∀ C, (compEnvC scope cl C env).kindOf x = some .local) (hL : env.locals = L) (h0 : J 0 [])
    (turn : ∀ C D it (i : Nat) tk ys m h k, (i : Int) < N → J i ys → ys.length = i → St b h₀ X fz C ((x, .int i tk) :: m) ((L, .ns ls) :: (D, .lst ys) :: (it, k) :: ob) h →
      W prog w A (eval elt (compEnvC scope cl C env)) (fun y h' => cEnd (J (i + 1) (ys ++ [y])) (St b h₀ X fz C ((x, .int i tk) :: m) ((L, .ns ls) :: (D, .lst ys) :: (it, k) :: ob) h')) (fun _ _ => False) h)
    (fin : ∀ D ys, J N.toNat ys → (ys.length : Int) = N → useK prog w A use Q b h₀ X fz L ls ob D ys) : compK prog w A elt iter x px scope cpos cl env use Q (.ref a) h := by
  obtain ⟨N, rfl⟩ := Int.eq_ofNat_of_zero_le hN
  exact compK.rangeC J R S hr (by wtm_at "la") hkind hcell hx hL h0 (fun C D it i tk ys m h hi hJ hl S => turn C D it i tk ys m h _ (by wtm_at "la") hJ hl S) fun D ys hJ hl => fin D ys (by rw [Int.toNat_natCast]; exact hJ) (by wtm_at "la")
end
end
section
variable {prog : Program} {w : World} {A A₀ : Around} {E : Value → Heap → Prop} {h h₀ hc : Heap} {b : Bs} {v : Value} {Q : Value → Heap → Prop} {z y num : Int} {t u u' : Tok} {a c P p f a' C L D c1 c2 c3 : Addr} {n k i : Nat} {X : List Addr} {fz ob : List (Addr × K)} {ls : List (Str × Value)} {l : List Env} {xs vs : List Value} {ns : List Int} {env : Env} {pos : Pos}
noncomputable def LawAt (P : Arguments → List Stmt → Scope → Prop) : Prop := match PySem.Challenge.pw_jd0022_01.main.body[(86 : Nat)]? with
  | some (.FunctionDef _ params body _ _ _ scope _ _ _) => P params body scope
  | _ => False
noncomputable def JL (a c1 c2 c3 : Addr) (x0 : Addr × K) (i : Nat) (l : List (Str × Value)) (ob : List (Addr × K)) : Prop := ∃ v2 v3, ob = [x0, (c1, .cell (some (.ref a))), (c2, .cell v2), (c3, .cell v3)]
theorem PVs.snoc {vs : List Value} {ps : List PV} {p : PV} (x : PVs vs ps) (y : p.is v) : PVs (vs ++ [v]) (ps ++ [p]) := by
  induction x with
  | nil => exact .cons y .nil
  | cons z _ ih => exact .cons z ih
theorem law_walk (H : Hyp b) (OC : ExcC b C) (R : Room 12 A) (FR : FrOk b A₀ l h₀) (his : IntsAre xs ns) (hn : ns.length ≤ 63) : LawAt fun _ body sc => ∀ L af cd h, A.frames = some (envX (Str.ofString "law") sc L af cd [(Str.ofString "kind", c3), (Str.ofString "k", c2), (Str.ofString "script", c1)] :: l) →
    St b h₀ [] [(a, .lst xs)] L [] [(c1, .cell (some (.ref a))), (c2, .cell none), (c3, .cell none)] h →
    W prog w A (execs body (envX (Str.ofString "law") sc L af cd [(Str.ofString "kind", c3), (Str.ofString "k", c2), (Str.ofString "script", c1)])) (fun f h' => f = .ret (.bool true) ∧ Ext b.B [] h₀ h') (fun _ _ => False) h := by
  intro L af cd h hA S
  repeat' wtm_at "j"
  rename_i hrg S₁
  refine forK.range (JL a c1 c2 c3 _) R.hh S₁ ⟨_, _, rfl⟩ hrg (by decide) (by decide) ?_ ?_
  · clear S₁ S
    rintro it i tk l' ob h hi ⟨v2, v3, rfl⟩ hit S
    repeat' wtm_at "j"
    rename_i kk _ hkk _ _ _ _ _ _ _ _ _ _ _ _ _ _ _ _ m _ hm0 hm1 _ _ S₉
    clear S
    refine W.assignComp rfl rfl rfl (nmOk_of (by kernel_rfl!)) ?_
    repeat' wtm_at "j"
    rename_i hrg2 S₁₀
    refine compK.rangeZ (fun i ys => ∃ ps, PVs ys ps ∧ ∀ p ∈ ps, okK kk p) R.hh S₁₀ hrg2 (by wtm_at "la") (by wtm_at "la") rfl (ncOk_of (by kernel_rfl!)) (fun _ => by kernel_rfl!) rfl ⟨[], .nil, fun _ h => nomatch h⟩ ?_ ?_
    · clear S₉ S₁₀
      rintro C D it' j tj ys m h kit hj ⟨ps, hps, hok⟩ hly S
      repeat' wtm_at "j"
      refine s_law_value H (by wtm_at "ok") (R.le (by decide)) hkk ?_
      intro v p h' hp hpv x
      have S' := St.ext0 (by assumption) x
      refine ⟨⟨_, hps.snoc hpv, fun q hq => ?_⟩, S'⟩
      rcases List.mem_append.mp hq with hq | hq
      · exact hok q hq
      · rw [List.mem_singleton] at hq; rw [hq]; exact hp
    · rintro D ys ⟨ps, hps, hok⟩ hly C m h S
      have hpl := hps.length
      refine W.assignName (W.storeL S rfl rfl (by kernel_rfl!) fun h' S' => ⟨_, _, S', fun h'' S'' => ?_⟩)
      clear S S' S₉ S₁₀
      repeat' wtm_at "j"
      · refine s_law_field (ps := []) H OC (by wtm_at "ok") (R.le (by decide)) (FrOk.push FR (by assumption) hA rfl (by nofun)) hkk (by wtm_at "la") (by wtm_at "la") (St.obs (by assumption) (_, .lst []) (by wtm_at "mem")) .nil (by decide) (fun _ h => nomatch h) ?_
        intro h' x'
        have S' := St.ext0 (by assumption) x'
        repeat' wtm_at "j"
        exact loopK.turn (by wtm_at "la") (endJ S'.drop.drop.drop ⟨_, _, rfl⟩)
      · refine s_law_field (ps := ps) H OC (by wtm_at "ok") (R.le (by decide)) (FrOk.push FR (by assumption) hA rfl (by nofun)) hkk (by wtm_at "la") (by wtm_at "la") (St.obs (by assumption) (_, .lst ys) (by wtm_at "mem")) hps (by wtm_at "la") hok ?_
        intro h' x'
        have S' := St.ext0 (by assumption) x'
        repeat' wtm_at "j"
        exact loopK.turn (by wtm_at "la") (endJ S'.drop.drop ⟨_, _, rfl⟩)
  · rintro l' ob h ⟨v2, v3, rfl⟩ S
    repeat' wtm_at "j"
    exact ⟨rfl, S.ext⟩
end

/-! the base of the law -/
noncomputable def rcOf (st : Stmt) : Option (Str × Arguments × List Stmt × Scope) := match st with
  | .FunctionDef n a b _ _ _ sc _ _ _ => (match a.defaults with
    | [] => some (n, a, b, sc)
    | _ => none)
  | _ => none
theorem recs_eq : (recsOf PySem.Challenge.pw_jd0022_01).map (fun d => (d.name, d.params, d.body, d.scope)) = PySem.Challenge.pw_jd0022_01.main.body.filterMap rcOf := by kernel_rfl
noncomputable def bsOf (h : Heap) (tabs : List (Addr × Addr)) (mg mb : Str → Option Value) : Bs := { B := ghostOf h tabs, fa := fun x => match mg x with | some (.ref a) => a | _ => 0, ts := tabs.map (·.2), mg, mb }
noncomputable def chk (i : Nat) : Bool := match PySem.Challenge.pw_jd0022_01.main.body[i]? with
  | some (.FunctionDef _ params _ _ _ _ _ _ _ _) => params.defaults.isEmpty
  | _ => false
theorem chk_ok : ([4, 5, 13, 14, 15, 16, 17, 18, 19, 20, 21, 22, 23, 24, 25, 26, 27, 28, 29, 30, 32, 33, 34, 38, 39, 40, 41, 42, 43, 44, 45, 46, 47, 48, 49, 55, 59, 60, 61, 62, 63, 64, 65, 66, 67, 68, 69, 74, 75, 76, 77, 78, 79, 80, 81, 83, 84, 85] ++ [35, 36, 37, 50, 51, 54, 56, 57, 58, 70, 71, 72, 82] : List Nat).all chk = true := by kernel_rfl
theorem dn_ok : defNames.all (fun x => (recsOf PySem.Challenge.pw_jd0022_01).any (fun d => d.name == x) || x == Str.ofString "_EncodeVarint" || x == Str.ofString "_EncodeSignedVarint") = true := by kernel_rfl
/-! what the head is asked beside -/
/-- a def with a default of None stands in h under the names m -/
noncomputable def FdAt (m : Str → Option Value) (h : Heap) (i : Nat) : Prop := match PySem.Challenge.pw_jd0022_01.main.body[i]? with
  | some (.FunctionDef name params body _ _ _ scope _ _ _) => ∃ a cd dV, m name = some (.ref a) ∧ FnO h a name params body scope [] dV cd ∧ DvIs h [.none] dV
  | _ => False
structure SaysH (m : Str → Option Value) (h : Heap) : Prop where
  ns : h.Ns mainGlobals m
  fd : ∀ i ∈ [52, 53], FdAt m h i
  inz : ∀ x ∈ lI, ∃ t, m x.1 = some (.int x.2 t)
  nnz : ∀ x ∈ lN, m x = none
theorem FdAt.keeps {m : Str → Option Value} {h h' : Heap} {i : Nat} (x : FdAt m h i) (k : ∀ b o, h.get? b = some o → h'.get? b = some o) : FdAt m h' i := by
  unfold FdAt at x ⊢
  split at x
  · obtain ⟨a, cd, dV, h1, ⟨o, name, kV, doc, pm, an, ct, e, d, c⟩, T, e1, e2⟩ := x
    exact ⟨a, cd, dV, h1, ⟨o, name, kV, doc, pm, an, ct, k _ _ e, d, c.keeps k⟩, T, e1, k _ _ e2⟩
  · exact x.elim
theorem fdAt_of {h : Heap} {i : Nat} {x : Str} (hx : ∃ q, quadAt i = some (x, q)) (e1 : (lkFn h x).bind fdQ = quadAt i) (e2 : ((lkFn h x).bind (cdO h)).bind cnm = some x) (e3 : (lkFn h x).bind (dfO h) = some { cls := .type "tuple", data := .seq #[.none] }) : FdAt (h.nsMap mainGlobals) h i := by
  obtain ⟨q, hq⟩ := hx
  unfold FdAt
  unfold quadAt at e1 hq
  split at hq
  · rename_i name params body dl rt tp scope ts bd pos hi
    try rw [hi] at e1
    try rw [hi]
    have hn : name = x := by cases hq; rfl
    subst hn
    show ∃ a cd dV, h.nsMap mainGlobals name = some (.ref a) ∧ FnO h a name params body scope [] dV cd ∧ DvIs h [.none] dV
    cases hl : lkFn h name with
    | none => rw [hl] at e3; cases e3
    | some o =>
      rw [hl] at e1 e2 e3
      simp only [Option.bind_some] at e1 e2 e3
      obtain ⟨oc, od, dt, sl⟩ := o
      cases dt with
      | func fd =>
        simp only [fdQ, Option.some.injEq, Prod.mk.injEq] at e1
        obtain ⟨g1, g2, g3, g4, g5, g6, g7⟩ := e1
        unfold lkFn at hl
        split at hl
        · rename_i a ha
          refine ⟨a, fd.code, fd.defaults, ha, ⟨_, fd.name, fd.kwdefaults, fd.doc, fd.pyModule, fd.annotations, fd.closureTuple, hl, ?_, ?_⟩, ?_⟩
          · show Data.func fd = _
            congr 1
            obtain ⟨⟩ := fd
            dsimp only at g1 g2 g3 g4 g5 g6 g7 ⊢
            subst g1 g2 g3 g4 g5 g6 g7
            rfl
          · simp only [cdO] at e2
            split at e2
            · rename_i c hc
              cases q2 : h.get? c with
              | none => rw [q2] at e2; cases e2
              | some oc =>
                rw [q2] at e2
                simp only [Option.bind_some, cnm] at e2
                split at e2
                · rename_i vs hv
                  split at e2
                  · rename_i q' t hv2
                    cases e2
                    exact ⟨c, oc, vs, t, hc, q2, hv, hv2⟩
                  · cases e2
                · cases e2
            · cases e2
          · simp only [dfO] at e3
            split at e3
            · rename_i c hc
              exact ⟨c, hc, e3⟩
            · cases e3
        · cases hl
      | _ => cases e3
  · cases hq
noncomputable def Hk : Hook where
  α := _
  obs := fun s => obsH s.heap
  val := fun _ => valH
  says := fun _ h => ∃ m, SaysH m h
  of := fun w s e => by
    have e : obsH s.heap = valH := e
    simp only [obsH, valH, lE, List.map_cons, List.map_nil, Prod.mk.injEq, List.cons.injEq, and_true] at e
    obtain ⟨e0, ⟨⟨a1, a2, a3⟩, b1, b2, b3⟩, e2, e3⟩ := e
    refine ⟨_, .of_isNs e0, fun i hi => ?_, fun x hx => ?_, fun x hx => ?_⟩
    · simp only [List.mem_cons, List.not_mem_nil, or_false] at hi
      rcases hi with rfl | rfl
      · exact fdAt_of ⟨_, rfl⟩ a1 a2 a3
      · exact fdAt_of ⟨_, rfl⟩ b1 b2 b3
    · have := List.map_inj_left.mp e2 x hx
      unfold intG at this
      split at this
      · rename_i q; cases this; exact ⟨_, q⟩
      · cases this
    · have := List.map_inj_left.mp e3 x hx
      exact Option.isNone_iff_eq_none.mp this
  keeps := fun w h h' ⟨m, x⟩ k => ⟨m, x.ns.keeps k, fun i hi => (x.fd i hi).keeps k, x.inz, x.nnz⟩

section
variable {w : World} {lo lo2 : List Str} {mean mean2 : ExcName → Option Value} {mg mb m : Str → Option Value} {h : Heap} {pp : Program} {tabs : List (Addr × Addr)}
theorem not_tab {o : Obj} {fd : FuncData} (e : o.data = .func fd) : o ≠ tabObj #[] := fun q => by rw [q] at e; cases e
theorem tabs_ex {α : Type} {R : α → Addr × Addr → Prop} {h : Heap} : ∀ (L : List α), (∀ d ∈ L, ∃ q, R d q ∧ CodeHd h q.1 q.2 ∧ h.get? q.2 = some (tabObj #[])) → ∃ tabs, TabsAt tabs h ∧ ∀ d ∈ L, ∃ q ∈ tabs, R d q
  | [], _ => ⟨[], fun _ k => (nomatch k), fun _ k => (nomatch k)⟩
  | d :: r, k => by
    obtain ⟨q, h1, h2, h3⟩ := k d (.head _)
    obtain ⟨t, h4, h5⟩ := tabs_ex r fun d' hd' => k d' (.tail _ hd')
    refine ⟨q :: t, fun p hp => ?_, fun d' hd' => ?_⟩
    · rcases List.mem_cons.mp hp with rfl | hp
      · exact ⟨h2, h3⟩
      · exact h4 p hp
    · rcases List.mem_cons.mp hd' with rfl | hd'
      · exact ⟨q, .head _, h1⟩
      · obtain ⟨p, h6, h7⟩ := h5 d' hd'
        exact ⟨p, .tail _ h6, h7⟩
noncomputable def Laid (tabs : List (Addr × Addr)) (mg : Str → Option Value) (h : Heap) : Prop := TabsAt tabs h ∧ ∀ d ∈ recsOf PySem.Challenge.pw_jd0022_01, ∃ q ∈ tabs, ∃ a o fd, mg d.name = some (.ref a) ∧ h.get? a = some o ∧ o.data = .func fd ∧ fd.code = .ref q.1
theorem laid_of (T : Top PySem.Challenge.pw_jd0022_01 lo mean mg mb h) : ∃ tabs, Laid tabs mg h := by
  refine tabs_ex (R := fun (d : DefRec) (q : Addr × Addr) => ∃ a o fd, mg d.name = some (.ref a) ∧ h.get? a = some o ∧ o.data = .func fd ∧ fd.code = .ref q.1) _ fun d hd => ?_
  obtain ⟨a, o, fd, c, P, h1, h2, h3, h4, h5, h6⟩ := T.tab d hd
  exact ⟨(c, P), ⟨a, o, fd, h1, h2, h3, h4⟩, .of h5 h6, h6.2⟩
theorem fnAll (T : Top PySem.Challenge.pw_jd0022_01 lo mean mg mb h) (D : Laid tabs mg h) {i : Nat} {name : Str} {params : Arguments} {body : List Stmt} {dl : List Expr} {rt : Option Expr} {tp : List TypeParam} {scope : Scope} {ts : Option Scope} {bd : Str} {pos : Pos}
    (hi : PySem.Challenge.pw_jd0022_01.main.body[i]? = some (.FunctionDef name params body dl rt tp scope ts bd pos)) (hd0 : params.defaults = []) :
    ∃ a q, q ∈ tabs ∧ mg name = some (.ref a) ∧ FnO (ghostOf h tabs) a name params body scope [] .none (.ref q.1) := by
  have mem : (name, params, body, scope) ∈ PySem.Challenge.pw_jd0022_01.main.body.filterMap rcOf := List.mem_filterMap.mpr ⟨_, List.mem_of_getElem? hi, by simp only [rcOf, hd0]⟩
  rw [← recs_eq] at mem
  obtain ⟨d, hdm, e⟩ := List.mem_map.mp mem
  cases e
  obtain ⟨a, o, pm, code, doc, h1, h2, h3, cr⟩ := T.fn d hdm
  obtain ⟨q, hq, a', o', fd', k1, k2, k3, k4⟩ := D.2 d hdm
  rw [h1] at k1
  cases k1
  rw [h2] at k2
  cases k2
  rw [h3] at k3
  cases k3
  have k4 : code = .ref q.1 := k4
  subst k4
  obtain ⟨c, oc, vs, t, e1, e2, e3, e4⟩ := cr
  refine ⟨a, q, hq, h1, o, d.name, .none, doc, pm, none, _, ghost_get D.1 h2 (not_tab h3), h3, c, oc, vs, t, e1, ghost_get D.1 e2 (fun q => ?_), e3, e4⟩
  rw [q] at e3
  cases e3
  cases e4
theorem fnAt_of {a : Addr} {o : Obj} {fd : FuncData} (e : h.get? a = some o) (d : o.data = .func fd) : FnAt a h := by
  obtain ⟨oc, od, dt, sl⟩ := o
  cases d
  exact ⟨_, _, _, _, e⟩
theorem fa_of {x : Str} {a : Addr} (e : mg x = some (.ref a)) : (bsOf h tabs mg mb).fa x = a := by
  show (match mg x with | some (.ref a) => a | _ => 0) = a
  rw [e]
theorem hasF (T : Top PySem.Challenge.pw_jd0022_01 lo mean mg mb h) (D : Laid tabs mg h) (i : Nat) (hc : chk i = true) : HasF (bsOf h tabs mg mb) i := by
  unfold chk at hc
  unfold HasF
  split at hc
  · rename_i name params body dl rt tp scope ts bd pos hi
    try rw [hi]
    have hd0 : params.defaults = [] := by simpa using hc
    obtain ⟨a, q, _, h1, F⟩ := fnAll T D hi hd0
    show ∃ cd, FnO _ ((bsOf h tabs mg mb).fa name) name params body scope [] .none cd
    rw [fa_of h1]
    exact ⟨_, F⟩
  · cases hc
theorem maker (T : Top PySem.Challenge.pw_jd0022_01 lo mean mg mb h) (D : Laid tabs mg h) (i : Nat) (hc : chk i = true) : Maker (bsOf h tabs mg mb) i := by
  unfold chk at hc
  unfold Maker
  split at hc
  · rename_i name params body dl rt tp scope ts bd pos hi
    try rw [hi]
    have hd0 : params.defaults = [] := by simpa using hc
    obtain ⟨a, q, hq, h1, F⟩ := fnAll T D hi hd0
    show ∃ c P, FnO _ ((bsOf h tabs mg mb).fa name) name params body scope [] .none (.ref c) ∧ CodeHd _ c P ∧ P ∈ _
    rw [fa_of h1]
    obtain ⟨o, vs, file, tf, flags, tg, inF, text, tt, e1, r1, r2⟩ := (D.1 q hq).1
    exact ⟨q.1, q.2, F, ⟨o, vs, file, tf, flags, tg, inF, text, tt, ghost_get D.1 e1 (fun q => by rw [q] at r1; cases r1), r1, r2⟩, List.mem_map_of_mem hq⟩
  · cases hc
theorem hasFd (D : TabsAt tabs h) {i : Nat} (x : FdAt mg h i) : HasFd (bsOf h tabs mg mb) i := by
  unfold FdAt at x
  unfold HasFd
  split at x
  · rename_i name params body dl rt tp scope ts bd pos hi
    try rw [hi]
    obtain ⟨a, cd, dV, h1, ⟨o, nm, kV, doc, pm, an, ct, e, d, c, oc, vs, t, e1, e2, e3, e4⟩, T, d1, d2⟩ := x
    show ∃ cd dV, FnO _ ((bsOf h tabs mg mb).fa name) name params body scope [] dV cd ∧ DvIs _ [.none] dV
    rw [fa_of h1]
    refine ⟨cd, dV, ⟨o, nm, kV, doc, pm, an, ct, ghost_get D e (not_tab d), d, c, oc, vs, t, e1, ghost_get D e2 (fun q => ?_), e3, e4⟩, T, d1, ghost_get D d2 (fun q => by cases q)⟩
    rw [q] at e3
    cases e3
    cases e4
  · exact x.elim
theorem fdNm {i : Nat} {x : Str} (hx : ∃ q, quadAt i = some (x, q)) (y : FdAt mg h i) : ∃ a o fd, mg x = some (.ref a) ∧ h.get? a = some o ∧ o.data = .func fd := by
  obtain ⟨q, hq⟩ := hx
  unfold FdAt at y
  unfold quadAt at hq
  split at y
  · rename_i name params body dl rt tp scope ts bd pos hi
    try rw [hi] at hq
    have hn : name = x := by cases hq; rfl
    subst hn
    obtain ⟨a, cd, dV, h1, ⟨o, nm, kV, doc, pm, an, ct, e, d, _⟩, _⟩ := y
    exact ⟨a, o, _, h1, e, d⟩
  · exact y.elim
theorem hyp_of (T : Top PySem.Challenge.pw_jd0022_01 lo mean mg mb h) (D : Laid tabs mg h) (S : SaysH mg h) (T' : Top pp lo2 mean2 mg mb (ghostOf h tabs)) : Hyp (bsOf h tabs mg mb) := by
  have iz : ∀ {x : Str} {n : Int}, (x, n) ∈ lI → ∃ t, mg x = some (.int n t) := fun q => S.inz _ q
  have nz : ∀ {x : Str}, x ∈ lN → mg x = none := fun q => S.nnz _ q
  have ck := List.all_eq_true.mp chk_ok
  refine ⟨⟨T'.g, T'.b, T'.nolimit, T'.bmain, T'.builtins⟩, fun x hx => ?_, fun i hi => hasF T D i (ck i (List.mem_append_left _ hi)), fun i hi => hasFd D.1 (S.fd i hi), fun i hi => maker T D i (ck i (List.mem_append_right _ hi)),
    iz (by simp [lI]), iz (by simp [lI]), iz (by simp [lI]), iz (by simp [lI]), iz (by simp [lI]), iz (by simp [lI]), iz (by simp [lI]),
    nz (by simp [lN]), nz (by simp [lN]), nz (by simp [lN]), nz (by simp [lN]), nz (by simp [lN]), nz (by simp [lN]), nz (by simp [lN]), nz (by simp [lN])⟩
  have hx := List.all_eq_true.mp dn_ok x (by simpa using hx)
  simp only [Bool.or_eq_true, beq_iff_eq, List.any_eq_true] at hx
  rcases hx with (⟨d, hdm, e⟩ | e) | e
  · have e : d.name = x := by simpa using e
    subst e
    obtain ⟨a, o, pm, code, doc, h1, h2, h3, _⟩ := T.fn d hdm
    refine ⟨by show mg _ = _; rw [fa_of h1, h1], ?_⟩
    rw [fa_of h1]
    exact fnAt_of (ghost_get D.1 h2 (not_tab h3)) h3
  · subst e
    obtain ⟨a, o, fd, h1, h2, h3⟩ := fdNm (x := Str.ofString "_EncodeVarint") ⟨_, rfl⟩ (S.fd 52 (.head _))
    refine ⟨by show mg _ = _; rw [fa_of h1, h1], ?_⟩
    rw [fa_of h1]
    exact fnAt_of (ghost_get D.1 h2 (not_tab h3)) h3
  · subst e
    obtain ⟨a, o, fd, h1, h2, h3⟩ := fdNm (x := Str.ofString "_EncodeSignedVarint") ⟨_, rfl⟩ (S.fd 53 (.tail _ (.head _)))
    refine ⟨by show mg _ = _; rw [fa_of h1, h1], ?_⟩
    rw [fa_of h1]
    exact fnAt_of (ghost_get D.1 h2 (not_tab h3)) h3
theorem owns_ok : ((ownsOf PySem.Challenge.pw_jd0022_01).find? (fun o => o.name == Str.ofString "StructError")).map (fun o => (o.name, o.bm, o.newId)) = some (Str.ofString "StructError", [.type "Exception", .type "BaseException", .type "object"], "Exception.__new__") := by kernel_rfl
theorem tail_ghost {bmB tl : List Value} (D : TabsAt tabs h) (T : OwnTailQ h bmB tl) : OwnTailQ (ghostOf h tabs) bmB tl := by
  induction T with
  | base => exact .base
  | own hA hN hq _ ih => exact .own (ghost_get D hA (fun q => by cases q)) (ghost_ns D hN) hq ih
theorem exc_of (T : Top PySem.Challenge.pw_jd0022_01 lo mean mg mb h) (D : TabsAt tabs h) : ∃ C, ExcC (bsOf h tabs mg mb) C := by
  obtain ⟨o, h1, h2⟩ := Option.map_eq_some_iff.mp owns_ok
  obtain ⟨C, O, _⟩ := T.own o (List.mem_of_find?_eq_some h1)
  simp only [Prod.mk.injEq] at h2
  obtain ⟨n1, n2, n3⟩ := h2
  rw [n1, n2, n3] at O
  obtain ⟨bm, N, nm, q, bs, hdct, sn, sub, ab, col, dd, k0, k1, k2, k3, k5, mN, hC, hN, hq, TT⟩ := O.obj
  have O' : OwnClsQ (Str.ofString "StructError") C [.type "Exception", .type "BaseException", .type "object"] "Exception.__new__" mg (ghostOf h tabs) :=
    ⟨O.bound, bm, N, nm, q, bs, hdct, sn, sub, ab, col, dd, k0, k1, k2, k3, k5, mN, ghost_get D hC (fun q => by cases q), ghost_ns D hN, hq, tail_ghost D TT⟩
  exact ⟨C, O'.own⟩
end

section
variable {w : World} {tabs : List (Addr × Addr)} {lo lo2 : List Str} {mean mean2 : ExcName → Option Value} {mg mb : Str → Option Value} {h h₁ : Heap} {pp : Program} {prog : Program}
theorem ghost_sub : ∀ b o, (ghostOf h tabs).get? b = some o → h.get? b = some o := fun b o e => of_hideAll _ e
theorem ok_of (D1 : TabsAt tabs h) : Ok (bsOf h tabs mg mb) h := ⟨ghost_sub, fun p hp => by
  obtain ⟨q, hq, rfl⟩ := List.mem_map.mp hp
  exact TabOk.empty (D1 q hq).2 (hideAll_none _ hp)⟩
theorem grown_of {b : Bs} : ∀ {tabs : List (Addr × Addr)}, (∀ q ∈ tabs, TabOk b.B h q.2) → GrownAll tabs h
  | [], _ => trivial
  | q :: r, k => ⟨(k q (.head _)).get, grown_of fun q hq => k q (.tail _ hq)⟩
theorem nd4 (n : Nat) : [n, n + 1, n + 1 + 1, n + 1 + 1 + 1].Nodup := by
  simp only [List.nodup_cons, List.mem_cons, List.not_mem_nil, or_false, not_or, List.nodup_nil, and_true, not_false_eq_true]
  wtm_at "la"
theorem law_final {a fa : Addr} {cd : Value} {xs : List Value} {ns : List Int} {m : Str → Option Value} {o1 o2 o3 : Obj} (T : Top PySem.Challenge.pw_jd0022_01 lo mean mg mb h) (D : Laid tabs mg h) (SH : SaysH mg h) (T' : Top pp lo2 mean2 mg mb (ghostOf h tabs))
    (hl : h.get? a = some { cls := .type "list", data := .seq xs.toArray }) (his : IntsAre xs ns) (hn : ns.length ≤ 63) (F : Fr (ghostOf h tabs) h.objs.size h₁ m) (hm : m = fun _ => none)
    (N : News (ghostOf h tabs) h.objs.size h₁ ((h.objs.size + 1 + 1 + 1, o3) :: (h.objs.size + 1 + 1, o2) :: (h.objs.size + 1, o1) :: tabNews tabs)) (d3 : o3.data = .cell none) (d2 : o2.data = .cell none) (d1 : o1.data = .cell (some (.ref a))) :
    LawAt fun _ body sc => ∀ (s : Shared) (Q : Flow → Shared → Prop) (E : Value → Shared → Prop), s.heap = h₁ →
      (∀ h' tk, (∀ b o, (ghostOf h tabs).get? b = some o → h'.get? b = some o) → GrownAll tabs h' → Q (.ret (.bool true)) { s with heap := h', toks := tk }) →
      wpAny (model prog w) (callerA.deeper (envX (Str.ofString "law") sc h.objs.size fa cd [(Str.ofString "kind", h.objs.size + 1 + 1 + 1), (Str.ofString "k", h.objs.size + 1 + 1), (Str.ofString "script", h.objs.size + 1)]))
        (execs body (envX (Str.ofString "law") sc h.objs.size fa cd [(Str.ofString "kind", h.objs.size + 1 + 1 + 1), (Str.ofString "k", h.objs.size + 1 + 1), (Str.ofString "script", h.objs.size + 1)])) Q E s := by
  subst hm
  have H := hyp_of T D SH T'
  obtain ⟨C, OC⟩ := exc_of T D.1
  have O := ok_of (mg := mg) (mb := mb) D.1
  have hnone : ∀ k, h.get? (h.objs.size + k) = none := fun k => Heap.get?_none_of_le (Nat.le_add_right _ _)
  have keep : ∀ b o, h.get? b = some o → h₁.get? b = some o := fun b o e => by
    by_cases hb : b ∈ tabs.map (·.2)
    · obtain ⟨q, hq, rfl⟩ := List.mem_map.mp hb
      rw [(D.1 q hq).2] at e
      cases e
      exact (N _ (.tail _ (.tail _ (.tail _ (List.mem_map_of_mem (f := fun q : Addr × Addr => (q.2, tabObj #[])) hq))))).1
    · exact F.keep b o (ghost_ne e hb)
  have S : St (bsOf h tabs mg mb) h [] [(a, .lst xs)] h.objs.size [] [(h.objs.size + 1, .cell (some (.ref a))), (h.objs.size + 1 + 1, .cell none), (h.objs.size + 1 + 1 + 1, .cell none)] h₁ :=
    { ok₀ := O, ext := .keeps keep, xb := fun _ h => nomatch h
      fz := fun p hp => by rw [List.mem_singleton] at hp; subst hp; exact ⟨⟨_, hl⟩, List.not_mem_nil⟩
      ns := F.ns, new := hnone 0
      obs := fun p hp => by
        simp only [List.mem_cons, List.not_mem_nil, or_false] at hp
        rcases hp with rfl | rfl | rfl
        · exact ⟨_, (N _ (.tail _ (.tail _ (.head _)))).1, d1⟩
        · exact ⟨_, (N _ (.tail _ (.head _))).1, d2⟩
        · exact ⟨_, (N _ (.head _)).1, d3⟩
      obn := fun p hp => by
        simp only [List.mem_cons, List.not_mem_nil, or_false] at hp
        rcases hp with rfl | rfl | rfl
        · exact .inl (hnone 1)
        · exact .inl (hnone 2)
        · exact .inl (hnone 3)
      nd := nd4 h.objs.size }
  have FR : FrOk (bsOf h tabs mg mb) callerA [] h := ⟨rfl, trivial, fun _ h => nomatch h⟩
  have key := law_walk (prog := prog) (w := w) (A := callerA.deeper (envX (Str.ofString "law") (match PySem.Challenge.pw_jd0022_01.main.body[(86 : Nat)]? with | some (.FunctionDef _ _ _ _ _ _ sc _ _ _) => sc | _ => default) h.objs.size fa cd [(Str.ofString "kind", h.objs.size + 1 + 1 + 1), (Str.ofString "k", h.objs.size + 1 + 1), (Str.ofString "script", h.objs.size + 1)])) (c1 := h.objs.size + 1) (c2 := h.objs.size + 1 + 1) (c3 := h.objs.size + 1 + 1 + 1) (a := a) H OC ⟨rfl, (by show callerA.depth + 1 + 12 < recursionLimit; decide), (by show callerA.units + 3 + 8 * 12 < cLine; decide)⟩ FR his hn
  intro s Q E es q
  refine key h.objs.size fa cd h₁ rfl S s Q E es (fun f h' tk y => ?_) fun _ _ _ y => y.elim
  obtain ⟨rfl, ex⟩ := y
  exact q h' tk (ex.base O.sub) (grown_of fun q hq => (O.ext ex).tabs _ (List.mem_map_of_mem hq))
end

end J
theorem J.list_exact {P : Params} {h : Heap} {a : Addr} {xs : Array Value} {ds : List WData} {tabs : List (Addr × Addr)} (W : Well P h (.ref a) (.list ds)) (L : (ghostOf h tabs).IsList a xs) : h.get? a = some { cls := .type "list", data := .seq xs } := by
  cases W with
  | list e _ =>
    obtain ⟨o, e1, _, n, e2⟩ := L
    have e1 := of_hideAll _ e1
    rw [e] at e1
    cases e1
    cases e2
    exact e
theorem J.left_join {p q : Program} {loose : List Str} {Xt : Shared → Bool} {α : Type} {Yf : Shared → α} {Ya : World → α} {N : Nat}
    (h1 : ∀ w, (openEnds treeTable p w N).map (fun s => (openSeen q loose (importedModules p.main.body) Xt true s).1) = some (expectedOf q))
    (h2 : ∀ w, (openEnds treeTable p w N).map (fun s => ((openSeen q loose (importedModules p.main.body) Xt true s).2.2.1, (openSeen q loose (importedModules p.main.body) Xt true s).2.1, Yf s)) = some (true, bltViewBooted, Ya w))
    (h4 : ∀ w, (openEnds treeTable p w N).map (fun s => (openSeen q loose (importedModules p.main.body) Xt true s).2.2.2.1) = some true)
    (h5 : ∀ w, (openEnds treeTable p w N).map (fun s => (openSeen q loose (importedModules p.main.body) Xt true s).2.2.2.2) = some (pinGoodD (drecsOf q), plainGoodE q (looseW q loose), plainGoodD q loose, wideGood q, clsGoodW q loose)) : LeftO p q loose Xt Yf Ya N := by
  intro w
  obtain ⟨s, e, a1⟩ := Option.map_eq_some_iff.mp (h1 w)
  have a2 := h2 w
  have a4 := h4 w
  have a5 := h5 w
  rw [e] at a2 a4 a5 ⊢
  have b := Prod.mk.inj (Option.some.inj a2)
  have c := Prod.mk.inj b.2
  exact congrArg some (Prod.ext (Prod.ext a1 (Prod.ext c.1 (Prod.ext b.1 (Prod.ext (Option.some.inj a4) (Option.some.inj a5))))) c.2)
set_option maxHeartbeats 8000000 in
theorem PySem.Challenge.cw_jd0022_01_holds : PySem.Challenge.rw_jd0022_01.Holds := by
  refine holds_law J.said fun said => ?_
  refine holds_open (q := PySem.Challenge.pw_jd0022_01) (loose := [Str.ofString "_EncodeVarint", Str.ofString "_EncodeSignedVarint"]) (Xt := fun s => xlAt PySem.Challenge.pw_jd0022_01 [] s && recOk [] s) (XP := XL PySem.Challenge.pw_jd0022_01 []) (Yf := Hook.obs J.Hk) (Ya := Hook.val J.Hk) (YP := Hook.says J.Hk) (N := 6116) (J.left_join J.hlI J.hlC J.hlJ J.hlH) (Hook.of J.Hk) (Hook.keeps J.Hk) (fun s e => xl_of s (Bool.and_eq_true_iff.mp e).1) XL.keeps (by rfl) (by rfl) (by rfl) (fun s e => recFacts_of (Bool.and_eq_true_iff.mp e).2) (by rfl) (by first | assumption | decide +kernel) (by decide +kernel) ⟨rfl, rfl, rfl, rfl, rfl, by decide +kernel⟩ ?hw ?hc
  case hw => w_witness2
  case hc =>
    intro w s₀ s₁ mg mb G Y fa o pm cd doc dV kV ho hd hcd hD hmg hg args vals as hpre hlay hrd hwl hlo
    refine Ground.open G ?_
    intro T B D TE TW
    try (refine guard_noD D (by decide +kernel) ?_; clear D)
    obtain ⟨tabs, hL⟩ := J.laid_of T
    have hT9 : TabsAt tabs _ := hL.1
    obtain ⟨m', SH⟩ := Y
    obtain rfl : m' = mg := by rw [SH.ns.eq_nsMap, T.g.eq_nsMap]
    clear hmg
    wrow_args hpre hlay hrd hwl hlo
    all_goals (first | refine callC_kw (enter_call ?_) | refine enter_call ?_)
    w_top on
    refine kn_post hT9 (fun _ _ => rfl) ?_
    w_call any ho hd hcd hD T F
    clear hd hD hcd
    rename News _ _ _ _ => N
    rename Well _ _ _ _ => hW
    rename IntsAre _ _ => hI
    rename Heap.IsList _ _ _ => hLg
    have hLG := ghost_list hT9 hLg
    refine J.law_final (o1 := _) (o2 := _) (o3 := _) T hL SH (ghost_top hT9 T) (J.list_exact hW hLG) hI ?hnq (ghost_fr hT9 F) ?hmq (ghost_news hT9 F N) ?d3q ?d2q ?d1q _ _ _ ?esq ?kq
    case esq => rfl
    case hnq => rename ¬ ((63 : Nat) : Int) < _ => hc; exact Int.ofNat_le.mp (Int.not_lt.mp hc)
    case hmq => kernel_rfl
    case d3q => refine Eq.trans ‹_ = Data.cell (bindC _ _ _ (Str.ofString "kind"))› (congrArg Data.cell ?_); kernel_rfl
    case d2q => refine Eq.trans ‹_ = Data.cell (bindC _ _ _ (Str.ofString "k"))› (congrArg Data.cell ?_); kernel_rfl
    case d1q => refine Eq.trans ‹_ = Data.cell (bindC _ _ _ (Str.ofString "script"))› (congrArg Data.cell ?_); kernel_rfl
    case kq =>
      intro h' tk keep grown
      refine ⟨⟨.inl ⟨_, WData.bool true, [], rfl, ?_, ReadsW.bool _, ?_, ?_⟩, keep, rfl, ?_⟩, grown⟩
      · intro cls; rfl
      · first | kernel_rfl | rfl
      · exact fun _ => ⟨List.nodup_nil, fun _ h => nomatch h⟩
      · exact hg

