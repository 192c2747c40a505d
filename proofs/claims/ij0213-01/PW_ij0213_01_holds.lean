import PyProof.Rows.All
import Wide.All
import OpenK.AllK
import Wide.FinOn
import PySem.Challenge.RW_ij0213_01
set_option Elab.async false
set_option compiler.extract_closed false
set_option maxRecDepth 100000
section
open PySem PySem.W PyProof.Rows
set_option Elab.async false
set_option maxRecDepth 100000
set_option maxHeartbeats 8000000
namespace Mine
noncomputable abbrev pw0 : Program := PySem.Challenge.rw_ij0213_01.row.prog
theorem said1 : sreFenced pw0.main = true := by kernel_rfl
theorem said2 : lookedIntoSs (moduleNames pw0.main.body) pw0.main.body = true := by kernel_rfl
theorem said3 : namesResolve pw0 = true := by kernel_rfl
theorem said4 : (pw0.boundNames.all fun n => !worldNames.contains n) = true := by kernel_rfl
theorem said_looks : looksOpen pw0 = true := by
  unfold looksOpen
  rw [said1, said2, said3, said4, Bool.or_true, Bool.true_and, Bool.true_and, Bool.true_and]
  kernel_rfl
theorem said_row : OpenRow.wellSaid PySem.Challenge.rw_ij0213_01.row = true := by
  unfold OpenRow.wellSaid OpenRow.partSaid
  rw [said_looks]
  kernel_rfl
theorem said : OpenLaw.wellSaid PySem.Challenge.rw_ij0213_01 = true := by
  unfold OpenLaw.wellSaid
  rw [said_row]
  kernel_rfl
noncomputable def hv : Program := PySem.W.view PySem.Challenge.pw_ij0213_01 [0, 1, 3, 5, 7, 8, 10, 12, 14, 15, 16, 17, 18, 19, 21, 22, 24, 26, 27, 28, 33, 34, 35, 36, 37, 38, 39, 40, 41, 42, 43, 44, 45, 46, 47]
noncomputable abbrev r0 : RowW := OpenRow.toRowW (OpenLaw.row PySem.Challenge.rw_ij0213_01)
noncomputable abbrev loose0 : List Str := [Str.ofString "_twin_re_1", Str.ofString "_special_chars_map", Str.ofString "b2a_base64", Str.ofString "b64encode"]
noncomputable abbrev Xt0 (s : Shared) : Bool := xlAt hv [] s && recOk (RowW.records r0) s
theorem holds_open2 {r : OpenRow} {q : Program} {loose : List Str} {Xt : Shared → Bool} {XP : (Str → Option Value) → Heap → Prop} {α : Type} {Yf : Shared → α} {Ya : World → α} {YP : World → Heap → Prop} {d : DefRec} {kwd : List (Str × PySem.Expr)} {N : Nat}
    (hY : ∀ w s, Yf s = Ya w → YP w s.heap) (hYk : ∀ w h h', YP w h → (∀ b o, h.get? b = some o → h'.get? b = some o) → YP w h')
    (hX : ∀ s, Xt s = true → XP (s.heap.nsMap mainGlobals) s.heap) (hXk : ∀ mg h h', XP mg h → (∀ b o, h.get? b = some o → h'.get? b = some o) → XP mg h')
    (hdef : defOf q r.name = some (d, kwd)) (hp : r.prog.theDef r.name = some (d.params, d.body, d.scope)) (hk : kwWritten? d.params.kwonlyargs d.params.kw_defaults = some kwd) (hRf : ∀ s, Xt s = true → RecFacts r.records s.heap) (hwr : (!r.writes || r.records.isEmpty) = true)
    (k1 : r.wellSaid = true) (ok : (chainsOk q && opensWell r.prog && (frees r.toRowW && r.within.isEmpty)) = true) (hb : r.prog.bare) (hw : r.toRowW.promised)
    (call : LeftO r.prog q loose Xt Yf Ya N ∧ WalkO q loose XP YP r.toRowW d kwd fun f vs => PySem.call f vs) : r.Holds :=
  holds_open call.1 hY hYk hX hXk hdef hp hk hRf hwr k1 ok hb hw call.2
local macro_rules | `(tactic| o_law) => `(tactic| refine holds_law said fun said => ?_)
local macro_rules | `(tactic| o_head $H) => `(tactic| refine holds_open2 (q := hv) (loose := loose0) (Xt := Xt0) (XP := XL hv []) (Yf := Hook.obs $H) (Ya := Hook.val $H) (YP := Hook.says $H) (N := 5958) (Hook.of $H) (Hook.keeps $H) (fun s e => xl_of s (Bool.and_eq_true_iff.mp e).1) XL.keeps (by rfl) (by rfl) (by rfl) (fun s e => recFacts_of (Bool.and_eq_true_iff.mp e).2) (by rfl) (by assumption) (by decide +kernel) ⟨rfl, rfl, rfl, rfl, rfl, by decide +kernel⟩ ?hw ?hc)
open_top hd for PySem.Challenge.rw_ij0213_01
set_option pp.maxSteps 20000
end Mine
end
section
open PySem PySem.W PyProof.Rows
set_option Elab.async false
set_option maxRecDepth 100000
set_option maxHeartbeats 8000000
namespace Mine
noncomputable def runQ (f : SharedT → Thread → Option (SharedT × Thread)) (ok : Thread → Bool) : Nat → SharedT → Thread → Option SharedT
  | 0, _, _ => none
  | n + 1, s, t => match through t with
    | true => some s
    | false => match ok t with
      | false => none
      | true => match f s t with
        | some (s', t') => runQ f ok n s' t'
        | none => none
theorem runQ_of {p : Program} {w : World} {n₀ : Nat} {ann : Option Value} : ∀ {n : Nat} {s s' : SharedT} {t : Thread}, runQ (stepT (denote treeTable) p w) (stepOk n₀ ann) n s t = some s' → topRun treeTable p w n₀ ann n s.abs t = some s'.abs
  | 0, _, _, _, h => by cases h
  | n + 1, s, s', t, h => by
    unfold runQ at h
    unfold topRun
    cases ht : through t with
    | true => rw [ht] at h; cases h; rfl
    | false =>
      rw [ht] at h
      cases hk : stepOk n₀ ann t with
      | false => rw [hk] at h; cases h
      | true =>
        rw [hk] at h
        cases hs : stepT (denote treeTable) p w s t with
        | none => rw [hs] at h; cases h
        | some r => obtain ⟨s₂, t₂⟩ := r; rw [hs] at h; rw [stepT_spec hs]; exact runQ_of h
noncomputable def bldQ : List Obj → BT → Nat → Option BT
  | [], t, _ => some t
  | o :: r, t, n => match ((t.ins n o).get n).isSome with
    | true => bldQ r (t.ins n o) (n + 1)
    | false => none
theorem bldQ_of {life : Life} : ∀ {l : List Obj} {t t' : BT} {n : Nat}, bldQ l t n = some t' → absHeap t' (n + l.length) life = ⟨(absHeap t n life).objs ++ l.toArray, life⟩
  | [], t, t', n, h => by cases h; simp [absHeap]
  | o :: r, t, t', n, h => by
    unfold bldQ at h
    cases hs : ((t.ins n o).get n).isSome with
    | false => rw [hs] at h; cases h
    | true =>
      rw [hs] at h
      have := bldQ_of (life := life) h
      rw [show n + (o :: r).length = n + 1 + r.length by simp; omega, this, absHeap_ins hs]
      simp [Heap.push]
theorem bld_heap {h : Heap} {t : BT} (e : bldQ h.objs.toList .nil 0 = some t) : absHeap t h.objs.size h.life = h := by
  have := bldQ_of (life := h.life) e
  simp only [Nat.zero_add, Array.length_toList] at this
  rw [this]
  cases h
  simp [absHeap, BT.list]
noncomputable def endsQ (w : World) : Option Shared :=
  match Fast.tw10274390034422433532 Fast.tw14364793385576792824 (opening pw0) w 5958 (Fast.tw1435165496053646825 (opening pw0)).1 (Fast.tw1435165496053646825 (opening pw0)).2 with
  | none => none
  | some s => match Fast.tw14289696077712309145 pw0 s with
    | none => none
    | some s₀ => match s₀.heap.isNs mainGlobals && s₀.gens.size == 0 with
      | false => none
      | true => match bldQ s₀.heap.objs.toList .nil 0 with
        | none => none
        | some t => match runQ (Fast.tw10156331382660048174 (Fast.tw11892475500146522536 Fast.tw14364793385576792824) pw0 w) (Fast.tw6613529449190102663 s₀.heap.objs.size (s₀.heap.nsMap mainGlobals "__annotations__")) 5958 ⟨t, s₀.heap.objs.size, s₀.heap.life, s₀.gens, s₀.drawn, s₀.toks, s₀.os⟩ (topStub pw0) with
          | none => none
          | some sT => match staticsOk (importedModules pw0.main.body) s₀.heap sT.abs.heap && namesBound pw0 sT.abs.heap && gensDone sT.abs && laidKept s₀.heap sT.abs.heap with
            | true => some sT.abs
            | false => none
theorem endsQ_of {w : World} {s : Shared} (h : endsQ w = some s) : openEnds treeTable pw0 w 5958 = some s := by
  unfold endsQ at h
  rw [← Fast.te10274390034422433532, ← Fast.te14364793385576792824, ← Fast.te1435165496053646825, ← Fast.te14289696077712309145, ← Fast.te10156331382660048174, ← Fast.te11892475500146522536, ← Fast.te6613529449190102663] at h
  unfold openEnds fencedOpening topFrom
  split at h
  · cases h
  rename_i s1 e1
  rw [e1]
  show ((fenceModules? pw0 s1).bind _) = _
  split at h
  · cases h
  rename_i s0 e0
  rw [e0]
  show (match s0.heap.isNs mainGlobals && s0.gens.size == 0 with | true => _ | false => _) = _
  split at h
  · cases h
  rename_i eg
  rw [eg]
  split at h
  · cases h
  rename_i t et
  have hh : SharedT.abs ⟨t, s0.heap.objs.size, s0.heap.life, s0.gens, s0.drawn, s0.toks, s0.os⟩ = s0 := by
    unfold SharedT.abs
    rw [bld_heap et]
  split at h
  · cases h
  rename_i sT er
  have hr := runQ_of er
  rw [hh] at hr
  show (Option.bind (topRun _ _ _ _ _ _ _ _) _) = _
  rw [hr]
  exact h
noncomputable abbrev KH : Hook := kmHook hd.heap_1 [2,3,32,34,35,37,38,39,41,42,44,45,46,53,55,56,58,59,60,61,62,65,72,74,75,77,78,79,81,82,84,85,86,88,89,91,92,93,94,95,98,100,101,103,104,105,107,108,110,111,112,114,115,117,118,119,121,122,124,125,126,128,129,131,132,133,135,136,138,139,140,142,143,145,146,147,150,151,155,156,158,162,164,165,167,168,169,171,172,174,175,176,178,179,181,182,183,185,186,188,189,190,191,193,194,196,197,198,199,201,202,204,205,206,208,209,211,212,213,215,216,218,219,220,222,223,225,226,227,230,231,232,234,235,237,238,239,241,242,244,245,246,248,249,251,252,253,256,257,258,260,261,263,264,265,267,268,270,271,272,274,275,277,278,279,281,282,284,285,286,289,290,291,294,295,296,298,299,301,302] (fun _ => by kernel_rfl) [170]
noncomputable abbrev Pq (w : World) : Prop := (openEnds treeTable pw0 w 5958).map (fun s => (openSeen hv loose0 (importedModules pw0.main.body) Xt0 true s, KH.obs s)) = some (openGood hv loose0, KH.val w)
theorem Pq_of {w : World} (h : (endsQ w).map (fun s => (Fast.tw4187177175401517315 hv loose0 (importedModules pw0.main.body) Xt0 true s, KH.obs s)) = some (openGood hv loose0, KH.val w)) : Pq w := by
  obtain ⟨s, e1, e2⟩ := Option.map_eq_some_iff.mp h
  unfold Pq
  rw [endsQ_of e1, Fast.te4187177175401517315]
  exact congrArg some e2
end Mine
end
section
open PySem PySem.W PyProof.Rows
set_option Elab.async false
set_option maxRecDepth 100000
namespace Mine
theorem hlff (w : World) : Pq ((w.withFollow "special-get-raises" false).withFollow "comprehension-iter-twice" false) := by
  refine Pq_of ?_
  kernel_rfl
theorem hlft (w : World) : Pq ((w.withFollow "special-get-raises" true).withFollow "comprehension-iter-twice" false) := by
  refine Pq_of ?_
  kernel_rfl
theorem hltf (w : World) : Pq ((w.withFollow "special-get-raises" false).withFollow "comprehension-iter-twice" true) := by
  refine Pq_of ?_
  kernel_rfl
theorem hltt (w : World) : Pq ((w.withFollow "special-get-raises" true).withFollow "comprehension-iter-twice" true) := by
  refine Pq_of ?_
  kernel_rfl
theorem hl : LeftO pw0 hv loose0 Xt0 KH.obs KH.val 5958 :=
  byRow2 (P := Pq) "comprehension-iter-twice" (byRow2 (P := fun w => Pq (w.withFollow "comprehension-iter-twice" false)) "special-get-raises" hlff hlft) (byRow2 (P := fun w => Pq (w.withFollow "comprehension-iter-twice" true)) "special-get-raises" hltf hltt)
end Mine
end
section
open PySem PySem.W PySem.Calls PyProof.Rows
set_option Elab.async false
set_option maxRecDepth 100000
namespace Mine

theorem ite_t {c : Prop} [inst : Decidable c] {P Q : Prop} (h : c) (p : P) : @ite Prop c inst P Q := by rw [if_pos h]; exact p
theorem ite_f {c : Prop} [inst : Decidable c] {P Q : Prop} (h : ¬ c) (p : Q) : @ite Prop c inst P Q := by rw [if_neg h]; exact p
abbrev GH := Addr → Option Obj
def GH.le (g g' : GH) : Prop := ∀ b o, g b = some o → g' b = some o
theorem GH.le.refl (g : GH) : g.le g := fun _ _ e => e
theorem GH.le.trans {a b c : GH} (x : a.le b) (y : b.le c) : a.le c := fun _ _ e => y _ _ (x _ _ e)

inductive D where
  | no
  | bo (b : Bool)
  | i (n : Int)
  | s (x : Str)
  | by (b : Array UInt8)
  | ty (n : String)
  | bu (n : String)
  | r (a : Addr)
  | l (ds : List D)
  | t (ds : List D)

inductive Has (g : GH) : Value → D → Prop
  | no : Has g .none .no
  | bo (b : Bool) : Has g (.bool b) (.bo b)
  | i (n : Int) (t : Tok) : Has g (.int n t) (.i n)
  | s (x : Str) (t : Tok) : Has g (.str x t) (.s x)
  | by (b : Array UInt8) (t : Tok) : Has g (.bytes b t) (.by b)
  | ty (n : String) : Has g (.type n) (.ty n)
  | bu (n : String) : Has g (.builtin n) (.bu n)
  | r (a : Addr) : Has g (.ref a) (.r a)
  | l {a : Addr} {vs : List Value} {n : Nat} {ds : List D} : g a = some { cls := .type "list", data := .seq vs.toArray n } → vs.length = ds.length →
      (∀ (k : Nat) (v : Value) (d : D), vs[k]? = some v → ds[k]? = some d → Has g v d) → Has g (.ref a) (.l ds)
  | t {a : Addr} {vs : List Value} {n : Nat} {ds : List D} : g a = some { cls := .type "tuple", data := .seq vs.toArray n } → vs.length = ds.length →
      (∀ (k : Nat) (v : Value) (d : D), vs[k]? = some v → ds[k]? = some d → Has g v d) → Has g (.ref a) (.t ds)

def HasAll (g : GH) (vs : List Value) (ds : List D) : Prop := vs.length = ds.length ∧ ∀ (k : Nat) (v : Value) (d : D), vs[k]? = some v → ds[k]? = some d → Has g v d

theorem Has.mono {g g' : GH} (le : g.le g') {v : Value} {d : D} (h : Has g v d) : Has g' v d := by
  induction h with
  | no => exact .no
  | bo b => exact .bo b
  | i n t => exact .i n t
  | s x t => exact .s x t
  | «by» b t => exact .by b t
  | ty n => exact .ty n
  | bu n => exact .bu n
  | r a => exact .r a
  | l h1 h4 _ ih => exact .l (le _ _ h1) h4 ih
  | t h1 h4 _ ih => exact .t (le _ _ h1) h4 ih
theorem HasAll.mono {g g' : GH} (le : g.le g') {vs : List Value} {ds : List D} (h : HasAll g vs ds) : HasAll g' vs ds := ⟨h.1, fun k v d a b => (h.2 k v d a b).mono le⟩
theorem HasAll.nil {g : GH} : HasAll g [] [] := ⟨rfl, fun k v d a _ => by simp at a⟩
theorem HasAll.cons {g : GH} {v : Value} {d : D} {vs : List Value} {ds : List D} (h : Has g v d) (r : HasAll g vs ds) : HasAll g (v :: vs) (d :: ds) := by
  refine ⟨by rw [List.length_cons, List.length_cons, r.1], fun k u e a b => ?_⟩
  cases k with
  | zero => simp at a b; subst a; subst b; exact h
  | succ k => exact r.2 k u e (by simpa using a) (by simpa using b)
theorem HasAll.append {g : GH} {vs ws : List Value} {ds es : List D} (h : HasAll g vs ds) (r : HasAll g ws es) : HasAll g (vs ++ ws) (ds ++ es) := by
  refine ⟨by rw [List.length_append, List.length_append, h.1, r.1], fun k u e a b => ?_⟩
  by_cases hk : k < vs.length
  · rw [List.getElem?_append_left hk] at a
    rw [List.getElem?_append_left (h.1 ▸ hk)] at b
    exact h.2 k u e a b
  · rw [List.getElem?_append_right (by omega)] at a
    rw [List.getElem?_append_right (by have := h.1; omega)] at b
    have e1 := h.1
    rw [e1] at a
    exact r.2 _ u e a b
theorem HasAll.drop {g : GH} {vs : List Value} {ds : List D} (h : HasAll g vs ds) (n : Nat) : HasAll g (vs.drop n) (ds.drop n) :=
  ⟨by rw [List.length_drop, List.length_drop, h.1], fun k v d a b => h.2 (n + k) v d (by simpa using a) (by simpa using b)⟩
theorem HasAll.take {g : GH} {vs : List Value} {ds : List D} (h : HasAll g vs ds) (n : Nat) : HasAll g (vs.take n) (ds.take n) := by
  refine ⟨by rw [List.length_take, List.length_take, h.1], fun k v d a b => ?_⟩
  rw [List.getElem?_take] at a b
  split at a
  · rename_i hk
    rw [if_pos hk] at b
    exact h.2 k v d a b
  · cases a
theorem HasAll.get {g : GH} {vs : List Value} {ds : List D} (h : HasAll g vs ds) {k : Nat} {d : D} (hk : ds[k]? = some d) : ∃ v, vs[k]? = some v ∧ Has g v d := by
  have hlt : k < ds.length := (List.getElem?_eq_some_iff.mp hk).1
  have hlt' : k < vs.length := h.1 ▸ hlt
  exact ⟨vs[k], List.getElem?_eq_getElem hlt', h.2 k _ d (List.getElem?_eq_getElem hlt') hk⟩
theorem HasAll.uncons {g : GH} {vs : List Value} {d : D} {ds : List D} (h : HasAll g vs (d :: ds)) : ∃ v ws, vs = v :: ws ∧ Has g v d ∧ HasAll g ws ds := by
  cases vs with
  | nil => exact absurd h.1 (by simp)
  | cons v ws => exact ⟨v, ws, rfl, h.2 0 v d rfl rfl, by have := h.1; simpa using this, fun k u e a b => h.2 (k + 1) u e (by simpa using a) (by simpa using b)⟩
theorem HasAll.unnil {g : GH} {vs : List Value} (h : HasAll g vs []) : vs = [] := by
  have := h.1; simpa using this

theorem Has.list {g : GH} {v : Value} {ds : List D} (h : Has g v (.l ds)) : ∃ a vs n, v = .ref a ∧ g a = some { cls := .type "list", data := .seq vs.toArray n } ∧ HasAll g vs ds := by
  cases h with
  | l h1 h4 h5 => exact ⟨_, _, _, rfl, h1, h4, h5⟩
theorem Has.tup {g : GH} {v : Value} {ds : List D} (h : Has g v (.t ds)) : ∃ a vs n, v = .ref a ∧ g a = some { cls := .type "tuple", data := .seq vs.toArray n } ∧ HasAll g vs ds := by
  cases h with
  | t h1 h4 h5 => exact ⟨_, _, _, rfl, h1, h4, h5⟩
theorem Has.ofList {g : GH} {a : Addr} {vs : List Value} {n : Nat} {ds : List D} (h1 : g a = some { cls := .type "list", data := .seq vs.toArray n }) (h : HasAll g vs ds) : Has g (.ref a) (.l ds) := .l h1 h.1 h.2
theorem Has.ofTup {g : GH} {a : Addr} {vs : List Value} {n : Nat} {ds : List D} (h1 : g a = some { cls := .type "tuple", data := .seq vs.toArray n }) (h : HasAll g vs ds) : Has g (.ref a) (.t ds) := .t h1 h.1 h.2
theorem Has.refL {g : GH} {v : Value} {ds : List D} (h : Has g v (.l ds)) : ∃ a, v = .ref a := let ⟨a, _, _, e, _⟩ := h.list; ⟨a, e⟩
theorem Has.refT {g : GH} {v : Value} {ds : List D} (h : Has g v (.t ds)) : ∃ a, v = .ref a := let ⟨a, _, _, e, _⟩ := h.tup; ⟨a, e⟩

theorem Has.unI {g : GH} {v : Value} {n : Int} (h : Has g v (.i n)) : ∃ t, v = .int n t := by cases h; exact ⟨_, rfl⟩
theorem Has.unS {g : GH} {v : Value} {x : Str} (h : Has g v (.s x)) : ∃ t, v = .str x t := by cases h; exact ⟨_, rfl⟩
theorem Has.unBy {g : GH} {v : Value} {b : Array UInt8} (h : Has g v (.by b)) : ∃ t, v = .bytes b t := by cases h; exact ⟨_, rfl⟩
theorem Has.unBo {g : GH} {v : Value} {b : Bool} (h : Has g v (.bo b)) : v = .bool b := by cases h; rfl
theorem Has.unTy {g : GH} {v : Value} {b : String} (h : Has g v (.ty b)) : v = .type b := by cases h; rfl
theorem Has.unBu {g : GH} {v : Value} {b : String} (h : Has g v (.bu b)) : v = .builtin b := by cases h; rfl
theorem Has.unR {g : GH} {v : Value} {a : Addr} (h : Has g v (.r a)) : v = .ref a := by cases h; rfl
theorem Has.unNo {g : GH} {v : Value} (h : Has g v .no) : v = .none := by cases h; rfl

/-- the object of a frozen list -/
structure LObj (g : GH) (h : Heap) (a : Addr) (vs : List Value) (n : Nat) (ds : List D) : Prop where
  ob : h.get? a = some { cls := .type "list", data := .seq vs.toArray n }
  all : HasAll g vs ds
  at_ : ∃ o, g a = some o
theorem LObj.list {g : GH} {h : Heap} {a : Addr} {vs : List Value} {n : Nat} {ds : List D} (x : LObj g h a vs n ds) : h.IsList a vs.toArray := ⟨_, x.ob, rfl, n, rfl⟩
theorem Has.obj {g : GH} {h : Heap} {a : Addr} {ds : List D} (x : Has g (.ref a) (.l ds)) (k : g.le h.get?) : ∃ vs n, LObj g h a vs n ds := by
  obtain ⟨_, vs, n, e, h1, h4⟩ := x.list
  cases e
  exact ⟨vs, n, k _ _ h1, h4, _, h1⟩
structure TObj (g : GH) (h : Heap) (a : Addr) (vs : List Value) (n : Nat) (ds : List D) : Prop where
  ob : h.get? a = some { cls := .type "tuple", data := .seq vs.toArray n }
  all : HasAll g vs ds
  at_ : ∃ o, g a = some o
theorem TObj.tup {g : GH} {h : Heap} {a : Addr} {vs : List Value} {n : Nat} {ds : List D} (x : TObj g h a vs n ds) : IsTup h a vs.toArray := ⟨_, x.ob, rfl, n, rfl⟩
theorem Has.objT {g : GH} {h : Heap} {a : Addr} {ds : List D} (x : Has g (.ref a) (.t ds)) (k : g.le h.get?) : ∃ vs n, TObj g h a vs n ds := by
  obtain ⟨_, vs, n, e, h1, h4⟩ := x.tup
  cases e
  exact ⟨vs, n, k _ _ h1, h4, _, h1⟩

inductive MV where
  | lst (ds : List D)
  | cell (d : Option D)
def MV.at (g : GH) (h : Heap) (q : Addr) : MV → Prop
  | .lst ds => ∃ (vs : List Value) (n : Nat), h.get? q = some { cls := .type "list", data := .seq vs.toArray n } ∧ HasAll g vs ds
  | .cell none => h.IsCell q none
  | .cell (some d) => ∃ v, h.IsCell q (some v) ∧ Has g v d
theorem MV.at.mono {g g' : GH} {h h' : Heap} {q : Addr} (le : g.le g') (k : ∀ o, h.get? q = some o → h'.get? q = some o) : ∀ {c : MV}, c.at g h q → c.at g' h' q
  | .lst _, ⟨vs, n, ho, b⟩ => ⟨vs, n, k _ ho, b.mono le⟩
  | .cell none, ⟨o, ho, r⟩ => ⟨o, k o ho, r⟩
  | .cell (some _), ⟨v, ⟨o, ho, r⟩, b⟩ => ⟨v, ⟨o, k o ho, r⟩, b.mono le⟩
theorem MV.at.live {g : GH} {h : Heap} {q : Addr} : ∀ {c : MV}, c.at g h q → ∃ o, h.get? q = some o
  | .lst _, ⟨_, _, ho, _⟩ => ⟨_, ho⟩
  | .cell none, ⟨o, ho, _⟩ => ⟨o, ho⟩
  | .cell (some _), ⟨_, ⟨o, ho, _⟩, _⟩ => ⟨o, ho⟩

def grow (g : GH) (h h' : Heap) : GH := fun b => if b < h.objs.size then g b else h'.get? b
theorem grow_le {g : GH} {h h' : Heap} (k : g.le h.get?) : g.le (grow g h h') := fun b o e => by
  show (if b < h.objs.size then g b else h'.get? b) = some o
  rw [if_pos (Heap.lt_size (k b o e))]; exact e
theorem grow_sub {g : GH} {h h' : Heap} (k : g.le h.get?) (kk : ∀ b o, h.get? b = some o → h'.get? b = some o) : (grow g h h').le h'.get? := fun b o e => by
  have e' : (if b < h.objs.size then g b else h'.get? b) = some o := e
  split at e'
  · exact kk b o (k b o e')
  · exact e'

structure Fz (h₀ : Heap) (g₀ fx gi : GH) (mu : List (Addr × MV)) (ls : List (Str × D)) (L : Addr) (h : Heap) : Prop where
  ns : ∃ m, h.Ns L m ∧ ∀ x d, ls.lookup x = some d → ∃ v, m x = some v ∧ Has gi v d
  base : ∀ b o, h₀.get? b = some o → fx b = some o
  keep : ∀ b o, fx b = some o → h.get? b = some o
  offx : fx L = none
  sub : gi.le h.get?
  off : gi L = none
  low : ∀ b, b < h₀.objs.size → gi b = g₀ b
  above : h₀.objs.size ≤ L
  apart : ∀ b, h₀.objs.size ≤ b → fx b ≠ none → gi b = none
  mv : ∀ q c, (q, c) ∈ mu → c.at gi h q ∧ q ≠ L ∧ fx q = none ∧ gi q = none ∧ h₀.objs.size ≤ q
  nd : (mu.map (·.1)).Nodup

section
variable {h₀ h h' : Heap} {g₀ fx gi : GH} {mu : List (Addr × MV)} {ls : List (Str × D)} {L : Addr}

theorem Fz.ltL (X : Fz h₀ g₀ fx gi mu ls L h) : L < h.objs.size := let ⟨_, n, _⟩ := X.ns; n.lt
theorem Fz.keep0 (X : Fz h₀ g₀ fx gi mu ls L h) : ∀ b o, h₀.get? b = some o → h.get? b = some o := fun b o e => X.keep b o (X.base b o e)
theorem Fz.fr (X : Fz h₀ g₀ fx gi mu ls L h) : ∃ m, Fr h₀ L h m ∧ ∀ x d, ls.lookup x = some d → ∃ v, m x = some v ∧ Has gi v d :=
  let ⟨m, n, r⟩ := X.ns; ⟨m, ⟨n, X.keep0, X.above⟩, r⟩

theorem Fz.start {m : Str → Option Value} {g : GH} (F : Fr h₀ L h m) (k : g.le h₀.get?) (hl : h₀.objs.size ≤ L) (r : ∀ x d, ls.lookup x = some d → ∃ v, m x = some v ∧ Has g v d) : Fz h₀ g h₀.get? g [] ls L h where
  ns := ⟨m, F.ns, r⟩
  base := fun _ _ e => e
  keep := F.keep
  offx := by
    cases e : h₀.get? L with
    | none => rfl
    | some o => exact absurd (Heap.lt_size e) (Nat.not_lt.mpr hl)
  sub := fun b o e => F.keep b o (k b o e)
  off := by
    cases e : g L with
    | none => rfl
    | some o => exact absurd (Heap.lt_size (k _ _ e)) (Nat.not_lt.mpr hl)
  low := fun _ _ => rfl
  above := hl
  apart := fun b hb hn => by
    cases e : g b with
    | none => rfl
    | some o => exact absurd (Heap.lt_size (k _ _ e)) (Nat.not_lt.mpr hb)
  mv := fun _ _ hm => nomatch hm
  nd := List.nodup_nil

theorem Fz.ext (X : Fz h₀ g₀ fx gi mu ls L h) (k : ∀ b o, h.get? b = some o → h'.get? b = some o) : Fz h₀ g₀ fx (grow gi h h') mu ls L h' where
  ns := let ⟨m, n, r⟩ := X.ns; ⟨m, n.keeps k, fun x d e => let ⟨v, a, b⟩ := r x d e; ⟨v, a, b.mono (grow_le X.sub)⟩⟩
  base := X.base
  keep := fun b o e => k b o (X.keep b o e)
  offx := X.offx
  sub := grow_sub X.sub k
  off := by show (if L < h.objs.size then gi L else h'.get? L) = none; rw [if_pos X.ltL]; exact X.off
  low := fun b hb => by show (if b < h.objs.size then gi b else h'.get? b) = _; rw [if_pos (Nat.lt_trans (Nat.lt_of_lt_of_le hb X.above) X.ltL)]; exact X.low b hb
  above := X.above
  apart := fun b hb hn => by
    show (if b < h.objs.size then gi b else h'.get? b) = none
    have : b < h.objs.size := by
      cases e : fx b with
      | none => exact absurd e hn
      | some o => exact Heap.lt_size (X.keep b o e)
    rw [if_pos this]; exact X.apart b hb hn
  mv := fun q c hm => by
    obtain ⟨a, b, cc, d, e⟩ := X.mv q c hm
    refine ⟨a.mono (grow_le X.sub) fun o => k q o, b, cc, ?_, e⟩
    obtain ⟨o, ho⟩ := a.live
    show (if q < h.objs.size then gi q else h'.get? q) = none
    rw [if_pos (Heap.lt_size ho)]; exact d
  nd := X.nd

/-- the heap changes elsewhere -/
theorem Fz.away (X : Fz h₀ g₀ fx gi mu ls L h) (wr : List Addr) (k : ∀ b o, b ∉ wr → h.get? b = some o → h'.get? b = some o) (hw : ∀ b ∈ wr, b ≠ L ∧ fx b = none ∧ gi b = none ∧ ∀ c, (b, c) ∉ mu) : Fz h₀ g₀ fx gi mu ls L h' where
  ns := let ⟨m, n, r⟩ := X.ns; ⟨m, n.at' fun o e => k _ o (fun hm => (hw _ hm).1 rfl) e, r⟩
  base := X.base
  keep := fun b o e => k b o (fun hm => by rw [(hw b hm).2.1] at e; cases e) (X.keep b o e)
  offx := X.offx
  sub := fun b o e => k b o (fun hm => by rw [(hw b hm).2.2.1] at e; cases e) (X.sub b o e)
  off := X.off
  low := X.low
  above := X.above
  apart := X.apart
  mv := fun q c hm => by
    obtain ⟨a, r⟩ := X.mv q c hm
    exact ⟨a.mono (GH.le.refl _) fun o => k q o fun hw' => (hw q hw').2.2.2 c hm, r⟩
  nd := X.nd

/-- a store of a local -/
theorem Fz.store {x : Str} {v : Value} {d : D} {m : Str → Option Value} (X : Fz h₀ g₀ fx gi mu ls L h) (hm : h.Ns L m → h'.Ns L (fun y => if y = x then some v else m y)) (hs : Heap.SameBut L h h')
    (n : h.Ns L m) (r : ∀ x d, ls.lookup x = some d → ∃ v, m x = some v ∧ Has gi v d) (hv : Has gi v d) : Fz h₀ g₀ fx gi mu ((x, d) :: ls) L h' where
  ns := ⟨_, hm n, fun y e hy => by
    by_cases hyx : y = x
    · subst hyx
      rw [List.lookup_cons, beq_self_eq_true] at hy
      cases hy
      exact ⟨v, by simp, hv⟩
    · have : (y == x) = false := by simpa using hyx
      rw [List.lookup_cons, this] at hy
      obtain ⟨u, a, b⟩ := r y e hy
      exact ⟨u, by simp [hyx, a], b⟩⟩
  base := X.base
  keep := fun b o e => (hs.2 b (fun q => by rw [q, X.offx] at e; cases e)).trans (X.keep b o e)
  offx := X.offx
  sub := fun b o e => (hs.2 b (fun q => by rw [q, X.off] at e; cases e)).trans (X.sub b o e)
  off := X.off
  low := X.low
  above := X.above
  apart := X.apart
  mv := fun q c hm => by
    obtain ⟨a, b, r⟩ := X.mv q c hm
    exact ⟨a.mono (GH.le.refl _) fun o e => (hs.2 q b).trans e, b, r⟩
  nd := X.nd

/-- other words for the locals -/
theorem Fz.less {ls' : List (Str × D)} (X : Fz h₀ g₀ fx gi mu ls L h) (e : ∀ x d, ls'.lookup x = some d → ls.lookup x = some d) : Fz h₀ g₀ fx gi mu ls' L h :=
  { X with ns := let ⟨m, n, r⟩ := X.ns; ⟨m, n, fun x d q => r x d (e x d q)⟩ }
theorem lessOf {ls ls' : List (Str × D)} (e : ∀ p ∈ ls', ls.lookup p.1 = some p.2) : ∀ x d, ls'.lookup x = some d → ls.lookup x = some d := by
  induction ls' with
  | nil => intro x d q; cases q
  | cons p r ih =>
    intro x d q
    rw [List.lookup_cons] at q
    cases hx : x == p.1 with
    | true =>
      rw [hx] at q
      cases q
      rw [eq_of_beq hx]; exact e p (.head _)
    | false =>
      rw [hx] at q
      exact ih (fun p hp => e p (.tail _ hp)) x d q
theorem Fz.narrow {fx' : GH} (X : Fz h₀ g₀ fx' gi mu ls L h) (a : fx.le fx') (b : ∀ b o, h₀.get? b = some o → fx b = some o) : Fz h₀ g₀ fx gi mu ls L h :=
  { X with
    base := b
    keep := fun b o e => X.keep b o (a b o e)
    offx := by
      cases e : fx L with
      | none => rfl
      | some o => have := a _ _ e; rw [X.offx] at this; cases this
    apart := fun b hb hn => X.apart b hb fun q => by
      cases e : fx b with
      | none => exact hn e
      | some o => have := a _ _ e; rw [q] at this; cases this
    mv := fun q c hm => by
      obtain ⟨p1, p2, p3, p4⟩ := X.mv q c hm
      refine ⟨p1, p2, ?_, p4⟩
      cases e : fx q with
      | none => rfl
      | some o => have := a _ _ e; rw [p3] at this; cases this }
/-- a further address is held -/
theorem Fz.hold {wr : List Addr} (X : Fz h₀ g₀ fx gi mu ls L h) (hw : ∀ b ∈ wr, b ≠ L ∧ h₀.objs.size ≤ b ∧ gi b = none ∧ ∀ c, (b, c) ∉ mu) :
    Fz h₀ g₀ (fun b => if b ∈ wr then h.get? b else fx b) gi mu ls L h :=
  { X with
    base := fun b o e => by
      show (if b ∈ wr then h.get? b else fx b) = some o
      split
      · rename_i hm
        exact absurd (Heap.lt_size e) (Nat.not_lt.mpr (hw b hm).2.1)
      · exact X.base b o e
    keep := fun b o e => by
      have e' : (if b ∈ wr then h.get? b else fx b) = some o := e
      split at e'
      · exact e'
      · exact X.keep b o e'
    offx := by
      show (if L ∈ wr then h.get? L else fx L) = none
      split
      · rename_i hm; exact absurd rfl (hw L hm).1
      · exact X.offx
    apart := fun b hb hn => by
      by_cases hm : b ∈ wr
      · exact (hw b hm).2.2.1
      · have hn' : (if b ∈ wr then h.get? b else fx b) ≠ none := hn
        rw [if_neg hm] at hn'
        exact X.apart b hb hn'
    mv := fun q c hm => by
      obtain ⟨p1, p2, p3, p4⟩ := X.mv q c hm
      refine ⟨p1, p2, ?_, p4⟩
      show (if q ∈ wr then h.get? q else fx q) = none
      split
      · rename_i hq; exact absurd hm ((hw q hq).2.2.2 c)
      · exact p3 }

/-- the result of a call over the caller's frozen part -/
theorem Fz.out (X : Fz h₀ g₀ fx gi mu ls L h) : gi.le (grow g₀ h₀ h) := fun b o e => by
  show (if b < h₀.objs.size then g₀ b else h.get? b) = some o
  split
  · rename_i hb; rw [← X.low b hb]; exact e
  · exact X.sub b o e
end
end Mine
end
section
open PySem PySem.W PySem.Calls PyProof.Rows
set_option Elab.async false
set_option maxRecDepth 100000
namespace Mine

structure Ok (n : Nat) (A : Around) : Prop where
  hd : A.handled = none
  dp : A.depth + n < recursionLimit
  un : A.units + 12 * n < cLine
theorem Ok.deeper {n : Nat} {A : Around} {env : Env} (o : Ok (n + 1) A) : Ok n (A.deeper env) :=
  ⟨o.hd, by have := o.dp; show A.depth + 1 + n < _; omega, by have := o.un; show A.units + 3 + 12 * n < _; omega⟩
theorem Ok.in1 {n : Nat} {A : Around} (o : Ok (n + 1) A) : Ok n A.in1 :=
  ⟨o.hd, by have := o.dp; show A.depth + n < _; omega, by have := o.un; show A.units + 1 + 12 * n < _; omega⟩
theorem Ok.le {n k : Nat} {A : Around} (o : Ok n A) (h : k ≤ n) : Ok k A := ⟨o.hd, by have := o.dp; omega, by have := o.un; omega⟩
theorem Ok.room {n : Nat} {A : Around} (o : Ok n A) : A.depth < recursionLimit := by have := o.dp; omega
theorem Ok.c {n : Nat} {A : Around} (o : Ok n A) : A.units < cLine := by have := o.un; omega
theorem Ok.c1 {n : Nat} {A : Around} (o : Ok (n + 1) A) : A.units + 12 < cLine := by have := o.un; omega

structure Gl (K : Params → Frag) (w : World) (h : Heap) : Prop where
  k : (K w.params).In h
  top : ∃ mg mb, h.Ns mainGlobals mg ∧ h.Ns builtinsNs mb ∧ ∀ x : Str, x ≠ "__name__" → mb x = bootBuiltins x
  nl : h.NoLimit
theorem Gl.keeps {K : Params → Frag} {w : World} {h h' : Heap} (G : Gl K w h) (k : ∀ b o, h.get? b = some o → h'.get? b = some o) : Gl K w h' :=
  ⟨G.k.keeps k, let ⟨mg, mb, a, b, c⟩ := G.top; ⟨mg, mb, a.keeps k, b.keeps k, c⟩, G.nl.keeps k⟩

section
variable {K : Params → Frag} {prog : Program} {w : World} {A : Around} {E : Value → Shared → Prop} {s : Shared} {h₀ : Heap} {g₀ fx gi : GH} {mu : List (Addr × MV)} {ls : List (Str × D)} {env : Env}

theorem Fz.gl {L : Addr} {h : Heap} (X : Fz h₀ g₀ fx gi mu ls L h) (G : Gl K w h₀) : Gl K w h := G.keeps X.keep0

/-! names -/
theorem zldn {x : Str} {d : D} {Q : Value → Shared → Prop} (X : Fz h₀ g₀ fx gi mu ls env.locals s.heap) (hx : ls.lookup x = some d) (h : ∀ v, Has gi v d → Q v s)
    (hk : env.scope.kind = .function := by rfl) (hl : env.kindOf x = some .local := by rfl) : wpAny (model prog w) A (loadName env x) Q E s :=
  let ⟨_, n, r⟩ := X.ns; let ⟨v, a, b⟩ := r x d hx; wpAny_loadName_local hk hl n a (h v b)
theorem zld {x : Str} {pos : Pos} {d : D} {Q : Value → Shared → Prop} (X : Fz h₀ g₀ fx gi mu ls env.locals s.heap) (hx : ls.lookup x = some d) (h : ∀ v, Has gi v d → Q v s)
    (hk : env.scope.kind = .function := by rfl) (hl : env.kindOf x = some .local := by rfl) (hd : (x == ("__debug__" : Str)) = false := by decide) :
    wpAny (model prog w) A (eval (.Name x pos) env) Q E s := wpAny_Name (zldn X hx h hk hl) hd

/-- a name of the module's top -/
theorem zgl {x : Str} {pos : Pos} {v : Value} {Q : Value → Shared → Prop} (G : Gl K w h₀) (X : Fz h₀ g₀ fx gi mu ls env.locals s.heap) (e : nsIn (K w.params) mainGlobals x = some (some v)) (h : Q v s)
    (hg : env.globals = mainGlobals := by rfl) (hk : env.scope.kind = .function := by rfl) (hx : env.kindOf x = some .globalImplicit := by rfl) (hd : (x == ("__debug__" : Str)) = false := by decide) :
    wpAny (model prog w) A (eval (.Name x pos) env) Q E s := by
  obtain ⟨mg, mb, a, b, c⟩ := G.top
  exact Name_function_global hk hx (loadGlobal_global (hg ▸ a.keeps X.keep0) (mg_of G.k a e) h) hd
/-- a built-in name -/
theorem zbl {x : Str} {pos : Pos} {v : Value} {Q : Value → Shared → Prop} (G : Gl K w h₀) (X : Fz h₀ g₀ fx gi mu ls env.locals s.heap) (e : nsIn (K w.params) mainGlobals x = some none) (hv : bootBuiltins x = some v) (hn : x ≠ "__name__") (h : Q v s)
    (hg : env.globals = mainGlobals := by rfl) (hb : env.builtins = builtinsNs := by rfl) (hk : env.scope.kind = .function := by rfl) (hx : env.kindOf x = some .globalImplicit := by rfl) (hd : (x == ("__debug__" : Str)) = false := by decide) :
    wpAny (model prog w) A (eval (.Name x pos) env) Q E s := by
  obtain ⟨mg, mb, a, b, c⟩ := G.top
  exact Name_function_global hk hx (loadGlobal_builtin (hg ▸ a.keeps X.keep0) (mg_none_of G.k a e) (hb ▸ b.keeps X.keep0) ((c x hn).trans hv) h) hd

/-! stores -/
theorem zst {x : Str} {v : Value} {d : D} {Q : Unit → Shared → Prop} (X : Fz h₀ g₀ fx gi mu ls env.locals s.heap) (hv : Has gi v d)
    (h : ∀ h', Fz h₀ g₀ fx gi mu ((x, d) :: ls) env.locals h' → Q () { s with heap := h', toks := s.toks + 1 })
    (hl : env.kindOf x = some .local := by rfl) (hp : (env.scope.kind == .class || (env.scope.kind == .module && env.locals != env.globals)) = false := by rfl) :
    wpAny (model prog w) A (storeName env x v) Q E s := by
  obtain ⟨m, n, r⟩ := X.ns
  exact wpAny_storeName_local hl n (fun h' hn hs => h h' (X.store (fun _ => hn) hs n r hv)) hp

theorem IsCell.unfold {h : Heap} {c : Addr} {v : Option Value} (x : h.IsCell c v) : ∃ o, h.get? c = some o ∧ o.data = .cell v := x

theorem Fz.setMu {L : Addr} {h h' : Heap} {q : Addr} {c c' : MV} {mu' : List (Addr × MV)} (X : Fz h₀ g₀ fx gi mu ls L h) (hq : (q, c) ∈ mu) (hs : Heap.SameBut q h h') (hc : c'.at gi h' q)
    (hm : mu' = mu.map fun p => if p.1 = q then (q, c') else p) : Fz h₀ g₀ fx gi mu' ls L h' := by
  have Y := X.mv q c hq
  exact {
    ns := let ⟨m, n, r⟩ := X.ns; ⟨m, n.sameBut hs (Ne.symm Y.2.1), r⟩
    base := X.base
    keep := fun b o e => (hs.2 b (fun z => by rw [z, Y.2.2.1] at e; cases e)).trans (X.keep b o e)
    offx := X.offx
    sub := fun b o e => (hs.2 b (fun z => by rw [z, Y.2.2.2.1] at e; cases e)).trans (X.sub b o e)
    off := X.off
    low := X.low
    above := X.above
    apart := X.apart
    mv := fun p e hp => by
      subst hm
      obtain ⟨z, hz, ez⟩ := List.mem_map.mp hp
      by_cases hzq : z.1 = q
      · rw [if_pos hzq] at ez
        cases ez
        exact ⟨hc, Y.2⟩
      · rw [if_neg hzq] at ez
        subst ez
        obtain ⟨a, b⟩ := X.mv p e hz
        exact ⟨a.mono (GH.le.refl _) fun o e => (hs.2 p hzq).trans e, b⟩
    nd := by
      subst hm
      rw [List.map_map]
      have : ((fun x => x.1) ∘ fun p : Addr × MV => if p.1 = q then (q, c') else p) = fun p : Addr × MV => p.1 := by
        funext p
        by_cases hp : p.1 = q
        · simp [hp]
        · simp [hp]
      rw [this]; exact X.nd }

/-- a store of a cell variable -/
theorem zstC {x : Str} {q : Addr} {v : Value} {d : D} {v₀ : Option D} {mu' : List (Addr × MV)} {Q : Unit → Shared → Prop} (X : Fz h₀ g₀ fx gi mu ls env.locals s.heap) (hc : env.cells.lookup x = some q) (hq : (q, MV.cell v₀) ∈ mu) (hv : Has gi v d)
    (hm : mu' = mu.map fun p => if p.1 = q then (q, .cell (some d)) else p)
    (h : ∀ h', Fz h₀ g₀ fx gi mu' ls env.locals h' → Q () { s with heap := h' })
    (hk : env.scope.kind = .function := by rfl) (hl : env.kindOf x = some .cell := by rfl) :
    wpAny (model prog w) A (storeName env x v) Q E s := by
  obtain ⟨a, _⟩ := X.mv _ _ hq
  have go : ∀ v₁, s.heap.IsCell q v₁ → wpAny (model prog w) A (storeName env x v) Q E s := fun v₁ hv₁ =>
    wpAny_storeName_cell hk hl hc hv₁ fun h' hv' hs => h h' (X.setMu hq hs (c' := .cell (some d)) ⟨v, hv', hv⟩ hm)
  cases v₀ with
  | none => exact go _ a
  | some d₀ => obtain ⟨v₁, hv₁, _⟩ := a; exact go _ hv₁
theorem zldC {x : Str} {pos : Pos} {q : Addr} {d : D} {Q : Value → Shared → Prop} (X : Fz h₀ g₀ fx gi mu ls env.locals s.heap) (hc : env.cells.lookup x = some q) (hq : (q, MV.cell (some d)) ∈ mu) (h : ∀ v, Has gi v d → Q v s)
    (hk : env.scope.kind = .function := by rfl) (hl : env.kindOf x = some .cell := by rfl) (hd : (x == ("__debug__" : Str)) = false := by decide) :
    wpAny (model prog w) A (eval (.Name x pos) env) Q E s := by
  obtain ⟨⟨v, hv, hh⟩, _⟩ := X.mv _ _ hq
  exact wpAny_Name (wpAny_loadName_cell hk hl hc hv (h v hh)) hd

/-! new objects -/
theorem Fz.push {L : Addr} {h : Heap} (X : Fz h₀ g₀ fx gi mu ls L h) (o : Obj) (hf : o.isFreed = false) :
    Fz h₀ g₀ fx (grow gi h (h.push o)) mu ls L (h.push o) ∧ (grow gi h (h.push o)) h.objs.size = some o ∧ gi.le (grow gi h (h.push o)) :=
  ⟨X.ext fun _ _ e => Heap.get?_push_of_some _ e, by
    show (if h.objs.size < h.objs.size then gi h.objs.size else (h.push o).get? h.objs.size) = some o
    rw [if_neg (Nat.lt_irrefl _)]; exact Heap.get?_push_size _ hf, grow_le X.sub⟩

theorem Fz.newMu {L : Addr} {h : Heap} {vs : List Value} {ds : List D} {n : Nat} (X : Fz h₀ g₀ fx gi mu ls L h) (hv : HasAll gi vs ds) :
    Fz h₀ g₀ fx gi ((h.objs.size, .lst ds) :: mu) ls L (h.push { cls := .type "list", data := .seq vs.toArray n }) where
  ns := let ⟨m, n, r⟩ := X.ns; ⟨m, n.push _, r⟩
  base := X.base
  keep := fun b o e => Heap.get?_push_of_some _ (X.keep b o e)
  offx := X.offx
  sub := fun b o e => Heap.get?_push_of_some _ (X.sub b o e)
  off := X.off
  low := X.low
  above := X.above
  apart := X.apart
  mv := fun q c hm => by
    rcases List.mem_cons.mp hm with e | hm
    · cases e
      refine ⟨⟨vs, n, Heap.get?_push_size _ rfl, hv⟩, Nat.ne_of_gt X.ltL, ?_, ?_, Nat.le_of_lt (Nat.lt_of_le_of_lt X.above X.ltL)⟩
      · cases e : fx h.objs.size with
        | none => rfl
        | some o => exact absurd (Heap.lt_size (X.keep _ _ e)) (Nat.lt_irrefl _)
      · cases e : gi h.objs.size with
        | none => rfl
        | some o => exact absurd (Heap.lt_size (X.sub _ _ e)) (Nat.lt_irrefl _)
    · obtain ⟨a, r⟩ := X.mv q c hm
      exact ⟨a.mono (GH.le.refl _) fun o e => Heap.get?_push_of_some _ e, r⟩
  nd := by
    rw [List.map_cons, List.nodup_cons]
    refine ⟨fun hm => ?_, X.nd⟩
    obtain ⟨p, hp, e⟩ := List.mem_map.mp hm
    obtain ⟨a, _⟩ := X.mv p.1 p.2 hp
    obtain ⟨o, ho⟩ := a.live
    rw [e] at ho
    exact absurd (Heap.lt_size ho) (Nat.lt_irrefl _)

/-- a mutable list stands still from here on -/
theorem Fz.freeze {L : Addr} {h : Heap} {q : Addr} {ds : List D} (X : Fz h₀ g₀ fx gi mu ls L h) (hq : (q, MV.lst ds) ∈ mu) :
    ∃ g', gi.le g' ∧ Has g' (.ref q) (.l ds) ∧ Fz h₀ g₀ fx g' (mu.filter fun p => p.1 != q) ls L h := by
  obtain ⟨⟨vs, n, ho, ha⟩, hL, hfx, hgi, hlo⟩ := X.mv _ _ hq
  have le : gi.le (fun b => if b = q then h.get? q else gi b) := fun b o e => by
    show (if b = q then h.get? q else gi b) = some o
    rw [if_neg (fun z => by rw [z, hgi] at e; cases e)]; exact e
  have hs : (fun b => if b = q then h.get? q else gi b : GH) q = h.get? q := if_pos rfl
  refine ⟨fun b => if b = q then h.get? q else gi b, le, Has.ofList (hs.trans ho) (ha.mono le), ?_⟩
  exact {
    ns := let ⟨m, n, r⟩ := X.ns; ⟨m, n, fun x d e => let ⟨v, a, b⟩ := r x d e; ⟨v, a, b.mono le⟩⟩
    base := X.base
    keep := X.keep
    offx := X.offx
    sub := fun b o e => by
      have e' : (if b = q then h.get? q else gi b) = some o := e
      split at e'
      · rename_i z; rw [z]; exact e'
      · exact X.sub b o e'
    off := by show (if L = q then h.get? q else gi L) = none; rw [if_neg (Ne.symm hL)]; exact X.off
    low := fun b hb => by show (if b = q then h.get? q else gi b) = _; rw [if_neg (fun z => by rw [z] at hb; exact absurd hb (Nat.not_lt.mpr hlo))]; exact X.low b hb
    above := X.above
    apart := fun b hb hn => by
      show (if b = q then h.get? q else gi b) = none
      rw [if_neg (fun z => hn (by rw [z]; exact hfx))]; exact X.apart b hb hn
    mv := fun p c hm => by
      obtain ⟨hm1, hm2⟩ := List.mem_filter.mp hm
      obtain ⟨a, b, c', d, e⟩ := X.mv p c hm1
      refine ⟨a.mono le fun _ e => e, b, c', ?_, e⟩
      show (if p = q then h.get? q else gi p) = none
      rw [if_neg (by simpa using hm2)]; exact d
    nd := X.nd.sublist (List.Sublist.map _ (List.filter_sublist)) }

theorem znewList {L : Addr} {vs : List Value} {ds : List D} {Q : Value → Shared → Prop} (X : Fz h₀ g₀ fx gi mu ls L s.heap) (hv : HasAll gi vs ds)
    (h : ∀ a g' h', gi.le g' → Fz h₀ g₀ fx g' mu ls L h' → Has g' (.ref a) (.l ds) → Q (.ref a) { s with heap := h' }) (hsz : vs.length ≤ sizeLine := by size_fits) : wpAny (model prog w) A (newList vs) Q E s := by
  obtain ⟨X', e, le⟩ := X.push { cls := .type "list", data := .seq vs.toArray } rfl
  exact wpAny_newObj_type (h _ _ _ le X' (Has.ofList e (hv.mono le))) (by show vs.toArray.size ≤ sizeLine; rw [List.size_toArray]; exact hsz)
theorem znewTuple {L : Addr} {vs : List Value} {ds : List D} {Q : Value → Shared → Prop} (X : Fz h₀ g₀ fx gi mu ls L s.heap) (hv : HasAll gi vs ds)
    (h : ∀ a g' h', gi.le g' → Fz h₀ g₀ fx g' mu ls L h' → Has g' (.ref a) (.t ds) → Q (.ref a) { s with heap := h' }) (hsz : vs.length ≤ sizeLine := by size_fits) : wpAny (model prog w) A (newTuple vs) Q E s := by
  obtain ⟨X', e, le⟩ := X.push { cls := .type "tuple", data := .seq vs.toArray } rfl
  exact wpAny_newObj_type (h _ _ _ le X' (Has.ofTup e (hv.mono le))) (by show vs.toArray.size ≤ sizeLine; rw [List.size_toArray]; exact hsz)
theorem znewListM {L : Addr} {vs : List Value} {ds : List D} {Q : Value → Shared → Prop} (X : Fz h₀ g₀ fx gi mu ls L s.heap) (hv : HasAll gi vs ds)
    (h : ∀ q h', Fz h₀ g₀ fx gi ((q, .lst ds) :: mu) ls L h' → Q (.ref q) { s with heap := h' }) (hsz : vs.length ≤ sizeLine := by size_fits) : wpAny (model prog w) A (newList vs) Q E s :=
  wpAny_newObj_type (h _ _ (X.newMu hv)) (by show vs.toArray.size ≤ sizeLine; rw [List.size_toArray]; exact hsz)

/-! a call -/
def Ret (s : Shared) (g : GH) (d : D) (Q : Value → Shared → Prop) : Prop :=
  ∀ v h' tk, (∀ b o, s.heap.get? b = some o → h'.get? b = some o) → Has (grow g s.heap h') v d → Q v { s with heap := h', toks := tk }
theorem zret {L : Addr} {d : D} {Q : Value → Shared → Prop} (X : Fz h₀ g₀ fx gi mu ls L s.heap)
    (h : ∀ v g' h' tk, gi.le g' → Fz h₀ g₀ fx g' mu ls L h' → Has g' v d → Q v { s with heap := h', toks := tk }) : Ret s gi d Q :=
  fun v h' tk k hv => h v _ h' tk (grow_le X.sub) (X.ext k) hv
theorem Ret.done {s₀ s : Shared} {d : D} {v : Value} {L : Addr} {Q : Value → Shared → Prop} (R : Ret s₀ g₀ d Q) (X : Fz s₀.heap g₀ fx gi mu ls L s.heap) (hv : Has gi v d) (hs : s = { s₀ with heap := s.heap, toks := s.toks }) : Q v s := by
  rw [hs]; exact R v _ _ X.keep0 (hv.mono X.out)

theorem call_fn {name qual : Str} {params : Arguments} {body : List Stmt} {scope : Scope} {dV kV doc pm cdv ct oc : Value} {an od : Option Addr} {osl : Array (Option Value)} {f : Addr} {pos : List Value} {kw : List (Str × Value)} {binds : List (Str × Value)} {Q : Value → Shared → Prop}
    (G : Gl K w s.heap) (ho : (K w.params).lookup f = some ⟨oc, od, .func (fnOf name qual params body scope dV kV doc pm an cdv ct), osl⟩) (hcd : codeIn (K w.params) cdv qual = true) (hroom : A.depth < recursionLimit)
    (hbind : BindsTo s (fnOf name qual params body scope dV kV doc pm an cdv ct) ⟨pos, kw⟩ binds) (hloc : ∀ y ∈ binds, scope.names.lookup y.1 = some .local)
    (h : ∀ h₁, Fr s.heap s.heap.objs.size h₁ (fun x => binds.reverse.lookup x) →
      wpAny (model prog w) (A.deeper (envOf qual scope s.heap.objs.size f cdv)) (execs body (envOf qual scope s.heap.objs.size f cdv))
        (fun fl s' => Q (match fl with | .ret v => v | _ => .none) s') (fun _ _ => False) { s with heap := h₁, toks := s.toks + binds.length })
    (hco : scope.isCoroutine = false) (hgen : scope.isGenerator = false) (hk : scope.kind = .function) (hcell : ∀ x ∈ scope.names, x.2 ≠ .cell) :
    wpAny (model prog w) A (call (.ref f) pos kw) Q E s :=
  wpAny_call (codeAny_call_def (fd := fnOf name qual params body scope dV kV doc pm an cdv ct) (body := body) (binds := binds) hroom (G.k _ _ ho) rfl G.nl (codeRec_of G.k hcd) rfl hbind hcell hloc
    (fun h₁ hns hk₁ => wpAny_mono (h h₁ ⟨hns, hk₁, Nat.le_refl _⟩) (fun _ _ x => x) fun _ _ x => x.elim) hco hgen hk)
end
end Mine
end
section
open PySem PySem.W PySem.Calls PyProof.Rows
set_option Elab.async false
set_option maxRecDepth 100000
namespace Mine

/-! equality of data -/
inductive EqD : D → D → Bool → Prop
  | ii (a b : Int) : EqD (.i a) (.i b) (a == b)
  | ss (a b : Str) : EqD (.s a) (.s b) (a == b)
  | rr (a : Addr) : EqD (.r a) (.r a) true
inductive EqL : List D → List D → Bool → Prop
  | nil : EqL [] [] true
  | cons {d e : D} {ds es : List D} {b c : Bool} : EqD d e b → EqL ds es c → ds.length = es.length → EqL (d :: ds) (e :: es) (b && c)
  | len {ds es : List D} : ds.length ≠ es.length → EqL ds es false

theorem EqL.ints (ns ms : List Int) : EqL (ns.map .i) (ms.map .i) (decide (ns = ms)) := by
  by_cases hl : ns.length = ms.length
  · induction ns generalizing ms with
    | nil =>
      cases ms with
      | nil => simpa using EqL.nil
      | cons b t => cases hl
    | cons a r ih =>
      cases ms with
      | nil => cases hl
      | cons b t =>
        have hl' : r.length = t.length := by simpa using hl
        have := EqL.cons (EqD.ii a b) (ih t hl') (by simpa using hl')
        have e : (decide (a :: r = b :: t)) = ((a == b) && decide (r = t)) := by
          by_cases h1 : a = b <;> by_cases h2 : r = t <;> simp [h1, h2]
        rw [e]; exact this
  · have : decide (ns = ms) = false := by simp; intro e; exact hl (by rw [e])
    rw [this]; exact .len (by simpa using hl)
theorem EqL.strs (ns ms : List Str) : EqL (ns.map .s) (ms.map .s) (decide (ns = ms)) := by
  by_cases hl : ns.length = ms.length
  · induction ns generalizing ms with
    | nil =>
      cases ms with
      | nil => simpa using EqL.nil
      | cons b t => cases hl
    | cons a r ih =>
      cases ms with
      | nil => cases hl
      | cons b t =>
        have hl' : r.length = t.length := by simpa using hl
        have := EqL.cons (EqD.ss a b) (ih t hl') (by simpa using hl')
        have e : (decide (a :: r = b :: t)) = ((a == b) && decide (r = t)) := by
          by_cases h1 : a = b <;> by_cases h2 : r = t <;> simp [h1, h2]
        rw [e]; exact this
  · have : decide (ns = ms) = false := by simp; intro e; exact hl (by rw [e])
    rw [this]; exact .len (by simpa using hl)
theorem EqL.same : ∀ ds : List D, (∀ d ∈ ds, EqD d d true) → EqL ds ds true
  | [], _ => .nil
  | d :: r, h => by
    have := EqL.cons (h d (.head _)) (EqL.same r fun e he => h e (.tail _ he)) rfl
    simpa using this
theorem EqD.sameS (x : Str) : EqD (.s x) (.s x) true := by simpa using EqD.ss x x
theorem EqD.sameI (x : Int) : EqD (.i x) (.i x) true := by simpa using EqD.ii x x

theorem EqD.at {A : Around} {s : Shared} {g g' : GH} {d e : D} {b : Bool} {v u : Value} (x : EqD d e b) (hv : Has g v d) (hu : Has g' u e) : SeqAt.EqAt A s v u b := by
  cases x with
  | ii a b => cases hv; cases hu; exact SeqAt.EqAt.int_int _ _ _ _
  | ss a b => cases hv; cases hu; exact SeqAt.EqAt.str_str _ _ _ _
  | rr a => cases hv; cases hu; exact SeqAt.EqAt.same _

theorem EqL.pick {ds es : List D} {b : Bool} (x : EqL ds es b) (hl : ds.length = es.length) : ∃ e : Nat → Bool, (List.range ds.length).all e = b ∧ ∀ (j : Nat) (d d' : D), ds[j]? = some d → es[j]? = some d' → EqD d d' (e j) := by
  induction x with
  | nil => exact ⟨fun _ => true, rfl, fun j d d' h => by simp at h⟩
  | @cons d e ds es b c h hr hlen ih =>
    obtain ⟨f, hf, hp⟩ := ih hlen
    refine ⟨fun j => match j with | 0 => b | j + 1 => f j, ?_, ?_⟩
    · rw [List.length_cons, List.range_succ_eq_map, List.all_cons, List.all_map, ← hf]
      rfl
    · intro j d₁ d₂ h1 h2
      cases j with
      | zero => simp at h1 h2; subst h1; subst h2; exact h
      | succ j => exact hp j _ _ (by simpa using h1) (by simpa using h2)
  | len h => exact absurd hl h

section
variable {K : Params → Frag} {prog : Program} {w : World} {A : Around} {E : Value → Shared → Prop} {s : Shared} {h₀ : Heap} {g₀ fx gi : GH} {mu : List (Addr × MV)} {ls : List (Str × D)} {env : Env} {L : Addr}

theorem zneL {a b : Addr} {ds es : List D} {r : Bool} {Q : Value → Shared → Prop} (X : Fz h₀ g₀ fx gi mu ls L s.heap) (ha : Has gi (.ref a) (.l ds)) (hb : Has gi (.ref b) (.l es)) (e : EqL ds es r) (hu : A.units < cLine)
    (h : Q (.bool (!r)) s) : wpAny (model prog w) A (compareOp .NotEq (.ref a) (.ref b)) Q E s := by
  obtain ⟨vs, n, xa⟩ := ha.obj X.sub
  obtain ⟨ws, m, xb⟩ := hb.obj X.sub
  show wpAny _ _ (richCompare .NotEq (.ref a) (.ref b)) Q E s
  by_cases hl : ds.length = es.length
  · obtain ⟨f, hf, hp⟩ := e.pick hl
    refine richCompare_meets_room (op := .NotEq) ⟨_, xa.ob, rfl⟩ ⟨_, xb.ob, rfl⟩ F.slot_list_ne F.entry_list_ne (F.args_list_ne_2 _ _)
      (SeqAt.list_neAt a b vs.toArray ws.toArray n m none none #[] #[] (by simp only [List.size_toArray]; rw [xa.all.1, xb.all.1, hl]) f) ⟨xa.ob, xb.ob, fun j h1 h2 => ?_, ?_⟩ hu
    · have hj1 : j < ds.length := by simpa [xa.all.1] using h1
      have hj2 : j < es.length := by simpa [xb.all.1] using h2
      exact (hp j ds[j] es[j] (List.getElem?_eq_getElem hj1) (List.getElem?_eq_getElem hj2)).at
        (xa.all.2 j _ _ (by simp at h1; simp [List.getElem?_eq_getElem h1]) (List.getElem?_eq_getElem hj1))
        (xb.all.2 j _ _ (by simp at h2; simp [List.getElem?_eq_getElem h2]) (List.getElem?_eq_getElem hj2))
    · simp only [List.size_toArray, xa.all.1, hf]; exact ⟨(fun x => nomatch x), h⟩
  · have : r = false := by
      cases e with
      | nil => exact absurd rfl hl
      | cons _ _ hh => exact absurd (by simp [hh]) hl
      | len _ => rfl
    subst this
    exact richCompare_meets_room (op := .NotEq) ⟨_, xa.ob, rfl⟩ ⟨_, xb.ob, rfl⟩ F.slot_list_ne F.entry_list_ne (F.args_list_ne_2 _ _)
      (SeqAt.list_ne_lengthsAt a b vs.toArray ws.toArray n m none none #[] #[] (by simp only [List.size_toArray, xa.all.1, xb.all.1]; simpa using hl)) ⟨xa.ob, xb.ob, (fun x => nomatch x), h⟩ hu

theorem zlen {a : Addr} {ds : List D} {Q : Value → Shared → Prop} (X : Fz h₀ g₀ fx gi mu ls L s.heap) (ha : Has gi (.ref a) (.l ds)) (hf : ds.length < 2 ^ 62)
    (h : Q (.int ds.length (s.toks + 1)) { s with toks := s.toks + 1 + 1 }) : wpAny (model prog w) A (call (.builtin "len") [.ref a]) Q E s := by
  obtain ⟨vs, n, xa⟩ := ha.obj X.sub
  have e : vs.toArray.size = ds.length := by rw [List.size_toArray, xa.all.1]
  exact call_len_list xa.list (by rw [e]; omega) (by rw [e]; exact h)

theorem zitem {value slice : Expr} {a : Addr} {ds : List D} {k : Int} {u : Tok} {d : D} {Q : Value → Shared → Prop} (X : Fz h₀ g₀ fx gi mu ls L s.heap) (ha : Has gi (.ref a) (.l ds)) (h0 : 0 ≤ k) (hf : k < 2 ^ 63) (hd : ds[k.toNat]? = some d)
    (h : ∀ v, Has gi v d → Q v s) (hs : subscripted slice false (.ref a) (.int k u) = operate [.ref a, .int k u] (getItem (.ref a) (.int k u)) := by with_unfolding_all rfl) :
    wpAny (model prog w) A (subscriptTail value slice (.ref a) (.int k u)) Q E s := by
  obtain ⟨vs, n, xa⟩ := ha.obj X.sub
  obtain ⟨v, hv, hh⟩ := xa.all.get hd
  exact tail_any xa.list.typeIs slot_list_getitem.lookup (wpAny_getItem_list xa.list h0 hf (by simpa using hv) (h v hh)) hs
theorem zitem_neg {value slice : Expr} {a : Addr} {ds : List D} {k : Int} {u : Tok} {d : D} {Q : Value → Shared → Prop} (X : Fz h₀ g₀ fx gi mu ls L s.heap) (ha : Has gi (.ref a) (.l ds)) (h0 : k < 0) (h1 : -(ds.length : Int) ≤ k) (hf : -(2 ^ 63) ≤ k) (hd : ds[(k + ds.length).toNat]? = some d)
    (h : ∀ v, Has gi v d → Q v s) (hs : subscripted slice false (.ref a) (.int k u) = operate [.ref a, .int k u] (getItem (.ref a) (.int k u)) := by with_unfolding_all rfl) :
    wpAny (model prog w) A (subscriptTail value slice (.ref a) (.int k u)) Q E s := by
  obtain ⟨vs, n, xa⟩ := ha.obj X.sub
  obtain ⟨v, hv, hh⟩ := xa.all.get hd
  have e : (vs.toArray.size : Int) = ds.length := by rw [List.size_toArray, xa.all.1]
  exact tail_any xa.list.typeIs slot_list_getitem.lookup (wpAny_getItem_list_neg xa.list h0 (by rw [e]; exact h1) hf (by rw [e]; simpa using hv) (h v hh)) hs
theorem zitemT {value slice : Expr} {a : Addr} {ds : List D} {k : Int} {u : Tok} {d : D} {Q : Value → Shared → Prop} (X : Fz h₀ g₀ fx gi mu ls L s.heap) (ha : Has gi (.ref a) (.t ds)) (h0 : 0 ≤ k) (hf : k < 2 ^ 63) (hd : ds[k.toNat]? = some d)
    (h : ∀ v, Has gi v d → Q v s) (hs : subscripted slice false (.ref a) (.int k u) = operate [.ref a, .int k u] (getItem (.ref a) (.int k u)) := by with_unfolding_all rfl) :
    wpAny (model prog w) A (subscriptTail value slice (.ref a) (.int k u)) Q E s := by
  obtain ⟨vs, n, xa⟩ := ha.objT X.sub
  obtain ⟨v, hv, hh⟩ := xa.all.get hd
  have hlt : k.toNat < vs.length := (List.getElem?_eq_some_iff.mp hv).1
  refine item_tupleT xa.tup (by omega) hf (j := k.toNat) ?_ hv (h v hh) hs
  unfold seqIndex?
  simp
  rw [if_neg (by omega)]
  omega

theorem zadd {a b : Addr} {ds es : List D} {Q : Value → Shared → Prop} (X : Fz h₀ g₀ fx gi mu ls L s.heap) (ha : Has gi (.ref a) (.l ds)) (hb : Has gi (.ref b) (.l es)) (hsz : ds.length + es.length ≤ 10000)
    (h : ∀ c g' h', gi.le g' → Fz h₀ g₀ fx g' mu ls L h' → Has g' (.ref c) (.l (ds ++ es)) → Q (.ref c) { s with heap := h' }) : wpAny (model prog w) A (binaryOp .Add (.ref a) (.ref b)) Q E s := by
  obtain ⟨vs, n, xa⟩ := ha.obj X.sub
  obtain ⟨ws, m, xb⟩ := hb.obj X.sub
  obtain ⟨X', e, le⟩ := X.push { cls := .type "list", data := .seq (vs ++ ws).toArray } rfl
  refine concat_meets ⟨_, xa.ob, rfl⟩ ⟨_, xb.ob, rfl⟩ noFill_list_add seq_list_add PySem.F.slot_list_add PySem.F.entry_list_add (PySem.F.args_list_add_2 _ _)
    (list_addW a b vs.toArray ws.toArray n m none none #[] #[] (by simp only [List.size_toArray, xa.all.1, xb.all.1]; exact Nat.le_trans hsz (by decide))) ⟨xa.ob, xb.ob, ?_⟩
  have ee : vs.toArray ++ ws.toArray = (vs ++ ws).toArray := by simp
  rw [ee]
  exact h _ _ _ le X' (Has.ofList e ((xa.all.append xb.all).mono le))

theorem HasAll.rep {g : GH} {v : Value} {d : D} (h : Has g v d) (n : Nat) : HasAll g (List.replicate n v) (List.replicate n d) := by
  induction n with
  | zero => exact .nil
  | succ n ih => exact .cons h ih
/-- [d] * x -/
theorem zmul1 {a : Addr} {d : D} {x : Int} {u : Tok} {Q : Value → Shared → Prop} (X : Fz h₀ g₀ fx gi mu ls L s.heap) (ha : Has gi (.ref a) (.l [d])) (hlo : -10000 ≤ x) (hhi : x ≤ 10000)
    (h : ∀ c g' h', gi.le g' → Fz h₀ g₀ fx g' mu ls L h' → Has g' (.ref c) (.l (List.replicate x.toNat d)) → Q (.ref c) { s with heap := h' }) : wpAny (model prog w) A (binaryOp .Mult (.ref a) (.int x u)) Q E s := by
  obtain ⟨vs, n, xa⟩ := ha.obj X.sub
  obtain ⟨v, ws, rfl, hv, hw⟩ := xa.all.uncons
  cases hw.unnil
  have hl := xa.ob
  refine wpAny_binaryOp_repeat_ref (T := "list") (U := "int") (by decide) ⟨_, hl, rfl⟩ (fun s' => typeIs_int s' x u) noFill_list_mul F.fills_int_mul F.slot_int_rmul repeat_list F.slot_int_index.lookup
    (call_meets F.slot_int_rmul (typeIs_int s x u) F.entry_int_rmul (F.args_int_rmul_2 _ _) (int___rmul___int_list x u a [v].toArray n)
      ⟨hl, rfl, ⟨_, hl, rfl⟩, call_meets F.slot_list_mul ⟨_, hl, rfl⟩ F.entry_list_mul (F.args_list_mul_2 _ _)
        (AutoListH.list___mul___list_int_3 a [v].toArray n x u (by simp [Builtin.List.listFitsIndex]; omega) (by simp; omega) (by simp [Builtin.List.listTooLong, sizeLine]; omega))
        ⟨hl, ?_⟩⟩)
  obtain ⟨X', e, le⟩ := X.push { cls := .type "list", data := .seq (List.replicate x.toNat v).toArray } rfl
  have ee : (List.foldl (fun x1 x2 => x1 ++ x2) #[] (List.replicate (if ([v].toArray).isEmpty = true then 0 else x.toNat) [v].toArray)) = (List.replicate x.toNat v).toArray := by
    have : ([v].toArray).isEmpty = false := rfl
    rw [this]
    simp only [Bool.false_eq_true, if_false, listMul_foldl]
    simp
  rw [ee]
  exact h _ _ _ le X' (Has.ofList e ((HasAll.rep hv _).mono le))

/-! slices -/
def pk {α : Type} (lo hi : Option Int) (xs : List α) : List α :=
  (xs.drop (sliceBounds lo hi none xs.length).1.toNat).take ((sliceBounds lo hi none xs.length).2.1.toNat - (sliceBounds lo hi none xs.length).1.toNat)
theorem bounds_nn (lo hi : Option Int) (n : Nat) : 0 ≤ (sliceBounds lo hi none n).1 ∧ 0 ≤ (sliceBounds lo hi none n).2.1 ∧ (sliceBounds lo hi none n).2.2 = 1 := by
  simp only [sliceBounds, Option.getD_none]
  refine ⟨?_, ?_, trivial⟩
  · simp only [show (1 : Int) > 0 by decide, if_true]
    cases lo with
    | none => simp
    | some i => dsimp only; omega
  · simp only [show (1 : Int) > 0 by decide, if_true]
    cases hi with
    | none => simp
    | some i => dsimp only; omega
theorem slicePick_pk (vs : List Value) (lo hi : Option Int) : slicePick vs.toArray lo hi none = (pk lo hi vs).toArray := by
  obtain ⟨h1, h2, h3⟩ := bounds_nn lo hi vs.length
  unfold slicePick pk
  simp only [List.size_toArray]
  generalize sliceBounds lo hi none vs.length = t at h1 h2 h3 ⊢
  obtain ⟨a, b, c⟩ := t
  dsimp only at h1 h2 h3 ⊢
  subst h3
  obtain ⟨a', rfl⟩ := Int.eq_ofNat_of_zero_le h1
  obtain ⟨b', rfl⟩ := Int.eq_ofNat_of_zero_le h2
  rw [sliceRange_one, pick_run]
  simp
theorem HasAll.pk {g : GH} {vs : List Value} {ds : List D} (h : HasAll g vs ds) (lo hi : Option Int) : HasAll g (pk lo hi vs) (pk lo hi ds) := by
  unfold Mine.pk
  rw [h.1]
  exact (h.drop _).take _
theorem pk_upto {α : Type} (xs : List α) (n : Nat) : pk none (some (n : Int)) xs = xs.take n := by
  unfold pk
  simp only [sliceBounds, Option.getD_none, show (1 : Int) > 0 by decide, if_true]
  have h1 : ¬ ((n : Int) < 0) := by omega
  simp only [h1, if_false, Int.toNat_zero, List.drop_zero, Nat.sub_zero]
  rcases Nat.le_total n xs.length with h | h
  · congr 1; omega
  · rw [List.take_of_length_le h, List.take_of_length_le]; omega
theorem pk_from {α : Type} (xs : List α) (n : Nat) : pk (some (n : Int)) none xs = xs.drop n := by
  unfold pk
  simp only [sliceBounds, Option.getD_none, show (1 : Int) > 0 by decide, if_true]
  have h1 : ¬ ((n : Int) < 0) := by omega
  simp only [h1, if_false]
  rcases Nat.le_total n xs.length with h | h
  · have e : (max 0 (min (n : Int) (xs.length : Int))).toNat = n := by omega
    rw [e, List.take_of_length_le]; simp
  · rw [List.drop_of_length_le h, List.drop_of_length_le (by omega)]; simp
theorem pk_mid {α : Type} (xs : List α) (a b : Nat) : pk (some (a : Int)) (some (b : Int)) xs = (xs.drop a).take (b - a) := by
  unfold pk
  simp only [sliceBounds, Option.getD_none, show (1 : Int) > 0 by decide, if_true]
  have h1 : ¬ ((a : Int) < 0) := by omega
  have h2 : ¬ ((b : Int) < 0) := by omega
  simp only [h1, h2, if_false]
  rcases Nat.le_total a xs.length with h | h
  · have e : (max 0 (min (a : Int) (xs.length : Int))).toNat = a := by omega
    rw [e]
    rcases Nat.le_total b xs.length with h' | h'
    · congr 1; omega
    · rw [List.take_of_length_le, List.take_of_length_le] <;> simp <;> omega
  · rw [List.drop_of_length_le h, List.drop_of_length_le (by omega)]; simp
theorem pk_init {α : Type} (xs : List α) : pk none (some (-1)) xs = xs.dropLast := by
  unfold pk
  simp only [sliceBounds, Option.getD_none, show (1 : Int) > 0 by decide, if_true, show (-1 : Int) < 0 by decide, Int.toNat_zero, List.drop_zero, Nat.sub_zero]
  rw [List.dropLast_eq_take]
  congr 1
  omega

theorem zslice {value : Expr} {lower upper : Option Expr} {p pos : Pos} {Q : Value → Shared → Prop}
    (h : wpAny (model prog w) A (eval value env) (fun o s₁ => wpAny (model prog w) A (evalPart lower env) (fun vl s₂ => wpAny (model prog w) A (evalPart upper env) (fun vu s₃ =>
      ∃ a ds lo hi gi mu ls, o = .ref a ∧ Fz h₀ g₀ fx gi mu ls env.locals s₃.heap ∧ Has gi (.ref a) (.l ds) ∧ ds.length ≤ 10000 ∧ IsPart vl lo ∧ IsPart vu hi ∧
        ∀ c g' h', gi.le g' → Fz h₀ g₀ fx g' mu ls env.locals h' → Has g' (.ref c) (.l (pk lo hi ds)) → Q (.ref c) { s₃ with heap := h' }) E s₂) E s₁) E s)
    (ht : ∀ o r, letTemporaryGo value o r = pure () := by intro _ _; rfl) :
    wpAny (model prog w) A (eval (.Subscript value (.Slice lower upper none p) pos) env) Q E s := by
  refine wpAny_Subscript_list_slice (wpAny_mono h (fun o s₁ h₁ => wpAny_mono h₁ (fun vl s₂ h₂ => wpAny_mono h₂ (fun vu s₃ h₃ => ?_) fun _ _ e => e) fun _ _ e => e) fun _ _ e => e) ht
  obtain ⟨a, ds, lo, hi, gi, mu, ls, rfl, X, ha, hsz, pl, pu, hQ⟩ := h₃
  obtain ⟨vs, n, xa⟩ := ha.obj X.sub
  refine ⟨a, vs.toArray, lo, hi, rfl, xa.list, by rw [List.size_toArray, xa.all.1]; exact Nat.le_trans hsz (by decide), pl, pu, ?_⟩
  rw [slicePick_pk]
  obtain ⟨X1, _, le1⟩ := X.push { cls := .type "slice", data := .fields #[vl, vu, .none] } rfl
  obtain ⟨X2, e2, le2⟩ := X1.push { cls := .type "list", data := .seq (pk lo hi vs).toArray } rfl
  rw [Heap.size_push] at e2
  exact hQ _ _ _ (le1.trans le2) X2 (Has.ofList e2 ((xa.all.pk lo hi).mono (le1.trans le2)))

theorem ztruthy {a : Addr} {ds : List D} {Q : Bool → Shared → Prop} (X : Fz h₀ g₀ fx gi mu ls L s.heap) (ha : Has gi (.ref a) (.l ds)) (hf : ds.length < 2 ^ 62)
    (h : Q (!ds.isEmpty) { s with toks := s.toks + 1 + 1 }) : wpAny (model prog w) A (truthy (.ref a)) Q E s := by
  obtain ⟨vs, n, xa⟩ := ha.obj X.sub
  have e : vs.toArray.size = ds.length := by rw [List.size_toArray, xa.all.1]
  have e2 : vs.toArray.isEmpty = ds.isEmpty := by
    cases vs with
    | nil => cases ds with
      | nil => rfl
      | cons d r => exact absurd xa.all.1 (by simp)
    | cons v r => cases ds with
      | nil => exact absurd xa.all.1 (by simp)
      | cons d r => rfl
  exact wpAny_truthy_list xa.list (by rw [e]; omega) (by rw [e2]; exact h)

/-! mutable lists -/
theorem zappend {q : Addr} {v : Value} {d : D} {ds : List D} {mu' : List (Addr × MV)} {Q : Value → Shared → Prop} (X : Fz h₀ g₀ fx gi mu ls L s.heap) (hq : (q, MV.lst ds) ∈ mu) (hv : Has gi v d) (hsz : ds.length ≤ 10000)
    (hm : mu' = mu.map fun p => if p.1 = q then (q, .lst (ds ++ [d])) else p)
    (h : ∀ h', Fz h₀ g₀ fx gi mu' ls L h' → Q .none { s with heap := h' }) : wpAny (model prog w) A (call (.builtin "list.append") [.ref q, v]) Q E s := by
  obtain ⟨⟨vs, n, ho, ha⟩, _⟩ := X.mv _ _ hq
  refine wpAny_list_append_plain ⟨n, ho⟩ (fun h' hl hs => h h' (X.setMu hq hs (c' := .lst (ds ++ [d])) ?_ hm)) (by rw [List.size_toArray, ha.1]; exact Nat.le_trans hsz (by decide))
  obtain ⟨k, hk⟩ := hl
  refine ⟨vs ++ [v], k, by rw [hk]; simp, ha.append (.cons hv .nil)⟩
theorem ztruthyM {q : Addr} {ds : List D} {Q : Bool → Shared → Prop} (X : Fz h₀ g₀ fx gi mu ls L s.heap) (hq : (q, MV.lst ds) ∈ mu) (hf : ds.length < 2 ^ 62)
    (h : Q (!ds.isEmpty) { s with toks := s.toks + 1 + 1 }) : wpAny (model prog w) A (truthy (.ref q)) Q E s := by
  obtain ⟨⟨vs, n, ho, ha⟩, _⟩ := X.mv _ _ hq
  have e : vs.toArray.size = ds.length := by rw [List.size_toArray, ha.1]
  have e2 : vs.toArray.isEmpty = ds.isEmpty := by
    cases vs with
    | nil => cases ds with
      | nil => rfl
      | cons d r => exact absurd ha.1 (by simp)
    | cons v r => cases ds with
      | nil => exact absurd ha.1 (by simp)
      | cons d r => rfl
  exact wpAny_truthy_list ⟨_, ho, rfl, n, rfl⟩ (by rw [e]; omega) (by rw [e2]; exact h)
theorem zlastM {value slice : Expr} {q : Addr} {ds : List D} {d : D} {u : Tok} {Q : Value → Shared → Prop} (X : Fz h₀ g₀ fx gi mu ls L s.heap) (hq : (q, MV.lst ds) ∈ mu) (hd : ds.getLast? = some d) 
    (h : ∀ v, Has gi v d → Q v s) (hs : subscripted slice false (.ref q) (.int (-1) u) = operate [.ref q, .int (-1) u] (getItem (.ref q) (.int (-1) u)) := by with_unfolding_all rfl) :
    wpAny (model prog w) A (subscriptTail value slice (.ref q) (.int (-1) u)) Q E s := by
  obtain ⟨⟨vs, n, ho, ha⟩, _⟩ := X.mv _ _ hq
  have hl : s.heap.IsList q vs.toArray := ⟨_, ho, rfl, n, rfl⟩
  have hne : ds ≠ [] := by rintro rfl; cases hd
  have hpos : 0 < ds.length := List.length_pos_iff.mpr hne
  rw [List.getLast?_eq_getElem?] at hd
  obtain ⟨v, hv, hh⟩ := ha.get hd
  have e : (vs.toArray.size : Int) = ds.length := by rw [List.size_toArray, ha.1]
  refine tail_any hl.typeIs slot_list_getitem.lookup (wpAny_getItem_list_neg hl (by decide) (by rw [e]; omega) (by decide) ?_ (h v hh)) hs
  rw [e]
  have : ((-1 : Int) + (ds.length : Int)).toNat = ds.length - 1 := by omega
  rw [this]; simpa using hv
/-- xs.pop(), whose value is dropped or not -/
theorem zpop {q : Addr} {ds : List D} {d : D} {pos : Pos} {mu' : List (Addr × MV)} {Q : Value → Shared → Prop} (X : Fz h₀ g₀ fx gi mu ls L s.heap) (hq : (q, MV.lst (ds ++ [d])) ∈ mu) (hsz : ds.length ≤ 10000)
    (hm : mu' = mu.map fun p => if p.1 = q then (q, .lst ds) else p)
    (h : ∀ v h', Has gi v d → Fz h₀ g₀ fx gi mu' ls L h' → Q v { s with heap := h' }) : wpAny (model prog w) A (callWith pos (.builtin "list.pop") [.ref q] [] []) Q E s := by
  obtain ⟨⟨vs, n, ho, ha⟩, _⟩ := X.mv _ _ hq
  have hlen : vs.length = ds.length + 1 := by rw [ha.1]; simp
  have hd : (ds ++ [d])[ds.length]? = some d := by simp
  obtain ⟨v, hv, hh⟩ := ha.get hd
  refine seqMethod0_meets F.slot_list_pop F.entry_list_pop ⟨_, ho, rfl⟩ (F.args_list_pop_1 _) (MeetsSeq.list_pop_last q vs.toArray n v (by rw [List.size_toArray, hlen]; simpa using hv) (by simp only [List.size_toArray, hlen, sizeLine]; omega)) ⟨ho, ?_⟩
  refine h v _ hh (X.setMu hq (Heap.SameBut.update ..) (c' := .lst ds) ?_ hm)
  have e : Obj.mapSeq (fun xs => xs.eraseIdxIfInBounds (vs.toArray.size - 1)) { cls := .type "list", data := .seq vs.toArray n } = { cls := .type "list", data := .seq (vs.take ds.length).toArray (n + 1) } := by
    have e1 : vs.toArray.eraseIdxIfInBounds (vs.toArray.size - 1) = (vs.take ds.length).toArray := by
      have hs : vs.toArray.size - 1 = ds.length := by simp [hlen]
      rw [hs]
      simp only [Array.eraseIdxIfInBounds]
      rw [dif_pos (by simp [hlen])]
      simp only [List.eraseIdx_toArray]
      congr 1
      rw [List.eraseIdx_eq_take_drop_succ, List.drop_of_length_le (by omega)]; simp
    unfold Obj.mapSeq
    simp only [e1]
    have : ((vs.take ds.length).toArray.size == vs.toArray.size) = false := by simp [hlen]
    rw [this]; rfl
  refine ⟨vs.take ds.length, n + 1, ?_, ?_⟩
  · rw [Heap.get?_update_self _ ho (by rw [e]; rfl), e]
  · have := ha.take ds.length
    simpa using this
end
end Mine
end
section
open PySem PySem.W PySem.Calls PyProof.Rows
set_option Elab.async false
set_option maxRecDepth 100000
namespace Mine

/-- what an iterator hands out -/
structure Itr (prog : Program) (w : World) (A : Around) (s₀ s₁ : Shared) (gi : GH) (I : Addr) (ds : List D) where
  fp : List Addr
  wr : List Addr
  P : Nat → Value → Prop
  St : Nat → Heap → Prop
  W : Walks prog w A I fp wr ds.length P St
  has : ∀ i v, P i v → ∃ d, ds[i]? = some d ∧ Has gi v d
  st : St 0 s₁.heap
  new : ∀ b ∈ wr, s₀.heap.objs.size ≤ b ∧ b < s₁.heap.objs.size
  fix : ∀ b ∈ fp, b ∉ wr → ∃ o, gi b = some o
  live : ∀ i h, St i h → ∀ b ∈ wr, ∃ o, h.get? b = some o
  same : ∃ h' tk, s₁ = { s₀ with heap := h', toks := tk }
  ext : ∀ b o, s₀.heap.get? b = some o → s₁.heap.get? b = some o

/-- the value can be walked over -/
def Src (prog : Program) (w : World) (A : Around) (s : Shared) (gi : GH) (v : Value) (ds : List D) : Prop :=
  ∀ (Q : Value → Shared → Prop) (E : Value → Shared → Prop), (∀ I s₁, Nonempty (Itr prog w A s s₁ gi I ds) → Q (.ref I) s₁) → wpAny (model prog w) A (pyIter v) Q E s

section
variable {K : Params → Frag} {prog : Program} {w : World} {A : Around} {E : Value → Shared → Prop} {s : Shared} {h₀ : Heap} {g₀ fx gi : GH} {mu : List (Addr × MV)} {ls : List (Str × D)} {env : Env} {L : Addr}

theorem HasAll.at {g : GH} {vs : List Value} {ds : List D} (h : HasAll g vs ds) {i : Nat} {v : Value} (hv : vs[i]? = some v) : ∃ d, ds[i]? = some d ∧ Has g v d := by
  have hlt : i < vs.length := (List.getElem?_eq_some_iff.mp hv).1
  have hlt' : i < ds.length := h.1 ▸ hlt
  exact ⟨ds[i], List.getElem?_eq_getElem hlt', h.2 i v _ hv (List.getElem?_eq_getElem hlt')⟩

theorem srcList {a : Addr} {ds : List D} (hh : A.handled = none) (X : gi.le s.heap.get?) (ha : Has gi (.ref a) (.l ds)) : Src prog w A s gi (.ref a) ds := fun Q E h => by
  obtain ⟨vs, n, xa⟩ := ha.obj X
  have hne : a ≠ s.heap.objs.size := Nat.ne_of_lt (Heap.lt_size xa.ob)
  refine wpAny_pyIter_list xa.list (h _ _ ⟨?_⟩)
  have hn : vs.toArray.size = ds.length := by rw [List.size_toArray, xa.all.1]
  exact {
    fp := [s.heap.objs.size, a]
    wr := [s.heap.objs.size]
    P := fun i v => vs.toArray[i]? = some v
    St := fun i h => h.IsListIter s.heap.objs.size a i ∧ h.IsList a vs.toArray
    W := hn ▸ Walks.list hh _ a hne vs.toArray
    has := fun i v hv => xa.all.at (by simpa using hv)
    st := ⟨⟨_, Heap.get?_push_size _ rfl, rfl, rfl⟩, xa.list.push _⟩
    new := fun b hb => by rw [List.mem_singleton.mp hb]; exact ⟨Nat.le_refl _, by show _ < (s.heap.push _).objs.size; rw [Heap.size_push]; exact Nat.lt_succ_self _⟩
    fix := fun b hb hn => by
      rcases List.mem_cons.mp hb with rfl | hb
      · exact absurd (List.mem_singleton.mpr rfl) hn
      · rw [List.mem_singleton.mp hb]; exact xa.at_
    live := fun i h st b hb => by rw [List.mem_singleton.mp hb]; obtain ⟨⟨o, ho, _⟩, _⟩ := st; exact ⟨o, ho⟩
    same := ⟨_, _, rfl⟩
    ext := fun _ _ e => Heap.get?_push_of_some _ e }
theorem srcTuple {a : Addr} {ds : List D} (hh : A.handled = none) (X : gi.le s.heap.get?) (ha : Has gi (.ref a) (.t ds)) : Src prog w A s gi (.ref a) ds := fun Q E h => by
  obtain ⟨vs, n, xa⟩ := ha.objT X
  have hne : a ≠ s.heap.objs.size := Nat.ne_of_lt (Heap.lt_size xa.ob)
  have ht : s.heap.IsTuple a vs.toArray := ⟨_, xa.ob, rfl, n, rfl⟩
  refine wpAny_pyIter_tuple ht (h _ _ ⟨?_⟩)
  have hn : vs.toArray.size = ds.length := by rw [List.size_toArray, xa.all.1]
  exact {
    fp := [s.heap.objs.size, a]
    wr := [s.heap.objs.size]
    P := fun i v => vs.toArray[i]? = some v
    St := fun i h => h.IsTupleIter s.heap.objs.size a i ∧ h.IsTuple a vs.toArray
    W := hn ▸ Walks.tuple hh _ a hne vs.toArray
    has := fun i v hv => xa.all.at (by simpa using hv)
    st := ⟨⟨_, Heap.get?_push_size _ rfl, rfl, rfl⟩, ⟨_, Heap.get?_push_of_some _ xa.ob, rfl, n, rfl⟩⟩
    new := fun b hb => by rw [List.mem_singleton.mp hb]; exact ⟨Nat.le_refl _, by show _ < (s.heap.push _).objs.size; rw [Heap.size_push]; exact Nat.lt_succ_self _⟩
    fix := fun b hb hn => by
      rcases List.mem_cons.mp hb with rfl | hb
      · exact absurd (List.mem_singleton.mpr rfl) hn
      · rw [List.mem_singleton.mp hb]; exact xa.at_
    live := fun i h st b hb => by rw [List.mem_singleton.mp hb]; obtain ⟨⟨o, ho, _⟩, _⟩ := st; exact ⟨o, ho⟩
    same := ⟨_, _, rfl⟩
    ext := fun _ _ e => Heap.get?_push_of_some _ e }
theorem srcBytes {b : Array UInt8} {t : Tok} (hh : A.handled = none) : Src prog w A s gi (.bytes b t) (b.toList.map fun c => D.i (c.toNat : Int)) := fun Q E h => by
  refine KBw.pyIter_bytes (h _ _ ⟨?_⟩)
  exact {
    fp := [s.heap.objs.size]
    wr := [s.heap.objs.size]
    P := fun i v => ∃ c u, b[i]? = some c ∧ v = .int (c.toNat : Int) u
    St := fun i h => KBw.IsBytesIter h s.heap.objs.size b t i
    W := by have := KBw.walks (prog := prog) (w := w) hh s.heap.objs.size b t; simpa using this
    has := fun i v hv => by
      obtain ⟨c, u, hc, rfl⟩ := hv
      exact ⟨_, by rw [List.getElem?_map, Array.getElem?_toList, hc]; rfl, .i _ _⟩
    st := ⟨_, Heap.get?_push_size _ rfl, rfl, rfl⟩
    new := fun b hb => by rw [List.mem_singleton.mp hb]; exact ⟨Nat.le_refl _, by show _ < (s.heap.push _).objs.size; rw [Heap.size_push]; exact Nat.lt_succ_self _⟩
    fix := fun b hb hn => absurd hb hn
    live := fun i h st b hb => by rw [List.mem_singleton.mp hb]; obtain ⟨o, ho, _⟩ := st; exact ⟨o, ho⟩
    same := ⟨_, _, rfl⟩
    ext := fun _ _ e => Heap.get?_push_of_some _ e }
theorem srcRange {r : Addr} {a b c : Int} {t u v : Tok} {n : Nat} (hh : A.handled = none) (hr : IsRange s.heap r a b c t u v) (hsm : Builtin.Range.small a b c = true) (hn : Builtin.Range.rangeSize a b c = (n : Int)) :
    Src prog w A s gi (.ref r) ((List.range n).map fun (i : Nat) => D.i (a + (i : Int) * c)) := fun Q E h => by
  refine wpAny_pyIter_range hr hsm (h _ _ ⟨?_⟩)
  rw [hn]
  exact {
    fp := [s.heap.objs.size]
    wr := [s.heap.objs.size]
    P := fun i v => i < n ∧ ∃ t, v = .int (a + i * c) t
    St := fun i h => IsRangeIter h s.heap.objs.size (a + (i : Nat) * c) ((n : Int) - (i : Nat)) c
    W := by
      have W := Walks.range (prog := prog) (w := w) hh s.heap.objs.size a c n
      simp only [List.length_map, List.length_range]
      exact ⟨W.sub, W.frame, fun i s Q E hi st hQ => W.item i s Q E hi st fun v h' tk hp => hQ v h' tk ⟨hi, hp⟩, W.done, W.self⟩
    has := fun i v hv => by
      obtain ⟨hi, t, rfl⟩ := hv
      exact ⟨_, by rw [List.getElem?_map, List.getElem?_range hi]; rfl, .i _ _⟩
    st := by
      show (s.heap.push _).get? s.heap.objs.size = _
      rw [Heap.get?_push_size _ rfl]; simp
    new := fun b hb => by rw [List.mem_singleton.mp hb]; exact ⟨Nat.le_refl _, by show _ < (s.heap.push _).objs.size; rw [Heap.size_push]; exact Nat.lt_succ_self _⟩
    fix := fun b hb hn => absurd hb hn
    live := fun i h st b hb => by rw [List.mem_singleton.mp hb]; exact ⟨_, st⟩
    same := ⟨_, _, rfl⟩
    ext := fun _ _ e => Heap.get?_push_of_some _ e }

/-! for -/
def ForAt (prog : Program) (w : World) (A : Around) (env : Env) (x : Str) (px : Pos) (body : List Stmt) (Q : Flow → Shared → Prop) (v : Value) (s : Shared) : Prop :=
  wpAny (model prog w) A (pyIter v) (fun it s₂ => codeAny (model prog w) A (.forLoop (.Name x px) it body [] env) (fun r s' => match r with | .ok f => Q f s' | .error _ => False) s₂) (fun _ _ => False) s

theorem zFor {x : Str} {px pos : Pos} {iter : Expr} {body : List Stmt} {Q : Flow → Shared → Prop}
    (h : wpAny (model prog w) A (eval iter env) (ForAt prog w A env x px body Q) (fun _ _ => False) s) (hs : ∀ x, foldedSetIterable iter env x = pure x := by intro _; rfl) :
    wpAny (model prog w) A (exec (.For (.Name x px) iter body [] pos) env) Q (fun _ _ => False) s :=
  wpAny_For (wpAny_mono h (fun v s₁ h₁ => wpAny_mono h₁ (fun it s₂ h₂ => codeAny_mono h₂ fun r s' hr => match r, hr with | .ok _, hr => hr | .error _, hr => hr.elim) fun _ _ e => e) fun _ _ e => e) hs

def Turn {σ : Type} (s : Shared) (h₀ : Heap) (g₀ fx gi : GH) (L : Addr) (MU : σ → List (Addr × MV)) (LS : σ → List (Str × D)) (P : σ → Prop) (B : σ → Prop) (f : Flow) (s₂ : Shared) : Prop :=
  match f with
  | .next | .cont => ∃ c g', (∃ h tk, s₂ = { s with heap := h, toks := tk }) ∧ gi.le g' ∧ Fz h₀ g₀ fx g' (MU c) (LS c) L s₂.heap ∧ P c
  | .brk => ∃ c g', (∃ h tk, s₂ = { s with heap := h, toks := tk }) ∧ gi.le g' ∧ Fz h₀ g₀ fx g' (MU c) (LS c) L s₂.heap ∧ B c
  | .ret _ => False

theorem zfor {σ : Type} {v : Value} {ds : List D} {x : Str} {px : Pos} {body : List Stmt} {Q : Flow → Shared → Prop} (MU : σ → List (Addr × MV)) (LS : σ → List (Str × D)) (P : Nat → σ → Prop) (B : σ → Prop) (c₀ : σ)
    (X : Fz h₀ g₀ fx gi mu ls env.locals s.heap) (S : Src prog w A s gi v ds) (hm : mu = MU c₀) (hl : ∀ p ∈ LS c₀, ls.lookup p.1 = some p.2) (h0 : P 0 c₀)
    (turn : ∀ i d c g' fx' s₁, ds[i]? = some d → P i c → gi.le g' → Fz h₀ g₀ fx' g' (MU c) ((x, d) :: LS c) env.locals s₁.heap → (∃ h tk, s₁ = { s with heap := h, toks := tk }) →
      wpAny (model prog w) A (execs body env) (Turn s₁ h₀ g₀ fx' g' env.locals MU LS (P (i + 1)) B) (fun _ _ => False) s₁)
    (done : ∀ c g' s₁, P ds.length c ∨ B c → gi.le g' → Fz h₀ g₀ fx g' (MU c) (LS c) env.locals s₁.heap → (∃ h tk, s₁ = { s with heap := h, toks := tk }) → Q .next s₁)
    (hx : env.kindOf x = some .local := by rfl) (hp : (env.scope.kind == .class || (env.scope.kind == .module && env.locals != env.globals)) = false := by rfl) :
    ForAt prog w A env x px body Q v s := by
  unfold ForAt
  refine S _ _ fun I s₁ ⟨T⟩ => ?_
  obtain ⟨hs, tks, rfl⟩ := T.same
  have hwN : ∀ b ∈ T.wr, s.heap.get? b = none := fun b hb => by
    cases e : s.heap.get? b with
    | none => rfl
    | some o => exact absurd (Heap.lt_size e) (Nat.not_lt.mpr (T.new b hb).1)
  have hLw : env.locals ∉ T.wr := fun hm => absurd X.ltL (Nat.not_lt.mpr (T.new _ hm).1)
  have hfw : ∀ b ∈ T.wr, fx b = none := fun b hb => by
    cases e : fx b with
    | none => rfl
    | some o => have := X.keep b o e; rw [hwN b hb] at this; cases this
  have hgw : ∀ b ∈ T.wr, gi b = none := fun b hb => by
    cases e : gi b with
    | none => rfl
    | some o => have := X.sub b o e; rw [hwN b hb] at this; cases this
  have hmw : ∀ b ∈ T.wr, ∀ c, (b, c) ∉ mu := fun b hb c hm => by
    obtain ⟨a, _⟩ := X.mv b c hm
    obtain ⟨o, ho⟩ := a.live
    rw [hwN b hb] at ho; cases ho
  have X1 : Fz h₀ g₀ fx gi mu ls env.locals hs := X.away T.wr (fun b o hb e => T.ext b o e) fun b hb => ⟨fun e => hLw (e ▸ hb), hfw b hb, hgw b hb, hmw b hb⟩
  have X2 : Fz h₀ g₀ fx gi (MU c₀) (LS c₀) env.locals hs := hm ▸ X1.less (lessOf hl)
  have hwB : ∀ b ∈ T.wr, h₀.objs.size ≤ b := fun b hb => Nat.le_of_lt (Nat.lt_of_le_of_lt X.above (Nat.lt_of_lt_of_le X.ltL (T.new b hb).1))
  refine codeAny_forLoop (fun k s' => ∃ i c g', (∃ h tk, s' = { s with heap := h, toks := tk }) ∧ T.St i s'.heap ∧ P i c ∧ gi.le g' ∧ Fz h₀ g₀ fx g' (MU c) (LS c) env.locals s'.heap ∧ (∀ b ∈ T.wr, g' b = none ∧ ∀ e, (b, e) ∉ MU c) ∧ i ≤ ds.length ∧ k = ds.length + 1 - i) ?_ (ds.length + 1)
    ⟨0, c₀, gi, ⟨_, _, rfl⟩, T.st, h0, GH.le.refl _, X2, fun b hb => ⟨hgw b hb, fun e he => hmw b hb e (hm ▸ he)⟩, Nat.zero_le _, rfl⟩
  rintro k s' ⟨i, c, g', ⟨hh, tk, rfl⟩, hst, hP, hle, XX, hw, hi, rfl⟩
  by_cases hlt : i < ds.length
  · refine T.W.item i _ _ _ hlt hst fun v h₁ tk₁ hPv hst₁ hk₁ => ?_
    obtain ⟨d, hd, hhas⟩ := T.has i v hPv
    have X3 : Fz h₀ g₀ fx g' (MU c) (LS c) env.locals h₁ := XX.away T.wr hk₁ fun b hb => ⟨fun e => hLw (e ▸ hb), hfw b hb, hw b hb⟩
    have X5 := X3.hold (wr := T.wr) fun b hb => ⟨fun e => hLw (e ▸ hb), hwB b hb, hw b hb⟩
    have hle5 : fx.le (fun b => if b ∈ T.wr then h₁.get? b else fx b) := fun b o e => by
      show (if b ∈ T.wr then h₁.get? b else fx b) = some o
      rw [if_neg (fun hb => by rw [hfw b hb] at e; cases e)]; exact e
    have hin : ∀ b ∈ T.wr, (if b ∈ T.wr then h₁.get? b else fx b) = h₁.get? b := fun b hb => if_pos hb
    refine wpAny_assign_Name ?_
    refine wpAny_mono (E := fun _ _ => False) (zst (env := env) X5 (hhas.mono hle) (fun h₂ X4 => ?_) hx hp) (fun _ _ q => q) (fun _ _ e => e.elim)
    have hst₂ : T.St (i + 1) h₂ := T.W.frame _ _ _ hst₁ fun b hb o e => by
      by_cases hbw : b ∈ T.wr
      · exact X4.keep b o ((hin b hbw).trans e)
      · obtain ⟨o', ho'⟩ := T.fix b hb hbw
        have h1 := X3.sub b o' (hle b o' ho')
        rw [e] at h1
        cases h1
        exact X4.sub b o (hle b o ho')
    have back : ∀ c' g'' (s₂ : Shared), g'.le g'' → Fz h₀ g₀ (fun b => if b ∈ T.wr then h₁.get? b else fx b) g'' (MU c') (LS c') env.locals s₂.heap →
        Fz h₀ g₀ fx g'' (MU c') (LS c') env.locals s₂.heap ∧ T.St (i + 1) s₂.heap ∧ (∀ b ∈ T.wr, g'' b = none ∧ ∀ e, (b, e) ∉ MU c') := fun c' g'' s₂ le Y => by
      refine ⟨Y.narrow hle5 X.base, T.W.frame _ _ _ hst₁ fun b hb o e => ?_, fun b hb => ?_⟩
      · by_cases hbw : b ∈ T.wr
        · exact Y.keep b o ((hin b hbw).trans e)
        · obtain ⟨o', ho'⟩ := T.fix b hb hbw
          have h1 := X3.sub b o' (hle b o' ho')
          rw [e] at h1
          cases h1
          exact Y.sub b o (le b o (hle b o ho'))
      · obtain ⟨o, ho⟩ := T.live _ _ hst₁ b hb
        have hne : (if b ∈ T.wr then h₁.get? b else fx b) ≠ none := by rw [hin b hb, ho]; exact fun e => nomatch e
        exact ⟨Y.apart b (hwB b hb) hne, fun e hm => hne (Y.mv b e hm).2.2.1⟩
    refine wpAny_mono (turn i d c g' _ _ hd hP hle X4 ⟨_, _, rfl⟩) (fun f s₂ hf => ?_) fun _ _ e => e.elim
    cases f with
    | next =>
      obtain ⟨c', g'', ⟨h3, tk3, rfl⟩, le, Y, hP'⟩ := hf
      obtain ⟨y1, y2, y3⟩ := back c' g'' _ le Y
      exact ⟨ds.length + 1 - (i + 1), by omega, i + 1, c', g'', ⟨_, _, rfl⟩, y2, hP', hle.trans le, y1, y3, hlt, rfl⟩
    | cont =>
      obtain ⟨c', g'', ⟨h3, tk3, rfl⟩, le, Y, hP'⟩ := hf
      obtain ⟨y1, y2, y3⟩ := back c' g'' _ le Y
      exact ⟨ds.length + 1 - (i + 1), by omega, i + 1, c', g'', ⟨_, _, rfl⟩, y2, hP', hle.trans le, y1, y3, hlt, rfl⟩
    | brk =>
      obtain ⟨c', g'', ⟨h3, tk3, rfl⟩, le, Y, hB⟩ := hf
      obtain ⟨y1, y2, y3⟩ := back c' g'' _ le Y
      exact done c' g'' _ (.inr hB) (hle.trans le) y1 ⟨_, _, rfl⟩
    | ret v => exact hf.elim
  · have hin : i = ds.length := by omega
    subst hin
    refine T.W.done _ _ _ hst fun h₁ tk₁ hk₁ => wpAny_execs_nil ?_
    have X3 : Fz h₀ g₀ fx g' (MU c) (LS c) env.locals h₁ := XX.away T.wr hk₁ fun b hb => ⟨fun e => hLw (e ▸ hb), hfw b hb, hw b hb⟩
    exact done c g' _ (.inl hP) hle X3 ⟨_, _, rfl⟩
end
end Mine
end
section
open PySem PySem.W PySem.Calls PyProof.Rows
set_option Elab.async false
set_option maxRecDepth 100000
set_option maxHeartbeats 400000
namespace Mine

section
variable {K : Params → Frag} {prog : Program} {w : World} {A : Around} {E : Value → Shared → Prop} {s : Shared} {h₀ : Heap} {g₀ fx gi : GH} {mu : List (Addr × MV)} {ls : List (Str × D)} {env : Env} {L : Addr}

/-- another frame is looked at, the old one's locals held -/
theorem Fz.inner {h h' : Heap} {C : Addr} {m : Str → Option Value} {ls' : List (Str × D)} (X : Fz h₀ g₀ fx gi mu ls L h) (k : ∀ b o, h.get? b = some o → h'.get? b = some o) (hC : h.objs.size ≤ C) (n : h'.Ns C m) (r : ∀ x d, ls'.lookup x = some d → ∃ v, m x = some v ∧ Has gi v d) :
    Fz h₀ g₀ (fun b => if b = L then h.get? b else fx b) gi mu ls' C h' where
  ns := ⟨m, n, r⟩
  base := fun b o e => by
    show (if b = L then h.get? b else fx b) = some o
    rw [if_neg (fun z => by subst z; exact absurd (Heap.lt_size e) (Nat.not_lt.mpr X.above))]; exact X.base b o e
  keep := fun b o e => by
    have e' : (if b = L then h.get? b else fx b) = some o := e
    split at e'
    · exact k b o e'
    · exact k b o (X.keep b o e')
  offx := by
    show (if C = L then h.get? C else fx C) = none
    rw [if_neg (Nat.ne_of_gt (Nat.lt_of_lt_of_le X.ltL hC))]
    cases e : fx C with
    | none => rfl
    | some o => exact absurd (Heap.lt_size (X.keep _ _ e)) (Nat.not_lt.mpr hC)
  sub := fun b o e => k b o (X.sub b o e)
  off := by
    cases e : gi C with
    | none => rfl
    | some o => exact absurd (Heap.lt_size (X.sub _ _ e)) (Nat.not_lt.mpr hC)
  low := X.low
  above := Nat.le_trans X.above (Nat.le_trans (Nat.le_of_lt X.ltL) hC)
  apart := fun b hb hn => by
    by_cases hbL : b = L
    · rw [hbL]; exact X.off
    · have hn' : (if b = L then h.get? b else fx b) ≠ none := hn
      rw [if_neg hbL] at hn'
      exact X.apart b hb hn'
  mv := fun q c hm => by
    obtain ⟨a, b, cc, d, e⟩ := X.mv q c hm
    obtain ⟨o, ho⟩ := a.live
    refine ⟨a.mono (GH.le.refl _) fun o => k q o, fun z => ?_, ?_, d, e⟩
    · rw [z] at ho; exact absurd (Heap.lt_size ho) (Nat.not_lt.mpr hC)
    · show (if q = L then h.get? q else fx q) = none
      rw [if_neg b]; exact cc
  nd := X.nd
/-- and back again -/
theorem Fz.outer {h h' : Heap} {C : Addr} {g' : GH} {mu' : List (Addr × MV)} {ls' : List (Str × D)} (X : Fz h₀ g₀ fx gi mu ls L h) (le : gi.le g') (Y : Fz h₀ g₀ (fun b => if b = L then h.get? b else fx b) g' mu' ls' C h') : Fz h₀ g₀ fx g' mu' ls L h' where
  ns := by
    obtain ⟨m, n, r⟩ := X.ns
    refine ⟨m, n.at' fun o e => Y.keep L o ((if_pos rfl).trans e), fun x d e => ?_⟩
    obtain ⟨v, a, b⟩ := r x d e
    exact ⟨v, a, b.mono le⟩
  base := X.base
  keep := fun b o e => Y.keep b o (by
    show (if b = L then h.get? b else fx b) = some o
    rw [if_neg (fun z => by rw [z, X.offx] at e; cases e)]; exact e)
  offx := X.offx
  sub := Y.sub
  off := Y.apart L X.above (by
    show (if L = L then h.get? L else fx L) ≠ none
    rw [if_pos rfl]
    obtain ⟨m, n, r⟩ := X.ns
    obtain ⟨o, _, _, ho, _⟩ := n
    rw [ho]; exact fun e => nomatch e)
  low := Y.low
  above := X.above
  apart := fun b hb hn => Y.apart b hb (by
    show (if b = L then h.get? b else fx b) ≠ none
    rw [if_neg (fun z => hn (by rw [z]; exact X.offx))]; exact hn)
  mv := fun q c hm => by
    obtain ⟨a, b, cc, d, e⟩ := Y.mv q c hm
    have hq : q ≠ L := fun z => by
      rw [z] at cc
      have cc' : (if L = L then h.get? L else fx L) = none := cc
      rw [if_pos rfl] at cc'
      obtain ⟨m, n, r⟩ := X.ns
      obtain ⟨o, _, _, ho, _⟩ := n
      rw [ho] at cc'; cases cc'
    refine ⟨a, hq, ?_, d, e⟩
    have cc' : (if q = L then h.get? q else fx q) = none := cc
    rw [if_neg hq] at cc'; exact cc'
  nd := Y.nd

theorem notAt {q : Addr} {c : MV} {mu : List (Addr × MV)} {p : Addr × MV} (h : (((q, c) :: mu).map (·.1)).Nodup) (hp : p ∈ mu) : ¬ p.1 = q := by
  intro z
  rw [List.map_cons, List.nodup_cons] at h
  exact h.1 (List.mem_map.mpr ⟨p, hp, z⟩)
theorem take_succ_of {α : Type} {l : List α} {i : Nat} {d : α} (h : l[i]? = some d) : l.take (i + 1) = l.take i ++ [d] := by simp [List.take_add_one, h]

/-- a list comprehension of one clause -/
theorem zcore {x : Str} {px pos pos₂ : Pos} {elt iter : Expr} {ifs : List Expr} {scope : Scope} {cl : List (Str × Addr)} {use : Option (Value → Sem Unit)} {Q : Value → Shared → Prop} (p : D → Bool) (F : D → D)
    (hclos : closureFor scope env = pure cl) (hcell : ∀ y ∈ scope.names, y.2 ≠ .cell) (hkind : scope.kind = .function)
    (hnames : ∀ y ∈ scope.names, y.2 = .local → scope.names.lookup y.1 = some .local) (hx : scope.names.lookup x = some .local)
    (h : wpAny (model prog w) A (eval iter env) (fun v s₁ => ∃ gi mu ls ds, Fz h₀ g₀ fx gi mu ls env.locals s₁.heap ∧ Src prog w A s₁ gi v ds ∧ ds.length ≤ 10000 ∧
      (∀ (i : Nat) (d : D) (C : Addr) (g' fx' : GH) (mu' : List (Addr × MV)) (s₂ : Shared), ds[i]? = some d → gi.le g' → Fz h₀ g₀ fx' g' mu' [(x, d)] C s₂.heap → (∀ q ∈ mu, q ∈ mu') →
        wpAny (model prog w) A (forIn ifs true fun c r => if r = true then do let ok ← isTrue c (compEnvC scope cl C env) (eval c (compEnvC scope cl C env)); pure (ForInStep.yield ok) else pure (ForInStep.yield r))
          (fun ok s₃ => ok = p d ∧ (∃ h tk, s₃ = { s₂ with heap := h, toks := tk }) ∧ ∃ g'', g'.le g'' ∧ Fz h₀ g₀ fx' g'' mu' [(x, d)] C s₃.heap) (fun _ _ => False) s₂) ∧
      (∀ (i : Nat) (d : D) (C : Addr) (g' fx' : GH) (mu' : List (Addr × MV)) (s₂ : Shared), ds[i]? = some d → p d = true → gi.le g' → Fz h₀ g₀ fx' g' mu' [(x, d)] C s₂.heap → (∀ q ∈ mu, q ∈ mu') →
        wpAny (model prog w) A (eval elt (compEnvC scope cl C env))
          (fun y s₃ => (∃ h tk, s₃ = { s₂ with heap := h, toks := tk }) ∧ ∃ g'', g'.le g'' ∧ Fz h₀ g₀ fx' g'' mu' [(x, d)] C s₃.heap ∧ Has g'' y (F d)) (fun _ _ => False) s₂) ∧
      (∀ a g' h' tk C, gi.le g' → Fz h₀ g₀ fx g' mu ls env.locals h' → Has g' (.ref a) (.l ((ds.filter p).map F)) → (C ≠ env.locals ∧ fx C = none ∧ g' C = none ∧ ∀ c, (C, c) ∉ mu) → (∃ m, h'.Ns C m) →
        compPost (model prog w) A (fun _ _ => False) use Q (.ref a) C (.ok .next) { s₁ with heap := h', toks := tk })) (fun _ _ => False) s)
    (hs : ∀ x, foldedSetIterable iter env x = pure x := by intro _; rfl) :
    wpAny (model prog w) A (comprehension (.ListComp elt [⟨.Name x px, iter, ifs, 0⟩] scope pos) scope env pos₂ (newList []) false (eval iter env) use) Q (fun _ _ => False) s := by
  refine wpAny_comprehension_free (use := use) rfl hs hclos hkind hnames (wpAny_mono h (fun v s₁ h₁ => ?_) fun _ _ e => e)
  obtain ⟨gi, mu, ls, ds, X, S, hsz, htest, helt, hQ⟩ := h₁
  refine S _ _ fun I s₂ ⟨T⟩ => ?_
  obtain ⟨hh2, tk2, rfl⟩ := T.same
  refine wpAny_newObj_type (wpAny_newFunctionEnv hcell (by intro y hy; simp at hy) (fun h₁ hns₁ hsb₁ => ?_) hkind)
  dsimp only at hns₁ hsb₁ ⊢
  generalize hH2 : hh2.push { cls := .type "list", dict := none, data := .seq ([] : List Value).toArray } = H2 at hns₁ hsb₁ ⊢
  have hC : H2.objs.size = hh2.objs.size + 1 := by rw [← hH2, Heap.size_push]
  -- the outer frame over the heap with the iterator and the new list
  have hwN : ∀ b ∈ T.wr, s₁.heap.get? b = none := fun b hb => by
    cases e : s₁.heap.get? b with
    | none => rfl
    | some o => exact absurd (Heap.lt_size e) (Nat.not_lt.mpr (T.new b hb).1)
  have hLw : env.locals ∉ T.wr := fun hm => absurd X.ltL (Nat.not_lt.mpr (T.new _ hm).1)
  have hfw : ∀ b ∈ T.wr, fx b = none := fun b hb => by
    cases e : fx b with
    | none => rfl
    | some o => have := X.keep b o e; rw [hwN b hb] at this; cases this
  have hgw : ∀ b ∈ T.wr, gi b = none := fun b hb => by
    cases e : gi b with
    | none => rfl
    | some o => have := X.sub b o e; rw [hwN b hb] at this; cases this
  have hmw : ∀ b ∈ T.wr, ∀ c, (b, c) ∉ mu := fun b hb c hm => by
    obtain ⟨a, _⟩ := X.mv b c hm
    obtain ⟨o, ho⟩ := a.live
    rw [hwN b hb] at ho; cases ho
  have X1 : Fz h₀ g₀ fx gi mu ls env.locals hh2 := X.away T.wr (fun b o hb e => T.ext b o e) fun b hb => ⟨fun e => hLw (e ▸ hb), hfw b hb, hgw b hb, hmw b hb⟩
  have X2 : Fz h₀ g₀ fx gi ((hh2.objs.size, .lst []) :: mu) ls env.locals H2 := hH2 ▸ X1.newMu (vs := []) (n := 0) .nil
  have old : ∀ b o, H2.get? b = some o → h₁.get? b = some o := fun b o e => hsb₁.extBut b o (Nat.ne_of_lt (Heap.lt_size e)) (Heap.get?_push_of_some _ e)
  have X3 : Fz h₀ g₀ (fun b => if b = env.locals then H2.get? b else fx b) gi ((hh2.objs.size, .lst []) :: mu) [] H2.objs.size h₁ := X2.inner old (Nat.le_refl _) hns₁ (fun x d e => by cases e)
  have hold : ∀ b o, hh2.get? b = some o → h₁.get? b = some o := fun b o e => old b o (hH2 ▸ Heap.get?_push_of_some _ e)
  have hst₁ : T.St 0 h₁ := T.W.frame _ _ _ T.st fun b _ o e => hold b o e
  have hwB : ∀ b ∈ T.wr, h₀.objs.size ≤ b := fun b hb => Nat.le_of_lt (Nat.lt_of_le_of_lt X.above (Nat.lt_of_lt_of_le X.ltL (T.new b hb).1))
  have hwC : ∀ b ∈ T.wr, b ≠ H2.objs.size ∧ b ≠ hh2.objs.size := fun b hb => by have := (T.new b hb).2; exact ⟨by rw [hC]; exact Nat.ne_of_lt (Nat.lt_succ_of_lt this), Nat.ne_of_lt this⟩
  have hw0 : ∀ b ∈ T.wr, gi b = none ∧ ∀ e, (b, e) ∉ (hh2.objs.size, MV.lst []) :: mu := fun b hb => ⟨hgw b hb, fun e hm => by
    rcases List.mem_cons.mp hm with z | z
    · exact (hwC b hb).2 (congrArg Prod.fst z)
    · exact hmw b hb e z⟩
  generalize hfx1 : (fun b => if b = env.locals then H2.get? b else fx b : GH) = fx1 at X3
  have hfw1 : ∀ b ∈ T.wr, fx1 b = none := fun b hb => by
    rw [← hfx1]
    show (if b = env.locals then H2.get? b else fx b) = none
    rw [if_neg (show ¬ b = env.locals from fun z => hLw (z ▸ hb))]; exact hfw b hb
  generalize hD : hh2.objs.size = Dq at X2 X3 hw0 ⊢
  generalize hCC : H2.objs.size = C at X3 hwC ⊢
  have muU : ∀ acc acc' : List D, (Dq, MV.lst acc') :: mu = ((Dq, MV.lst acc) :: mu).map fun p => if p.1 = Dq then (Dq, .lst acc') else p := fun acc acc' => by
    rw [List.map_cons, if_pos rfl]
    congr 1
    have hnd := X2.nd
    have : ∀ p ∈ mu, (fun p : Addr × MV => if p.1 = Dq then (Dq, MV.lst acc') else p) p = id p := fun p hp => by
      show (if p.1 = Dq then (Dq, MV.lst acc') else p) = p
      rw [if_neg (notAt hnd hp)]
    rw [List.map_congr_left this, List.map_id]
  have fin : ∀ (g' : GH) (h' : Heap) tk, gi.le g' → Fz h₀ g₀ fx1 g' ((Dq, .lst ((ds.filter p).map F)) :: mu) [] C h' → compPost (model prog w) A (fun _ _ => False) use Q (.ref Dq) C (.ok .next) { s₁ with heap := h', toks := tk } := fun g' h' tk le Y => by
    have hns : ∃ m, h'.Ns C m := let ⟨m, n, _⟩ := Y.ns; ⟨m, n⟩
    obtain ⟨g2, le2, hv, Z⟩ := Y.freeze (.head _)
    have emu : ((Dq, MV.lst ((ds.filter p).map F)) :: mu).filter (fun p => p.1 != Dq) = mu := by
      have hnd := X2.nd
      rw [List.filter_cons_of_neg (by simp), List.filter_eq_self]
      intro p hp
      simp only [bne_iff_ne, ne_eq]
      exact notAt hnd hp
    rw [emu] at Z
    rw [← hfx1] at Z
    have ZZ := X2.outer (mu' := mu) (le.trans le2) Z
    refine hQ Dq g2 h' tk C (le.trans le2) ZZ hv ⟨?_, ?_, Z.off, fun c hm => (Z.mv C c hm).2.1 rfl⟩ hns
    · rw [← hCC]; exact Nat.ne_of_gt X2.ltL
    · have := Z.offx
      have h2 : (if C = env.locals then H2.get? C else fx C) = none := this
      rw [if_neg (by rw [← hCC]; exact Nat.ne_of_gt X2.ltL)] at h2; exact h2
  have loop : ∀ s₃ : Shared, s₃ = { s₁ with heap := h₁, toks := tk2 + ([] : List (Str × Value)).length } →
      codeAny (model prog w) A (.compLoop (.ListComp elt [⟨.Name x px, iter, ifs, 0⟩] scope pos) 0 (.ref I) (.ref Dq) (compEnvC scope cl C env)) (compPost (model prog w) A (fun _ _ => False) use Q (.ref Dq) C) s₃ := by
    rintro s₃ rfl
    refine codeAny_compLoop_tests (fun k s' => ∃ i g', (∃ h tk, s' = { s₁ with heap := h, toks := tk }) ∧ T.St i s'.heap ∧ gi.le g' ∧ Fz h₀ g₀ fx1 g' ((Dq, .lst (((ds.take i).filter p).map F)) :: mu) [] C s'.heap ∧
      (∀ b ∈ T.wr, g' b = none ∧ ∀ e, (b, e) ∉ (Dq, MV.lst (((ds.take i).filter p).map F)) :: mu) ∧ i ≤ ds.length ∧ k = ds.length + 1 - i) ?_ (ds.length + 1) ⟨0, gi, ⟨_, _, rfl⟩, hst₁, GH.le.refl _, by simpa using X3, by simpa using hw0, Nat.zero_le _, rfl⟩
    rintro k s' ⟨i, g', ⟨hh, tk, rfl⟩, hst, hle, XX, hw, hi, rfl⟩
    by_cases hlt : i < ds.length
    · refine T.W.item i _ _ _ hlt hst fun v h₂ tk₂ hPv hst₂ hk₂ => ?_
      obtain ⟨d, hd, hhas⟩ := T.has i v hPv
      have X4 : Fz h₀ g₀ fx1 g' ((Dq, .lst (((ds.take i).filter p).map F)) :: mu) [] C h₂ := XX.away T.wr hk₂ fun b hb => ⟨(hwC b hb).1, hfw1 b hb, hw b hb⟩
      have X5 := X4.hold (wr := T.wr) fun b hb => ⟨(hwC b hb).1, hwB b hb, hw b hb⟩
      have hle5 : GH.le fx1 (fun b => if b ∈ T.wr then h₂.get? b else fx1 b) := fun b o e => by
        show (if b ∈ T.wr then h₂.get? b else fx1 b) = some o
        rw [if_neg (fun hb => by rw [hfw1 b hb] at e; cases e)]; exact e
      have hin : ∀ b ∈ T.wr, (if b ∈ T.wr then h₂.get? b else fx1 b) = h₂.get? b := fun b hb => if_pos hb
      refine wpAny_assign_Name ?_
      refine wpAny_mono (E := fun _ _ => False) (zst (env := compEnvC scope cl C env) X5 (hhas.mono hle) (fun h₃ X6 => ?_) (lookup_relabel_local hx) (by simp [compEnvC, relabel, hkind])) (fun _ _ q => q) (fun _ _ e => e.elim)
      have hst₃ : ∀ g'' (h₄ : Heap) mu₄ ls₄, g'.le g'' → Fz h₀ g₀ (fun b => if b ∈ T.wr then h₂.get? b else fx1 b) g'' mu₄ ls₄ C h₄ → T.St (i + 1) h₄ := fun g'' h₄ mu₄ ls₄ le Y => T.W.frame _ _ _ hst₂ fun b hb o e => by
        by_cases hbw : b ∈ T.wr
        · exact Y.keep b o ((hin b hbw).trans e)
        · obtain ⟨o', ho'⟩ := T.fix b hb hbw
          have h1 := X4.sub b o' (hle b o' ho')
          rw [e] at h1
          cases h1
          exact Y.sub b o (le b o (hle b o ho'))
      have wrs : ∀ g'' (h₄ : Heap) mu₄ ls₄, Fz h₀ g₀ (fun b => if b ∈ T.wr then h₂.get? b else fx1 b) g'' mu₄ ls₄ C h₄ → ∀ b ∈ T.wr, g'' b = none ∧ ∀ e, (b, e) ∉ mu₄ := fun g'' h₄ mu₄ ls₄ Y b hb => by
        obtain ⟨o, ho⟩ := T.live _ _ hst₂ b hb
        have hne : (if b ∈ T.wr then h₂.get? b else fx1 b) ≠ none := by rw [hin b hb, ho]; exact fun e => nomatch e
        exact ⟨Y.apart b (hwB b hb) hne, fun e hm => hne (Y.mv b e hm).2.2.1⟩
      refine wpAny_mono (htest i d C g' _ _ _ hd hle X6 fun q hq => .tail _ hq) (fun ok s₄ h₄ => ?_) fun _ _ e => e.elim
      obtain ⟨rfl, ⟨h4, tk4, rfl⟩, g4, le4, Y4⟩ := h₄
      cases hp : p d with
      | false =>
        simp only [Bool.false_eq_true, if_false]
        have e : ((ds.take (i + 1)).filter p).map F = ((ds.take i).filter p).map F := by rw [take_succ_of hd, List.filter_append]; simp [hp]
        refine ⟨ds.length + 1 - (i + 1), by omega, i + 1, g4, ⟨_, _, rfl⟩, hst₃ _ _ _ _ le4 Y4, hle.trans le4, ?_, ?_, hlt, rfl⟩
        · rw [e]; exact (Y4.narrow hle5 X4.base).less (ls' := []) fun x d q => by cases q
        · rw [e]; exact wrs _ _ _ _ Y4
      | true =>
        simp only [if_true]
        refine wpAny_mono (helt i d C g4 _ _ _ hd hp (hle.trans le4) Y4 fun q hq => .tail _ hq) (fun y s₅ h₅ => ?_) fun _ _ e => e.elim
        obtain ⟨⟨h5, tk5, rfl⟩, g5, le5, Y5, hy⟩ := h₅
        have e : ((ds.take (i + 1)).filter p).map F = ((ds.take i).filter p).map F ++ [F d] := by rw [take_succ_of hd, List.filter_append]; simp [hp]
        refine zappend Y5 (.head _) hy ?_ (muU _ (((ds.take i).filter p).map F ++ [F d])) fun h6 Y6 => ?_
        · rw [List.length_map]
          exact Nat.le_trans (List.length_filter_le _ _) (Nat.le_trans (List.length_take_le' _ _) hsz)
        · refine ⟨ds.length + 1 - (i + 1), by omega, i + 1, g5, ⟨_, _, rfl⟩, hst₃ _ _ _ _ (le4.trans le5) Y6, hle.trans (le4.trans le5), ?_, ?_, hlt, rfl⟩
          · rw [e]; exact (Y6.narrow hle5 X4.base).less (ls' := []) fun x d q => by cases q
          · rw [e]; exact wrs _ _ _ _ Y6
    · have hin : i = ds.length := by omega
      subst hin
      refine T.W.done _ _ _ hst fun h₂ tk₂ hk₂ => ?_
      have X4 : Fz h₀ g₀ fx1 g' ((Dq, .lst (((ds.take ds.length).filter p).map F)) :: mu) [] C h₂ := XX.away T.wr hk₂ fun b hb => ⟨(hwC b hb).1, hfw1 b hb, hw b hb⟩
      rw [List.take_length] at X4
      exact fin g' h₂ _ hle X4
  exact codeAny_compStart_list (loop _ rfl) (T.W.self 0 _ _ _ hst₁ (loop _ rfl))
/-- a list comprehension of one clause -/
theorem zcomp {x : Str} {px pos : Pos} {elt iter : Expr} {ifs : List Expr} {scope : Scope} {cl : List (Str × Addr)} {Q : Value → Shared → Prop} (p : D → Bool) (F : D → D)
    (hclos : closureFor scope env = pure cl) (hcell : ∀ y ∈ scope.names, y.2 ≠ .cell) (hkind : scope.kind = .function)
    (hnames : ∀ y ∈ scope.names, y.2 = .local → scope.names.lookup y.1 = some .local) (hx : scope.names.lookup x = some .local)
    (h : wpAny (model prog w) A (eval iter env) (fun v s₁ => ∃ gi mu ls ds, Fz h₀ g₀ fx gi mu ls env.locals s₁.heap ∧ Src prog w A s₁ gi v ds ∧ ds.length ≤ 10000 ∧
      (∀ (i : Nat) (d : D) (C : Addr) (g' fx' : GH) (mu' : List (Addr × MV)) (s₂ : Shared), ds[i]? = some d → gi.le g' → Fz h₀ g₀ fx' g' mu' [(x, d)] C s₂.heap → (∀ q ∈ mu, q ∈ mu') →
        wpAny (model prog w) A (forIn ifs true fun c r => if r = true then do let ok ← isTrue c (compEnvC scope cl C env) (eval c (compEnvC scope cl C env)); pure (ForInStep.yield ok) else pure (ForInStep.yield r))
          (fun ok s₃ => ok = p d ∧ (∃ h tk, s₃ = { s₂ with heap := h, toks := tk }) ∧ ∃ g'', g'.le g'' ∧ Fz h₀ g₀ fx' g'' mu' [(x, d)] C s₃.heap) (fun _ _ => False) s₂) ∧
      (∀ (i : Nat) (d : D) (C : Addr) (g' fx' : GH) (mu' : List (Addr × MV)) (s₂ : Shared), ds[i]? = some d → p d = true → gi.le g' → Fz h₀ g₀ fx' g' mu' [(x, d)] C s₂.heap → (∀ q ∈ mu, q ∈ mu') →
        wpAny (model prog w) A (eval elt (compEnvC scope cl C env))
          (fun y s₃ => (∃ h tk, s₃ = { s₂ with heap := h, toks := tk }) ∧ ∃ g'', g'.le g'' ∧ Fz h₀ g₀ fx' g'' mu' [(x, d)] C s₃.heap ∧ Has g'' y (F d)) (fun _ _ => False) s₂) ∧
      (∀ a g' h' tk, gi.le g' → Fz h₀ g₀ fx g' mu ls env.locals h' → Has g' (.ref a) (.l ((ds.filter p).map F)) → Q (.ref a) { s₁ with heap := h', toks := tk })) (fun _ _ => False) s)
    (hs : ∀ x, foldedSetIterable iter env x = pure x := by intro _; rfl) :
    wpAny (model prog w) A (eval (.ListComp elt [⟨.Name x px, iter, ifs, 0⟩] scope pos) env) Q (fun _ _ => False) s := by
  rw [eval_ListComp]
  refine zcore (h₀ := h₀) (g₀ := g₀) (fx := fx) (use := none) p F hclos hcell hkind hnames hx (wpAny_mono h (fun v s₁ h₁ => ?_) fun _ _ e => e) hs
  obtain ⟨gi, mu, ls, ds, X, S, hsz, htest, helt, hQ⟩ := h₁
  refine ⟨gi, mu, ls, ds, X, S, hsz, htest, helt, fun a g' h' tk C le Z hv hC hn => ?_⟩
  obtain ⟨m, n⟩ := hn
  refine ⟨m, n, fun h'' hs'' => hQ a g' h'' tk le (Z.away [C] (fun b o hb e => hs''.extBut b o (fun z => hb (by simp [z])) e) fun b hb => ?_) hv⟩
  rw [List.mem_singleton.mp hb]
  exact hC
/-- a store of a list comprehension -/
theorem zcompA {x y : Str} {px py pos spos : Pos} {elt iter : Expr} {ifs : List Expr} {scope : Scope} {cl : List (Str × Addr)} {Q : Flow → Shared → Prop} (p : D → Bool) (F : D → D)
    (hclos : closureFor scope env = pure cl) (hcell : ∀ y ∈ scope.names, y.2 ≠ .cell) (hkind : scope.kind = .function)
    (hnames : ∀ y ∈ scope.names, y.2 = .local → scope.names.lookup y.1 = some .local) (hx : scope.names.lookup x = some .local)
    (h : wpAny (model prog w) A (eval iter env) (fun v s₁ => ∃ gi mu ls ds, Fz h₀ g₀ fx gi mu ls env.locals s₁.heap ∧ Src prog w A s₁ gi v ds ∧ ds.length ≤ 10000 ∧
      (∀ (i : Nat) (d : D) (C : Addr) (g' fx' : GH) (mu' : List (Addr × MV)) (s₂ : Shared), ds[i]? = some d → gi.le g' → Fz h₀ g₀ fx' g' mu' [(x, d)] C s₂.heap → (∀ q ∈ mu, q ∈ mu') →
        wpAny (model prog w) A (forIn ifs true fun c r => if r = true then do let ok ← isTrue c (compEnvC scope cl C env) (eval c (compEnvC scope cl C env)); pure (ForInStep.yield ok) else pure (ForInStep.yield r))
          (fun ok s₃ => ok = p d ∧ (∃ h tk, s₃ = { s₂ with heap := h, toks := tk }) ∧ ∃ g'', g'.le g'' ∧ Fz h₀ g₀ fx' g'' mu' [(x, d)] C s₃.heap) (fun _ _ => False) s₂) ∧
      (∀ (i : Nat) (d : D) (C : Addr) (g' fx' : GH) (mu' : List (Addr × MV)) (s₂ : Shared), ds[i]? = some d → p d = true → gi.le g' → Fz h₀ g₀ fx' g' mu' [(x, d)] C s₂.heap → (∀ q ∈ mu, q ∈ mu') →
        wpAny (model prog w) A (eval elt (compEnvC scope cl C env))
          (fun y s₃ => (∃ h tk, s₃ = { s₂ with heap := h, toks := tk }) ∧ ∃ g'', g'.le g'' ∧ Fz h₀ g₀ fx' g'' mu' [(x, d)] C s₃.heap ∧ Has g'' y (F d)) (fun _ _ => False) s₂) ∧
      (∀ (a : Addr) (g' : GH) (h' : Heap) (tk : Nat), gi.le g' → Fz h₀ g₀ fx g' mu ((y, .l ((ds.filter p).map F)) :: ls) env.locals h' → Q .next { s₁ with heap := h', toks := tk })) (fun _ _ => False) s)
    (hsw : swapsWith (.ListComp elt [⟨.Name x px, iter, ifs, 0⟩] scope pos) (some (.Name y py)) spos.line env = pure true)
    (hy : env.kindOf y = some .local) (hp : (env.scope.kind == .class || (env.scope.kind == .module && env.locals != env.globals)) = false)
    (hs : ∀ x, foldedSetIterable iter env x = pure x := by intro _; rfl) :
    wpAny (model prog w) A (exec (.Assign [.Name y py] (.ListComp elt [⟨.Name x px, iter, ifs, 0⟩] scope pos) spos) env) Q (fun _ _ => False) s := by
  rw [exec_Assign_Name_used _ _ _ _ hsw]
  refine wpAny_bind (wpAny_standAt (wpAny_bind ?_))
  show wpAny _ A (do let _ ← comprehension (.ListComp elt [⟨.Name x px, iter, ifs, 0⟩] scope pos) scope env _ (newList []) false (eval iter env) (some (assign (.Name y py) env))) _ _ s
  refine wpAny_bind (wpAny_mono (zcore (h₀ := h₀) (g₀ := g₀) (fx := fx) (use := some (assign (.Name y py) env)) (Q := fun _ s' => Q .next s') p F hclos hcell hkind hnames hx (wpAny_mono h (fun v s₁ h₁ => ?_) fun _ _ e => e) hs) (fun _ s' hq => wpAny_pure (wpAny_pure hq)) fun _ _ e => e)
  obtain ⟨gi, mu, ls, ds, X, S, hsz, htest, helt, hQ⟩ := h₁
  refine ⟨gi, mu, ls, ds, X, S, hsz, htest, helt, fun a g' h' tk C le Z hv hC hn => ?_⟩
  obtain ⟨m, n⟩ := hn
  show wpAny _ A (assign (.Name y py) env (.ref a)) _ _ _
  obtain ⟨m2, n2, r2⟩ := Z.ns
  refine wpAny_assign_Name (wpAny_storeName_local hy n2 (fun h₂ hn₂ hs₂ => ?_) hp)
  have Z2 := Z.store (fun _ => hn₂) hs₂ n2 r2 hv
  refine ⟨m, n.sameBut hs₂ hC.1, fun h'' hs'' => hQ a g' h'' _ le (Z2.away [C] (fun b o hb e => hs''.extBut b o (fun z => hb (by simp [z])) e) fun b hb => ?_)⟩
  rw [List.mem_singleton.mp hb]
  exact hC
end
end Mine
end
section
open PySem PySem.W PySem.Calls PyProof.Rows
set_option Elab.async false
set_option maxRecDepth 100000
namespace Mine

/-- a text of signs by their numbers -/
def S (l : List Nat) : Str := ⟨l.toArray⟩
def sgn (n : Nat) : Nat := if n < 26 then 65 + n else if n < 52 then 71 + n else if n < 62 then n - 4 else if n = 62 then 42 else if n = 63 then 63 else 61

theorem lookup_rev {x : Str} : ∀ {bs : List (Str × Value)}, (bs.map (·.1)).Nodup → bs.reverse.lookup x = bs.lookup x
  | [], _ => rfl
  | (y, v) :: r, h => by
    rw [List.map_cons, List.nodup_cons] at h
    rw [List.reverse_cons, List.lookup_append, lookup_rev h.2, List.lookup_cons]
    cases hx : x == y with
    | false => simp [List.lookup_cons, hx]
    | true =>
      have : r.lookup x = none := by
        rw [List.lookup_eq_none_iff]
        intro q hq
        have e := eq_of_beq hx
        cases hxq : x == q.1 with
        | false => simp [bne, hxq]
        | true => exact absurd (List.mem_map.mpr ⟨q, hq, (eq_of_beq hxq).symm.trans e⟩) h.1
      simp [this, List.lookup_cons, hx]
/-- the bound names hold the data -/
inductive Binds (g : GH) : List (Str × Value) → List (Str × D) → Prop
  | nil : Binds g [] []
  | cons {x : Str} {v : Value} {d : D} {bs : List (Str × Value)} {ls : List (Str × D)} : Has g v d → Binds g bs ls → Binds g ((x, v) :: bs) ((x, d) :: ls)
theorem Binds.lookup {g : GH} {bs : List (Str × Value)} {ls : List (Str × D)} (h : Binds g bs ls) {x : Str} {d : D} (e : ls.lookup x = some d) : ∃ v, bs.lookup x = some v ∧ Has g v d := by
  induction h with
  | nil => cases e
  | @cons y v d' bs ls hv _ ih =>
    rw [List.lookup_cons] at e ⊢
    cases hx : x == y with
    | true => rw [hx] at e; cases e; exact ⟨v, rfl, hv⟩
    | false => rw [hx] at e; exact ih e

section
variable {K : Params → Frag} {prog : Program} {w : World} {A : Around} {E : Value → Shared → Prop} {s : Shared}
theorem call_fz (g : GH) (binds : List (Str × Value)) (ls : List (Str × D)) {name qual : Str} {params : Arguments} {body : List Stmt} {scope : Scope} {dV kV doc pm cdv ct oc : Value} {an od : Option Addr} {osl : Array (Option Value)} {f : Addr} {pos : List Value} {kw : List (Str × Value)} {Q : Value → Shared → Prop}
    (G : Gl K w s.heap) (hg : g.le s.heap.get?) (hb : Binds g binds ls) (ho : (K w.params).lookup f = some ⟨oc, od, .func (fnOf name qual params body scope dV kV doc pm an cdv ct), osl⟩) (hcd : codeIn (K w.params) cdv qual = true) (hroom : A.depth < recursionLimit)
    (hbind : BindsTo s (fnOf name qual params body scope dV kV doc pm an cdv ct) ⟨pos, kw⟩ binds) (hloc : ∀ y ∈ binds, scope.names.lookup y.1 = some .local) (hnd : (binds.map (·.1)).Nodup)
    (h : ∀ h₁ tk, Gl K w s.heap → Fz s.heap g s.heap.get? g [] ls s.heap.objs.size h₁ →
      wpAny (model prog w) (A.deeper (envOf qual scope s.heap.objs.size f cdv)) (execs body (envOf qual scope s.heap.objs.size f cdv))
        (fun fl s' => Q (match fl with | .ret v => v | _ => .none) s') (fun _ _ => False) { s with heap := h₁, toks := tk })
    (hco : scope.isCoroutine = false) (hgen : scope.isGenerator = false) (hk : scope.kind = .function) (hcell : ∀ x ∈ scope.names, x.2 ≠ .cell) :
    wpAny (model prog w) A (call (.ref f) pos kw) Q E s :=
  call_fn G ho hcd hroom hbind hloc (fun h₁ F => h h₁ _ G (Fz.start F hg (Nat.le_refl _) fun x d e => by
    obtain ⟨v, a, b⟩ := hb.lookup e
    exact ⟨v, (lookup_rev hnd).trans a, b⟩)) hco hgen hk hcell

/-- a call of a def of the top -/
theorem zcallK {h₀ : Heap} {g₀ fx gi : GH} {mu : List (Addr × MV)} {ls : List (Str × D)} {env : Env} {f : Str} {p pos : Pos} {e : Expr} {rest : List Expr} {a : Addr} {Q : Value → Shared → Prop} (G : Gl K w h₀) (X : Fz h₀ g₀ fx gi mu ls env.locals s.heap)
    (en : nsIn (K w.params) mainGlobals f = some (some (.ref a))) (hk : keepIn (K w.params) (.ref a) = true)
    (h : wpAny (model prog w) A (spliced (backTo pos (starEach (e :: rest) env))) (fun vs s₁ => (∃ g₀ fx gi mu ls L, Fz h₀ g₀ fx gi mu ls L s₁.heap) ∧ wpAny (model prog w) A (call (.ref a) vs) Q E s₁) E s)
    (hg : env.globals = mainGlobals := by rfl) (hkd : env.scope.kind = .function := by rfl) (hx : env.kindOf f = some .globalImplicit := by rfl) (hd : (f == ("__debug__" : Str)) = false := by decide)
    (he : starEach (e :: rest) env = (false, eval e env) :: starEach rest env := by rfl) (hplain : (backTo pos (starEach rest env)).any (·.1) = false := by rfl) :
    wpAny (model prog w) A (eval (.Call (.Name f p) (e :: rest) [] pos) env) Q E s :=
  wpAny_Call_NameR (zgl G X en (callWith_K G.k hk (wpAny_mono h (fun vs s₁ h₁ => ⟨let ⟨_, _, _, _, _, _, Y⟩ := h₁.1; (Y.gl G).k, h₁.2⟩) fun _ _ e => e) he hplain) hg hkd hx hd)
/-- a call of a built-in function -/
theorem zcallB {h₀ : Heap} {g₀ fx gi : GH} {mu : List (Addr × MV)} {ls : List (Str × D)} {env : Env} {f : Str} {p pos : Pos} {e : Expr} {rest : List Expr} {id : String} {Q : Value → Shared → Prop} (G : Gl K w h₀) (X : Fz h₀ g₀ fx gi mu ls env.locals s.heap)
    (en : nsIn (K w.params) mainGlobals f = some none) (hv : bootBuiltins f = some (.builtin id)) (hn : f ≠ "__name__")
    (h : wpAny (model prog w) A (spliced (backTo pos (starEach (e :: rest) env))) (fun vs s₁ => wpAny (model prog w) A (call (.builtin id) vs) Q E s₁) E s)
    (hg : env.globals = mainGlobals := by rfl) (hb : env.builtins = builtinsNs := by rfl) (hkd : env.scope.kind = .function := by rfl) (hx : env.kindOf f = some .globalImplicit := by rfl) (hd : (f == ("__debug__" : Str)) = false := by decide)
    (he : starEach (e :: rest) env = (false, eval e env) :: starEach rest env := by rfl) (hplain : (backTo pos (starEach rest env)).any (·.1) = false := by rfl) :
    wpAny (model prog w) A (eval (.Call (.Name f p) (e :: rest) [] pos) env) Q E s :=
  wpAny_Call_NameR (zbl G X en hv hn (PyProof.Rows.callWith_builtin1 h he hplain) hg hb hkd hx hd)
/-- a call of a built-in type -/
theorem zcallT {h₀ : Heap} {g₀ fx gi : GH} {mu : List (Addr × MV)} {ls : List (Str × D)} {env : Env} {f : Str} {p pos : Pos} {e : Expr} {rest : List Expr} {T : String} {Q : Value → Shared → Prop} (G : Gl K w h₀) (X : Fz h₀ g₀ fx gi mu ls env.locals s.heap)
    (en : nsIn (K w.params) mainGlobals f = some none) (hv : bootBuiltins f = some (.type T)) (hn : f ≠ "__name__")
    (h : wpAny (model prog w) A (spliced (backTo pos (starEach (e :: rest) env))) (fun vs s₁ => wpAny (model prog w) A (call (.type T) vs) Q E s₁) E s)
    (hg : env.globals = mainGlobals := by rfl) (hb : env.builtins = builtinsNs := by rfl) (hkd : env.scope.kind = .function := by rfl) (hx : env.kindOf f = some .globalImplicit := by rfl) (hd : (f == ("__debug__" : Str)) = false := by decide)
    (he : starEach (e :: rest) env = (false, eval e env) :: starEach rest env := by rfl) (hplain : (backTo pos (starEach rest env)).any (·.1) = false := by rfl) :
    wpAny (model prog w) A (eval (.Call (.Name f p) (e :: rest) [] pos) env) Q E s :=
  wpAny_Call_NameR (zbl G X en hv hn (PyProof.Rows.callWith_type1 h he hplain) hg hb hkd hx hd)

theorem zitemS {value slice : Expr} {x : List Nat} {t : Tok} {i : Int} {u : Tok} {c : Nat} {Q : Value → Shared → Prop} (h0 : 0 ≤ i) (hf : i < 2 ^ 63) (hc : x[i.toNat]? = some c)
    (h : ∀ t' tk, Q (.str (S [c]) t') { s with toks := tk })
    (hs : subscripted slice false (.str (S x) t) (.int i u) = operate [.str (S x) t, .int i u] (getItem (.str (S x) t) (.int i u)) := by with_unfolding_all rfl)
    (ht : ∀ r, letTemporaryGo value (.str (S x) t) r = pure () := by intro _; with_unfolding_all rfl) :
    wpAny (model prog w) A (subscriptTail value slice (.str (S x) t) (.int i u)) Q E s := by
  have hlt : i.toNat < x.length := (List.getElem?_eq_some_iff.mp hc).1
  have hl : (S x).length = x.length := by simp [S, PySem.Str.length]
  refine item_str (by simp [fitsSsize]; omega) (by rw [hl]; omega) (by rw [hl]; omega) (fun _ => ?_) hs ht
  have e : Txt.item (S x) i = S [c] := by
    unfold Txt.item Txt.charAt
    have e2 : seqIndex? i (S x).length = some i.toNat := by
      unfold seqIndex?
      rw [hl]
      simp
      rw [if_neg (by omega)]
      omega
    rw [e2]
    simp [S, hc]
  rw [e]
  exact h _ _
end
end Mine
end
section
open PySem PySem.W PySem.Calls PyProof.Rows PySem.Builtin.Str
set_option Elab.async false
set_option maxRecDepth 100000
namespace Mine

theorem S_len (l : List Nat) : (S l).length = l.length := by simp [S, PySem.Str.length]
theorem S_app (a b : List Nat) : S a ++ S b = S (a ++ b) := by
  show PySem.Str.append _ _ = _
  simp [S, PySem.Str.append]
theorem S_inj {a b : List Nat} (h : S a = S b) : a = b := by
  have := congrArg (fun x : Str => x.cps.toList) h
  simpa [S] using this
theorem S_beq (a b : List Nat) : (S a == S b) = decide (a = b) := by
  by_cases h : a = b
  · subst h; simp
  · simp [h]; exact fun e => h (S_inj e)
theorem S_list (l : List Nat) : (S l).cps.toList = l := rfl
theorem S_of (x : Str) : S x.cps.toList = x := by cases x; simp [S]

def glue (sep : List Nat) : List (List Nat) → List Nat
  | [] => []
  | [x] => x
  | x :: y :: r => x ++ sep ++ glue sep (y :: r)
theorem join_S (sep : List Nat) : ∀ xs : List (List Nat), PySem.Str.join (S sep) (xs.map S) = S (glue sep xs)
  | [] => rfl
  | [x] => rfl
  | x :: y :: r => by
    show S x ++ S sep ++ PySem.Str.join (S sep) ((y :: r).map S) = _
    rw [join_S sep (y :: r), S_app, S_app]; rfl
theorem join_txt (sep : List Nat) (xs : List (List Nat)) : Txt.join (S sep) (xs.map S) = S (glue sep xs) := by
  show glued (S sep) (xs.map S) = _
  rw [StrLaws.glued_eq_join, join_S]

/-- two ways of glueing parts without the sign are the same -/
theorem glue_inj (c : Nat) : ∀ (xs ys : List (List Nat)), xs ≠ [] → ys ≠ [] → (∀ x ∈ xs, c ∉ x) → (∀ y ∈ ys, c ∉ y) → glue [c] xs = glue [c] ys → xs = ys := by
  have cut : ∀ (a b : List Nat) (p q : List Nat), c ∉ a → c ∉ b → a ++ [c] ++ p = b ++ [c] ++ q → a = b ∧ p = q := by
    intro a
    induction a with
    | nil =>
      intro b p q _ hb e
      cases b with
      | nil => exact ⟨rfl, by simpa using e⟩
      | cons z b => simp at e; exact absurd (by simp [e.1]) hb
    | cons z a ih =>
      intro b p q ha hb e
      cases b with
      | nil => simp at e; exact absurd (by simp [e.1]) ha
      | cons z' b =>
        simp only [List.cons_append, List.cons.injEq] at e
        obtain ⟨e1, e2⟩ := ih b p q (fun h => ha (.tail _ h)) (fun h => hb (.tail _ h)) (by simpa using e.2)
        exact ⟨by rw [e.1, e1], e2⟩
  have noc : ∀ (a b p : List Nat), c ∉ a → a = b ++ [c] ++ p → False := fun a b p ha e => ha (by rw [e]; simp)
  intro xs
  induction xs with
  | nil => intro ys h; exact absurd rfl h
  | cons x xs ih =>
    intro ys _ hy hx' hy' e
    cases ys with
    | nil => exact absurd rfl hy
    | cons y ys =>
      cases xs with
      | nil =>
        cases ys with
        | nil => simp only [glue] at e; rw [e]
        | cons y2 ys => simp only [glue] at e; exact (noc x y _ (hx' _ (.head _)) e).elim
      | cons x2 xs =>
        cases ys with
        | nil => simp only [glue] at e; exact (noc y x _ (hy' _ (.head _)) e.symm).elim
        | cons y2 ys =>
          simp only [glue] at e
          obtain ⟨e1, e2⟩ := cut _ _ _ _ (hx' _ (.head _)) (hy' _ (.head _)) e
          rw [e1, ih (y2 :: ys) (fun h => nomatch h) (fun h => nomatch h) (fun z hz => hx' z (.tail _ hz)) (fun z hz => hy' z (.tail _ hz)) e2]

theorem split_ne (x y : Str) : Txt.split x y ≠ [] := by
  unfold Txt.split
  split
  · exact fun h => nomatch h
  · split
    · exact fun h => nomatch h
    · intro h
      have := congrArg List.length h
      rw [length_partsBetween] at this
      simp at this
theorem map_S_back : ∀ l : List Str, (l.map (fun x => x.cps.toList)).map S = l
  | [] => rfl
  | x :: r => by rw [List.map_cons, List.map_cons, S_of, map_S_back r]
theorem split_glue (c : Nat) (ps : List (List Nat)) (hne : ps ≠ []) (hf : ∀ p ∈ ps, c ∉ p) : Txt.split (S (glue [c] ps)) (S [c]) = ps.map S := by
  have h1 := StrLaws.join_split (S (glue [c] ps)) (S [c])
  have h2 := StrLaws.split_free (S (glue [c] ps)) c
  have h3 := split_ne (S (glue [c] ps)) (S [c])
  have hS : (⟨#[c]⟩ : Str) = S [c] := rfl
  rw [hS] at h2
  generalize Txt.split (S (glue [c] ps)) (S [c]) = r at h1 h2 h3
  rw [← map_S_back r] at h1 ⊢
  rw [join_S] at h1
  have := glue_inj c (r.map fun x => x.cps.toList) ps (by simpa using h3) hne (fun x hx => by
    obtain ⟨y, hy, rfl⟩ := List.mem_map.mp hx; exact h2 y hy) hf (S_inj h1)
  rw [this]

theorem starts1 (x : List Nat) (c : Nat) : Txt.startswith (S x) (S [c]) = (x.head? == some c) := by
  unfold Txt.startswith
  rw [StrLaws.subAt_eq, S_len, S_len, S_list, S_list]
  cases x with
  | nil => simp
  | cons a r => simp
theorem ends1 (x : List Nat) (c : Nat) : Txt.endswith (S x) (S [c]) = (x.getLast? == some c) := by
  unfold Txt.endswith
  rw [StrLaws.subAt_eq, S_len, S_len, S_list, S_list]
  rcases List.eq_nil_or_concat x with rfl | ⟨y, a, rfl⟩
  · simp
  · simp

section
variable {K : Params → Frag} {prog : Program} {w : World} {A : Around} {E : Value → Shared → Prop} {s : Shared} {h₀ : Heap} {g₀ fx gi : GH} {mu : List (Addr × MV)} {ls : List (Str × D)} {env : Env} {L : Addr}

theorem zretL {d : D} {Q : Value → Shared → Prop} (X : Fz h₀ g₀ fx gi mu ls L s.heap)
    (h : ∀ v g' h' tk, gi.le g' → Fz h₀ g₀ fx g' mu ls L h' → Has g' v d → Q v { s with heap := h', toks := tk }) : Ret s gi d Q :=
  fun v h' tk k hv => h v _ h' tk (grow_le X.sub) (X.ext k) hv
def sd (x : List Nat) : D := .s (S x)
theorem HasAll.strs {g : GH} {vs : List Value} : ∀ {xs : List (List Nat)}, HasAll g vs (xs.map sd) → StrsAre vs (xs.map S) := by
  induction vs with
  | nil =>
    intro xs h
    cases xs with
    | nil => exact .nil
    | cons x r => exact absurd h.1 (by simp)
  | cons v vs ih =>
    intro xs h
    cases xs with
    | nil => exact absurd h.1 (by simp)
    | cons x r =>
      obtain ⟨v', ws, e, hv, hw⟩ := HasAll.uncons h
      cases e
      cases hv
      exact .cons _ _ (ih hw)
theorem sum_len (xs : List (List Nat)) : ((xs.map S).map (·.length)).sum = (xs.map List.length).sum := by
  rw [List.map_map]
  congr 1
theorem zjoin {sep : List Nat} {a : Addr} {t : Tok} {xs : List (List Nat)} {Q : Value → Shared → Prop} (X : Fz h₀ g₀ fx gi mu ls L s.heap) (ha : Has gi (.ref a) (.l (xs.map sd))) (hok : (xs.map List.length).sum + xs.length * sep.length ≤ 16777216)
    (h : ∀ t' k, Q (.str (S (glue sep xs)) t') { s with toks := k }) : wpAny (model prog w) A (call (.builtin "str.join") [.str (S sep) t, .ref a]) Q E s := by
  obtain ⟨vs, n, xa⟩ := ha.obj X.sub
  refine PyProof.Rows.join_list (ys := xs.map S) xa.list (by simpa using xa.all.strs) ?_ fun t' k => ?_
  · rw [sum_len, List.length_map, S_len]; exact hok
  · rw [join_txt]; exact h t' k
theorem HasAll.ofNum {g : GH} : ∀ (tk : Nat) (xs : List (List Nat)), HasAll g (strsFrom tk (xs.map S)) (xs.map sd)
  | _, [] => .nil
  | tk, x :: r => .cons (.s _ _) (HasAll.ofNum (tk + 1) r)
theorem zsplit {c : Nat} {t u : Tok} {ps : List (List Nat)} {Q : Value → Shared → Prop} (X : Fz h₀ g₀ fx gi mu ls L s.heap) (hne : ps ≠ []) (hf : ∀ p ∈ ps, c ∉ p) (hsz : (glue [c] ps).length ≤ 10000)
    (h : ∀ a g' h' k, gi.le g' → Fz h₀ g₀ fx g' mu ls L h' → Has g' (.ref a) (.l (ps.map sd)) → Q (.ref a) { s with heap := h', toks := k }) :
    wpAny (model prog w) A (call (.builtin "str.split") [.str (S (glue [c] ps)) t, .str (S [c]) u]) Q E s := by
  have hl : (S (glue [c] ps)).length ≤ 10000 := by rw [S_len]; exact hsz
  have hsp := split_glue c ps hne hf
  generalize hx : S (glue [c] ps) = x at hl hsp ⊢
  have big : 10000 + 2 ≤ sizeLine := by decide
  have hy : ((S [c]).length == 0) = false := rfl
  have hn : (partsBetween x (occurrences x (S [c]) 0 x.length (x.length + 1)) (S [c]).length).length ≤ sizeLine := by
    have e1 := StrLaws.occ_length_le x (S [c]) 0 x.length (x.length + 1)
    rw [length_partsBetween]; omega
  have fin : ∀ (vs : List Value) k, HasAll gi vs (ps.map sd) → Q (.ref s.heap.objs.size) { s with heap := s.heap.push { cls := .type "list", data := .seq vs.toArray }, toks := k } := fun vs k hv => by
    obtain ⟨X', e, le⟩ := X.push { cls := .type "list", data := .seq vs.toArray } rfl
    exact h _ _ _ _ le X' (Has.ofList e (hv.mono le))
  cases h1 : (decide (x.length < (S [c]).length) || decide (strKind x < strKind (S [c])))
  · cases hff : (occurrences x (S [c]) 0 x.length (x.length + 1)).isEmpty
    · refine call_meets F.slot_str_split (typeIs_str _ _ _) F.entry_str_split (F.args_str_split_2 _ _) (meets_str_split_sep x (S [c]) t u h1 hy hff (by omega) hn) ?_
      refine fin _ _ ?_
      have e : partsBetween x (occurrences x (S [c]) 0 x.length (x.length + 1)) (S [c]).length = ps.map S := by
        rw [← hsp]; exact ((if_neg (ne_true_of_eq_false h1)).trans (if_neg (ne_true_of_eq_false hff))).symm
      rw [e]; exact HasAll.ofNum _ _
    · have e : [x] = ps.map S := by rw [← hsp]; exact ((if_neg (ne_true_of_eq_false h1)).trans (if_pos hff)).symm
      refine call_meets F.slot_str_split (typeIs_str _ _ _) F.entry_str_split (F.args_str_split_2 _ _) (meets_str_split_not_found x (S [c]) t u h1 hy hff) (fin [.str x t] _ ?_)
      have : ps.map sd = [.s x] := by
        have := congrArg (List.map D.s) e
        simpa [sd, Function.comp_def] using this.symm
      rw [this]; exact .cons (.s _ _) .nil
  · have e : [x] = ps.map S := by rw [← hsp]; exact (if_pos h1).symm
    refine call_meets F.slot_str_split (typeIs_str _ _ _) F.entry_str_split (F.args_str_split_2 _ _) (meets_str_split_cannot_occur x (S [c]) t u h1) (fin [.str x t] _ ?_)
    have : ps.map sd = [.s x] := by
      have := congrArg (List.map D.s) e
      simpa [sd, Function.comp_def] using this.symm
    rw [this]; exact .cons (.s _ _) .nil

theorem zstarts {x : List Nat} {c : Nat} {t u : Tok} {Q : Value → Shared → Prop} (h : Q (.bool (x.head? == some c)) s) : wpAny (model prog w) A (call (.builtin "str.startswith") [.str (S x) t, .str (S [c]) u]) Q E s := SC.startswith (by rw [starts1]; exact h)
theorem zends {x : List Nat} {c : Nat} {t u : Tok} {Q : Value → Shared → Prop} (h : Q (.bool (x.getLast? == some c)) s) : wpAny (model prog w) A (call (.builtin "str.endswith") [.str (S x) t, .str (S [c]) u]) Q E s := SC.endswith (by rw [ends1]; exact h)
theorem zaddS {x y : List Nat} {t u : Tok} {Q : Value → Shared → Prop} (hsz : x.length + y.length ≤ 100000) (h : ∀ t' tk, Q (.str (S (x ++ y)) t') { s with toks := tk }) : wpAny (model prog w) A (binaryOp .Add (.str (S x) t) (.str (S y) u)) Q E s :=
  PyProof.Rows.add_str (fun t' tk => by rw [S_app]; exact h t' tk) (by rw [S_len, S_len]; exact Nat.le_trans hsz (by decide))
theorem ziaddS {x y : List Nat} {t u : Tok} {Q : Value → Shared → Prop} (hsz : x.length + y.length ≤ 100000) (h : ∀ t' tk, Q (.str (S (x ++ y)) t') { s with toks := tk }) : wpAny (model prog w) A (inplaceOp .Add (.str (S x) t) (.str (S y) u)) Q E s :=
  PyProof.Rows.iadd_str (fun t' tk => by rw [S_app]; exact h t' tk) (by rw [S_len, S_len]; exact Nat.le_trans hsz (by decide))
theorem ztruthyS {x : List Nat} {t : Tok} {Q : Bool → Shared → Prop} (hsz : x.length ≤ 100000) (h : Q (!x.isEmpty) { s with toks := s.toks + 1 + 1 }) : wpAny (model prog w) A (truthy (.str (S x) t)) Q E s := by
  have e : (((S x).length : Int) != 0) = !x.isEmpty := by rw [S_len]; cases x <;> simp <;> omega
  exact P.truthy_str (by rw [S_len]; omega) (by rw [e]; exact h)
theorem zeqS {x y : List Nat} {t u : Tok} {Q : Value → Shared → Prop} (h : Q (.bool (decide (x = y))) s) : wpAny (model prog w) A (compareOp .Eq (.str (S x) t) (.str (S y) u)) Q E s := PyProof.Rows.eq_str (by rw [S_beq]; exact h)
theorem zneS {x y : List Nat} {t u : Tok} {Q : Value → Shared → Prop} (h : Q (.bool (!decide (x = y))) s) : wpAny (model prog w) A (compareOp .NotEq (.str (S x) t) (.str (S y) u)) Q E s := PyProof.Rows.ne_str (by
  have : (S x != S y) = !decide (x = y) := by rw [bne, S_beq]
  rw [this]; exact h)

theorem bounds_le (lo hi : Option Int) (n : Nat) : (sliceBounds lo hi none n).2.1 ≤ n := by
  simp only [sliceBounds, Option.getD_none]
  simp only [show (1 : Int) > 0 by decide, if_true]
  cases hi with
  | none => simp
  | some i => dsimp only; omega
theorem slice_S (x : List Nat) (lo hi : Option Int) : Txt.slice (S x) lo hi = S (pk lo hi x) := by
  have e : strSliceIndices lo hi 1 x.length = sliceRange (sliceBounds lo hi none x.length).1 (sliceBounds lo hi none x.length).2.1 1 := by
    unfold strSliceIndices sliceBounds
    simp only [Option.getD_none, show (1 : Int) > 0 by decide, if_true]
    cases lo <;> cases hi <;> rfl
  obtain ⟨h1, h2, _⟩ := bounds_nn lo hi x.length
  have h3 := bounds_le lo hi x.length
  unfold Txt.slice
  rw [S_len, e]
  unfold pk
  generalize (sliceBounds lo hi none x.length).1 = a at h1 ⊢
  generalize (sliceBounds lo hi none x.length).2.1 = b at h2 h3 ⊢
  obtain ⟨a', rfl⟩ := Int.eq_ofNat_of_zero_le h1
  obtain ⟨b', rfl⟩ := Int.eq_ofNat_of_zero_le h2
  rw [sliceRange_one]
  simp only [Int.toNat_natCast]
  split
  · rename_i h
    simp only [beq_self_eq_true, List.length_map, List.length_range, Bool.true_and, beq_iff_eq] at h
    have hb : b' ≤ x.length := by omega
    by_cases h0 : x.length = 0
    · have : x = [] := List.length_eq_zero_iff.mp h0
      subst this; simp
    · have ha : a' = 0 := by omega
      subst ha
      rw [List.drop_zero, List.take_of_length_le (by omega)]
  · show (⟨_⟩ : Str) = S _
    rw [pick_run]
    rfl
/-- x[lo:hi] of a text -/
theorem zsliceS {value : Expr} {lower upper : Option Expr} {p pos : Pos} {Q : Value → Shared → Prop}
    (h : wpAny (model prog w) A (eval value env) (fun o s₁ => wpAny (model prog w) A (evalPart lower env) (fun vl s₂ => wpAny (model prog w) A (evalPart upper env) (fun vu s₃ =>
      ∃ x t l u gi mu ls, o = .str (S x) t ∧ vl = partValue l ∧ vu = partValue u ∧ Fz h₀ g₀ fx gi mu ls env.locals s₃.heap ∧ x.length ≤ 100000 ∧
        ∀ t' g' h' tk, gi.le g' → Fz h₀ g₀ fx g' mu ls env.locals h' → Q (.str (S (pk (l.map (·.1)) (u.map (·.1)) x)) t') { s₃ with heap := h', toks := tk }) E s₂) E s₁) E s)
    (ht : ∀ o r, letTemporaryGo value o r = pure () := by intro _ _; rfl) :
    wpAny (model prog w) A (eval (.Subscript value (.Slice lower upper none p) pos) env) Q E s := by
  refine wpAny_Subscript_str_slice (wpAny_mono h (fun o s₁ h₁ => wpAny_mono h₁ (fun vl s₂ h₂ => wpAny_mono h₂ (fun vu s₃ h₃ => ?_) fun _ _ e => e) fun _ _ e => e) fun _ _ e => e) ht
  obtain ⟨x, t, l, u, gi, mu, ls, rfl, rfl, rfl, X, hsz, hQ⟩ := h₃
  refine ⟨S x, t, l, u, rfl, rfl, rfl, ?_⟩
  obtain ⟨X', _, le⟩ := X.push { cls := .type "slice", data := .fields #[partValue l, partValue u, .none] } rfl
  have hl : (Txt.slice (S x) (l.map (·.1)) (u.map (·.1))).length ≤ sizeLine := Nat.le_trans (Txt.slice_le _ _ _) (by rw [S_len]; exact Nat.le_trans hsz (by decide))
  exact post_val_or_str ⟨hl, fun t' k => by
    show Q (.str (Txt.slice (S x) (l.map (·.1)) (u.map (·.1))) t') _
    rw [slice_S]; exact hQ _ _ _ _ le X'⟩
theorem lk_nil {ls : List (Str × D)} : ∀ p ∈ ([] : List (Str × D)), ls.lookup p.1 = some p.2 := fun _ h => nomatch h
theorem lk_cons {ls r : List (Str × D)} {x : Str} {d : D} (e : ls.lookup x = some d) (h : ∀ p ∈ r, ls.lookup p.1 = some p.2) : ∀ p ∈ (x, d) :: r, ls.lookup p.1 = some p.2 := fun p hp => by
  cases hp with
  | head => exact e
  | tail _ hp => exact h p hp
theorem zcs {x : Str} {l : List Nat} {k : Nat} {pos : Pos} {Q : Value → Shared → Prop} (e : x = S l) (h : Q (.str (S l) s.toks) { s with toks := s.toks + 1 }) : wpAny (model prog w) A (eval (.Constant (.str x) k pos) env) Q E s := by
  subst e; exact Constant_str h
theorem o_slash : Str.ofString "/" = S [47] := by decide +kernel
theorem o_empty : Str.ofString "" = S [] := by decide +kernel
theorem o_dot : Str.ofString "." = S [46] := by decide +kernel
theorem o_dots : Str.ofString ".." = S [46, 46] := by decide +kernel
theorem o_star : Str.ofString "*" = S [42] := by decide +kernel
theorem o_quest : Str.ofString "?" = S [63] := by decide +kernel
theorem o_brack : Str.ofString "[" = S [91] := by decide +kernel
theorem zsliceX {L : Addr} {value : Expr} {lower upper : Option Expr} {p pos : Pos} {Q : Value → Shared → Prop} (_X : Fz h₀ g₀ fx gi mu ls L s.heap)
    (h : wpAny (model prog w) A (eval value env) (fun o s₁ => wpAny (model prog w) A (evalPart lower env) (fun vl s₂ => wpAny (model prog w) A (evalPart upper env) (fun vu s₃ =>
      ∃ a ds lo hi gi mu ls, o = .ref a ∧ Fz h₀ g₀ fx gi mu ls env.locals s₃.heap ∧ Has gi (.ref a) (.l ds) ∧ ds.length ≤ 10000 ∧ IsPart vl lo ∧ IsPart vu hi ∧
        ∀ c g' h', gi.le g' → Fz h₀ g₀ fx g' mu ls env.locals h' → Has g' (.ref c) (.l (pk lo hi ds)) → Q (.ref c) { s₃ with heap := h' }) E s₂) E s₁) E s)
    (ht : ∀ o r, letTemporaryGo value o r = pure () := by intro _ _; rfl) :
    wpAny (model prog w) A (eval (.Subscript value (.Slice lower upper none p) pos) env) Q E s := zslice h ht
theorem zsliceSX {L : Addr} {value : Expr} {lower upper : Option Expr} {p pos : Pos} {Q : Value → Shared → Prop} (_X : Fz h₀ g₀ fx gi mu ls L s.heap)
    (h : wpAny (model prog w) A (eval value env) (fun o s₁ => wpAny (model prog w) A (evalPart lower env) (fun vl s₂ => wpAny (model prog w) A (evalPart upper env) (fun vu s₃ =>
      ∃ x t l u y gi mu ls, o = .str (S x) t ∧ vl = partValue l ∧ vu = partValue u ∧ Fz h₀ g₀ fx gi mu ls env.locals s₃.heap ∧ x.length ≤ 100000 ∧ pk (l.map (·.1)) (u.map (·.1)) x = y ∧
        ∀ t' g' h' tk, gi.le g' → Fz h₀ g₀ fx g' mu ls env.locals h' → Q (.str (S y) t') { s₃ with heap := h', toks := tk }) E s₂) E s₁) E s)
    (ht : ∀ o r, letTemporaryGo value o r = pure () := by intro _ _; rfl) :
    wpAny (model prog w) A (eval (.Subscript value (.Slice lower upper none p) pos) env) Q E s := by
  refine zsliceS (h₀ := h₀) (g₀ := g₀) (fx := fx) (wpAny_mono h (fun o s₁ h₁ => wpAny_mono h₁ (fun vl s₂ h₂ => wpAny_mono h₂ (fun vu s₃ h₃ => ?_) fun _ _ e => e) fun _ _ e => e) fun _ _ e => e) ht
  obtain ⟨x, t, l, u, y, gi, mu, ls, e1, e2, e3, X, hsz, rfl, hQ⟩ := h₃
  exact ⟨x, t, l, u, gi, mu, ls, e1, e2, e3, X, hsz, hQ⟩
theorem Has.snoc {g : GH} {v : Value} {c : List (List Nat)} {x : List Nat} (h : Has g v (.l (c.map sd ++ [.s (S x)]))) : Has g v (.l ((c ++ [x]).map sd)) := by
  rw [List.map_append]; exact h
theorem Has.cat {α : Type} {f : α → D} {g : GH} {v : Value} {c d : List α} (h : Has g v (.l (c.map f ++ d.map f))) : Has g v (.l ((c ++ d).map f)) := by
  rw [List.map_append]; exact h
end
end Mine
end
section
open PySem PySem.W PySem.Calls PyProof.Rows PySem.Builtin.Str
set_option Elab.async false
set_option maxRecDepth 100000
namespace Mine
section
variable {K : Params → Frag} {prog : Program} {w : World} {A : Around} {E : Value → Shared → Prop} {s : Shared} {h₀ : Heap} {g₀ fx gi : GH} {mu : List (Addr × MV)} {ls : List (Str × D)} {env : Env} {L : Addr}

theorem zgmAppend {q : Addr} {ds : List D} {pl : Sem Bool} {Q : Value × List Value → Shared → Prop} (X : Fz h₀ g₀ fx gi mu ls L s.heap) (hq : (q, MV.lst ds) ∈ mu) (h : Q (.builtin "list.append", [.ref q]) s) : wpAny M A (getMethod (.ref q) "append" pl) Q E s := by
  obtain ⟨⟨vs, n, ho, _⟩, _⟩ := X.mv _ _ hq
  exact getMethod_list_append ho rfl rfl h
theorem zgmPop {q : Addr} {ds : List D} {pl : Sem Bool} {Q : Value × List Value → Shared → Prop} (X : Fz h₀ g₀ fx gi mu ls L s.heap) (hq : (q, MV.lst ds) ∈ mu) (h : Q (.builtin "list.pop", [.ref q]) s) : wpAny (model prog w) A (getMethod (.ref q) "pop" pl) Q E s := by
  obtain ⟨⟨vs, n, ho, _⟩, _⟩ := X.mv _ _ hq
  exact getMethod_list_of F.slot_list_pop F.type_list_pop ⟨_, ho, rfl, n, rfl⟩ ⟨_, ho, rfl⟩ h

theorem zrange1 {n : Int} {t : Tok} {Q : Value → Shared → Prop} (X : Fz h₀ g₀ fx gi mu ls L s.heap)
    (h : ∀ r g' h' tk u v, gi.le g' → Fz h₀ g₀ fx g' mu ls L h' → IsRange h' r 0 n 1 u t v → Q (.ref r) { s with heap := h', toks := tk }) : wpAny (model prog w) A (call (.type "range") [.int n t]) Q E s := by
  obtain ⟨X', e, le⟩ := X.push { cls := .type "range", data := .fields #[.int 0 s.toks, .int n t, .int 1 (s.toks + 1)] } rfl
  exact call_range_1 (h _ _ _ _ _ _ le X' (Heap.get?_push_size _ rfl))
theorem zrange3 {a b c : Int} {t u v : Tok} {Q : Value → Shared → Prop} (X : Fz h₀ g₀ fx gi mu ls L s.heap) (hc : c ≠ 0)
    (hc2 : c.natAbs < 1073741824) (h : ∀ r g' h' tk, gi.le g' → Fz h₀ g₀ fx g' mu ls L h' → IsRange h' r a b c t u v → Q (.ref r) { s with heap := h', toks := tk }) : wpAny (model prog w) A (call (.type "range") [.int a t, .int b u, .int c v]) Q E s := by
  obtain ⟨X', e, le⟩ := X.push { cls := .type "range", data := .fields #[.int a t, .int b u, .int c v] } rfl
  exact call_range_3 hc (h _ _ _ _ le X' (Heap.get?_push_size _ rfl)) (.inl (PyProof.noPylong_small hc2))
theorem srcR1 {r : Addr} {n : Nat} {t u v : Tok} (hh : A.handled = none) (hr : IsRange s.heap r 0 (n : Int) 1 t u v) (hn : n < 2 ^ 62) : Src prog w A s gi (.ref r) ((List.range n).map fun (i : Nat) => D.i (i : Int)) := by
  have := srcRange (prog := prog) (w := w) (gi := gi) (n := n) hh hr (small_one (by decide) (by decide) (by omega) (by omega)) (by rw [rangeSize_one]; split <;> omega)
  simpa using this
theorem fitsL {x : Int} (h : 0 ≤ x) (h2 : x < 1000000) : Builtin.Range.rangeFitsLong x = true := by
  unfold Builtin.Range.rangeFitsLong
  rw [Bool.and_eq_true]
  exact ⟨decide_eq_true (by omega), decide_eq_true (by omega)⟩
theorem srcR3 {r : Addr} {n : Nat} {t u v : Tok} (hh : A.handled = none) (hr : IsRange s.heap r 0 (n : Int) 3 t u v) (hn : n < 1000) : Src prog w A s gi (.ref r) ((List.range ((n + 2) / 3)).map fun (i : Nat) => D.i ((3 * i : Nat) : Int)) := by
  have hs : Builtin.Range.rangeSize 0 (n : Int) 3 = (((n + 2) / 3 : Nat) : Int) := by
    unfold Builtin.Range.rangeSize
    simp only [show (3 : Int) > 0 by decide, if_true]
    split <;> omega
  have := srcRange (prog := prog) (w := w) (gi := gi) (n := (n + 2) / 3) hh hr (by
    unfold Builtin.Range.small
    rw [hs, if_pos (show (3 : Int) > 0 by decide), fitsL (by decide) (by decide), fitsL (by omega) (by omega), fitsL (by decide) (by decide), fitsL (by omega) (by omega), fitsL (by omega) (by omega), Bool.or_true]; rfl) hs
  have e : ((List.range ((n + 2) / 3)).map fun (i : Nat) => D.i (0 + (i : Int) * 3)) = ((List.range ((n + 2) / 3)).map fun (i : Nat) => D.i ((3 * i : Nat) : Int)) := by
    apply List.map_congr_left
    intro i _
    congr 1; omega
  rw [← e]; exact this
theorem turnN {σ : Type} {fx' g' g'' : GH} {s₁ s₂ : Shared} {MU : σ → List (Addr × MV)} {LS : σ → List (Str × D)} {P B : σ → Prop} {mu' : List (Addr × MV)} {ls' : List (Str × D)} (c : σ) (X : Fz h₀ g₀ fx' g'' mu' ls' L s₂.heap) (le : g'.le g'') (hm : mu' = MU c) (hl : ∀ p ∈ LS c, ls'.lookup p.1 = some p.2) (hs : ∃ h tk, s₂ = { s₁ with heap := h, toks := tk }) (hP : P c) :
    Turn s₁ h₀ g₀ fx' g' L MU LS P B .next s₂ := ⟨c, g'', hs, le, hm ▸ X.less (lessOf hl), hP⟩
theorem rangeAt {n i : Nat} {d : D} {f : Nat → D} (h : ((List.range n).map f)[i]? = some d) : i < n ∧ d = f i := by
  have hi : i < n := by
    have := (List.getElem?_eq_some_iff.mp h).1
    simpa using this
  rw [List.getElem?_map, List.getElem?_range hi] at h
  exact ⟨hi, (Option.some.inj h).symm⟩
theorem mapAt {α : Type} {l : List α} {i : Nat} {d : D} {f : α → D} (h : (l.map f)[i]? = some d) : ∃ x, l[i]? = some x ∧ d = f x := by
  rw [List.getElem?_map] at h
  obtain ⟨x, hx, e⟩ := Option.map_eq_some_iff.mp h
  exact ⟨x, hx, e.symm⟩
theorem turnC {σ : Type} {fx' g' g'' : GH} {s₁ s₂ : Shared} {MU : σ → List (Addr × MV)} {LS : σ → List (Str × D)} {P B : σ → Prop} {mu' : List (Addr × MV)} {ls' : List (Str × D)} (c : σ) (X : Fz h₀ g₀ fx' g'' mu' ls' L s₂.heap) (le : g'.le g'') (hm : mu' = MU c) (hl : ∀ p ∈ LS c, ls'.lookup p.1 = some p.2) (hs : ∃ h tk, s₂ = { s₁ with heap := h, toks := tk }) (hP : P c) :
    Turn s₁ h₀ g₀ fx' g' L MU LS P B .cont s₂ := ⟨c, g'', hs, le, hm ▸ X.less (lessOf hl), hP⟩
theorem turnB {σ : Type} {fx' g' g'' : GH} {s₁ s₂ : Shared} {MU : σ → List (Addr × MV)} {LS : σ → List (Str × D)} {P B : σ → Prop} {mu' : List (Addr × MV)} {ls' : List (Str × D)} (c : σ) (X : Fz h₀ g₀ fx' g'' mu' ls' L s₂.heap) (le : g'.le g'') (hm : mu' = MU c) (hl : ∀ p ∈ LS c, ls'.lookup p.1 = some p.2) (hs : ∃ h tk, s₂ = { s₁ with heap := h, toks := tk }) (hP : B c) :
    Turn s₁ h₀ g₀ fx' g' L MU LS P B .brk s₂ := ⟨c, g'', hs, le, hm ▸ X.less (lessOf hl), hP⟩
end
end Mine
end
section
open PySem PySem.W PySem.Calls PyProof.Rows PySem.Builtin.Str
set_option Elab.async false
set_option maxRecDepth 100000
namespace Mine
section
variable {K : Params → Frag} {prog : Program} {w : World} {A : Around} {E : Value → Shared → Prop} {s : Shared} {h₀ : Heap} {g₀ fx gi : GH} {mu : List (Addr × MV)} {ls : List (Str × D)} {env : Env} {L : Addr}

/-- the end of a turn of a while -/
def WTurn {σ : Type} (s : Shared) (h₀ : Heap) (g₀ fx gi : GH) (L : Addr) (MU : σ → List (Addr × MV)) (LS : σ → List (Str × D)) (P : Nat → σ → Prop) (n : Nat) (Q : Flow → Shared → Prop) (f : Flow) (s₂ : Shared) : Prop :=
  match f with
  | .next | .cont => ∃ m c g', m < n ∧ (∃ h tk, s₂ = { s with heap := h, toks := tk }) ∧ gi.le g' ∧ Fz h₀ g₀ fx g' (MU c) (LS c) L s₂.heap ∧ P m c
  | .brk => Q .next s₂
  | .ret v => Q (.ret v) s₂
theorem zWhile {σ : Type} {test : Expr} {body : List Stmt} {pos : Pos} {Q : Flow → Shared → Prop} (MU : σ → List (Addr × MV)) (LS : σ → List (Str × D)) (P : Nat → σ → Prop) (n₀ : Nat) (c₀ : σ)
    (X : Fz h₀ g₀ fx gi mu ls L s.heap) (hm : mu = MU c₀) (hl : ∀ p ∈ LS c₀, ls.lookup p.1 = some p.2) (h0 : P n₀ c₀)
    (turn : ∀ n c g' s₁, P n c → gi.le g' → Fz h₀ g₀ fx g' (MU c) (LS c) L s₁.heap → (∃ h tk, s₁ = { s with heap := h, toks := tk }) →
      wpAny (model prog w) A (isTrue test env (eval test env)) (fun b s₂ => if b = true then wpAny (model prog w) A (execs body env) (WTurn s₁ h₀ g₀ fx g' L MU LS P n Q) (fun _ _ => False) s₂ else Q .next s₂) (fun _ _ => False) s₁) :
    wpAny (model prog w) A (exec (.While test body [] pos) env) Q (fun _ _ => False) s := by
  refine wpAny_While (codeAny_whileLoop (fun n s' => ∃ c g', (∃ h tk, s' = { s with heap := h, toks := tk }) ∧ gi.le g' ∧ Fz h₀ g₀ fx g' (MU c) (LS c) L s'.heap ∧ P n c) ?_ n₀ ⟨c₀, gi, ⟨_, _, rfl⟩, GH.le.refl _, hm ▸ X.less (lessOf hl), h0⟩)
  rintro n s₁ ⟨c, g', ⟨hh, tk, rfl⟩, le, Y, hP⟩
  refine wpAny_mono (turn n c g' _ hP le Y ⟨_, _, rfl⟩) (fun b s₂ hb => ?_) fun _ _ e => e.elim
  cases b with
  | true =>
    simp only [if_true] at hb ⊢
    refine wpAny_mono hb (fun f s₃ hf => ?_) fun _ _ e => e.elim
    cases f with
    | next =>
      obtain ⟨m, c', g'', hm, ⟨h3, tk3, rfl⟩, le2, Z, hP'⟩ := hf
      exact ⟨m, hm, c', g'', ⟨_, _, rfl⟩, le.trans le2, Z, hP'⟩
    | cont =>
      obtain ⟨m, c', g'', hm, ⟨h3, tk3, rfl⟩, le2, Z, hP'⟩ := hf
      exact ⟨m, hm, c', g'', ⟨_, _, rfl⟩, le.trans le2, Z, hP'⟩
    | brk => exact hf
    | ret v => exact hf
  | false =>
    simp only [Bool.false_eq_true, if_false] at hb ⊢
    exact wpAny_execs_nil hb
theorem wturnN {σ : Type} {fx' g' g'' : GH} {s₁ s₂ : Shared} {MU : σ → List (Addr × MV)} {LS : σ → List (Str × D)} {P : Nat → σ → Prop} {n : Nat} {Q : Flow → Shared → Prop} {mu' : List (Addr × MV)} {ls' : List (Str × D)} (m : Nat) (c : σ) (X : Fz h₀ g₀ fx' g'' mu' ls' L s₂.heap) (le : g'.le g'') (hmn : m < n) (hm : mu' = MU c) (hl : ∀ p ∈ LS c, ls'.lookup p.1 = some p.2) (hs : ∃ h tk, s₂ = { s₁ with heap := h, toks := tk }) (hP : P m c) :
    WTurn s₁ h₀ g₀ fx' g' L MU LS P n Q .next s₂ := ⟨m, c, g'', hmn, hs, le, hm ▸ X.less (lessOf hl), hP⟩

theorem HasAll.ints {g : GH} {vs : List Value} : ∀ {ns : List Int}, HasAll g vs (ns.map .i) → IntsAre vs ns := by
  induction vs with
  | nil =>
    intro ns h
    cases ns with
    | nil => exact .nil
    | cons x r => exact absurd h.1 (by simp)
  | cons v vs ih =>
    intro ns h
    cases ns with
    | nil => exact absurd h.1 (by simp)
    | cons x r =>
      obtain ⟨v', ws, e, hv, hw⟩ := HasAll.uncons h
      cases e
      cases hv
      exact .cons _ _ (ih hw)
theorem zin {a : Addr} {fs : List Nat} {k : Nat} {t : Tok} {Q : Value → Shared → Prop} (X : Fz h₀ g₀ fx gi mu ls L s.heap) (ha : Has gi (.ref a) (.l (fs.map fun (n : Nat) => D.i n))) (h : Q (.bool (decide (k ∈ fs))) s) : wpAny (model prog w) A (compareOp .In (.int k t) (.ref a)) Q E s := by
  obtain ⟨vs, n, xa⟩ := ha.obj X.sub
  have hi : IntsAre vs (fs.map fun (n : Nat) => (n : Int)) := HasAll.ints (by rw [List.map_map]; exact xa.all)
  refine in_list_ints xa.list hi ?_
  have e : ((fs.map fun (n : Nat) => (n : Int)).any (· == (k : Int))) = decide (k ∈ fs) := by
    rw [Bool.eq_iff_iff, List.any_eq_true, decide_eq_true_eq]
    constructor
    · rintro ⟨x, hx, hxk⟩
      obtain ⟨m, hm, rfl⟩ := List.mem_map.mp hx
      have : m = k := by have h2 : (m : Int) = k := by simpa using hxk
                         omega
      exact this ▸ hm
    · intro hk; exact ⟨k, List.mem_map.mpr ⟨k, hk, rfl⟩, by simp⟩
  rw [e]; exact h
theorem zindex {a : Addr} {fs : List Nat} {k : Nat} {t : Tok} {Q : Value → Shared → Prop} (X : Fz h₀ g₀ fx gi mu ls L s.heap) (ha : Has gi (.ref a) (.l (fs.map fun (n : Nat) => D.i n))) (hk : k ∈ fs) (hsz : fs.length ≤ 10000) (h : Q (.int (fs.idxOf k : Nat) s.toks) { s with toks := s.toks + 1 }) : wpAny (model prog w) A (call (.builtin "list.index") [.ref a, .int k t]) Q E s := by
  obtain ⟨vs, n, xa⟩ := ha.obj X.sub
  have hj : fs.idxOf k < fs.length := List.idxOf_lt_length_iff.mpr hk
  have hlen : vs.length = fs.length := by have := xa.all.1; simpa using this
  have hat : ∀ j (hj : j < vs.length), ∃ u, vs[j] = .int (fs[j]'(hlen ▸ hj) : Nat) u := fun j hj => by
    have := xa.all.2 j vs[j] (.i (fs[j]'(hlen ▸ hj) : Nat)) (List.getElem?_eq_getElem hj) (by simp [hlen ▸ hj])
    obtain ⟨u, hu⟩ := this.unI
    exact ⟨u, hu⟩
  refine call_meets PySem.F.slot_list_index ⟨_, xa.ob, rfl⟩ PySem.F.entry_list_index (PySem.F.args_list_index_2 _ _)
    (SeqAt.list_indexAt a vs.toArray n none #[] (.int k t) (isInt k) (fs.idxOf k) (by simpa [hlen] using hj) (by omega) ?_ ?_) ⟨xa.ob, fun y hy => ?_, h⟩
  · obtain ⟨u, hu⟩ := hat (fs.idxOf k) (by omega)
    show isInt k vs[fs.idxOf k] = true
    rw [hu]
    simp [isInt]
  · intro j hjs hlt
    obtain ⟨u, hu⟩ := hat j (by simpa using hjs)
    show isInt k vs[j] = false
    rw [hu]
    have := List.not_of_lt_findIdx (p := (· == k)) (xs := fs) (i := j) hlt
    simp only [isInt]
    have h2 : ¬ fs[j] = k := by simpa using this
    have h3 : ¬ ((fs[j] : Nat) : Int) = (k : Int) := by omega
    simpa using h3
  · obtain ⟨j, hj, rfl⟩ := List.getElem_of_mem (by simpa using hy : y ∈ vs)
    obtain ⟨u, hu⟩ := hat j hj
    rw [hu]
    exact SeqAt.EqAt.int_int _ _ _ _
theorem zgmList {a : Addr} {ds : List D} {name : Str} {id : String} {pl : Sem Bool} {Q : Value × List Value → Shared → Prop} (slot : Slot "list" name id) (ty : typeOf (.builtin id) = pure (.type "method_descriptor")) (X : Fz h₀ g₀ fx gi mu ls L s.heap) (ha : Has gi (.ref a) (.l ds)) (h : Q (.builtin id, [.ref a]) s) : wpAny (model prog w) A (getMethod (.ref a) name pl) Q E s := by
  obtain ⟨vs, n, xa⟩ := ha.obj X.sub
  exact getMethod_list_of slot ty xa.list ⟨_, xa.ob, rfl⟩ h
/-- what an element of a comprehension gives -/
def Elt (s₂ : Shared) (h₀ : Heap) (g₀ fx' g' : GH) (mu' : List (Addr × MV)) (ls : List (Str × D)) (C : Addr) (d : D) (y : Value) (s₃ : Shared) : Prop :=
  (∃ h tk, s₃ = { s₂ with heap := h, toks := tk }) ∧ ∃ g'', g'.le g'' ∧ Fz h₀ g₀ fx' g'' mu' ls C s₃.heap ∧ Has g'' y d
theorem Elt.mk {s₂ s₃ : Shared} {h₀ : Heap} {g₀ fx' g' g'' : GH} {mu' : List (Addr × MV)} {ls : List (Str × D)} {C : Addr} {d : D} {y : Value} (X : Fz h₀ g₀ fx' g'' mu' ls C s₃.heap) (le : g'.le g'') (hv : Has g'' y d) (hs : ∃ h tk, s₃ = { s₂ with heap := h, toks := tk }) : Elt s₂ h₀ g₀ fx' g' mu' ls C d y s₃ := ⟨hs, g'', le, X, hv⟩
theorem zmap {x : Str} {px pos : Pos} {elt iter : Expr} {scope : Scope} {cl : List (Str × Addr)} {Q : Value → Shared → Prop} (F : D → D) (_X : Fz h₀ g₀ fx gi mu ls L s.heap)
    (hclos : closureFor scope env = pure cl) (hcell : ∀ y ∈ scope.names, y.2 ≠ .cell) (hkind : scope.kind = .function)
    (hnames : ∀ y ∈ scope.names, y.2 = .local → scope.names.lookup y.1 = some .local) (hx : scope.names.lookup x = some .local)
    (h : wpAny (model prog w) A (eval iter env) (fun v s₁ => ∃ gi mu ls ds, Fz h₀ g₀ fx gi mu ls env.locals s₁.heap ∧ Src prog w A s₁ gi v ds ∧ ds.length ≤ 10000 ∧
      (∀ (i : Nat) (d : D) (C : Addr) (g' fx' : GH) (mu' : List (Addr × MV)) (s₂ : Shared), ds[i]? = some d → gi.le g' → Fz h₀ g₀ fx' g' mu' [(x, d)] C s₂.heap → (∀ q ∈ mu, q ∈ mu') →
        wpAny (model prog w) A (eval elt (compEnvC scope cl C env)) (Elt s₂ h₀ g₀ fx' g' mu' [(x, d)] C (F d)) (fun _ _ => False) s₂) ∧
      (∀ a g' h' tk, gi.le g' → Fz h₀ g₀ fx g' mu ls env.locals h' → Has g' (.ref a) (.l (ds.map F)) → Q (.ref a) { s₁ with heap := h', toks := tk })) (fun _ _ => False) s)
    (hs : ∀ x, foldedSetIterable iter env x = pure x := by intro _; rfl) :
    wpAny (model prog w) A (eval (.ListComp elt [⟨.Name x px, iter, [], 0⟩] scope pos) env) Q (fun _ _ => False) s := by
  refine zcomp (h₀ := h₀) (g₀ := g₀) (fx := fx) (fun _ => true) F hclos hcell hkind hnames hx (wpAny_mono h (fun v s₁ h₁ => ?_) fun _ _ e => e) hs
  obtain ⟨gi, mu, ls, ds, Y, S, hl, he, hf⟩ := h₁
  refine ⟨gi, mu, ls, ds, Y, S, hl, fun i d C g' fx' mu' s₂ hd le Z hm => wpAny_pure ⟨rfl, ⟨_, _, rfl⟩, _, GH.le.refl _, Z⟩, fun i d C g' fx' mu' s₂ hd _ le Z hm => he i d C g' fx' mu' s₂ hd le Z hm, fun a g' h' tk le Z hv => hf a g' h' tk le Z ?_⟩
  rw [List.filter_eq_self.mpr (fun _ _ => rfl)] at hv
  exact hv
theorem zmapA {x y : Str} {px py pos spos : Pos} {elt iter : Expr} {scope : Scope} {cl : List (Str × Addr)} {Q : Flow → Shared → Prop} (F : D → D) (_X : Fz h₀ g₀ fx gi mu ls L s.heap)
    (hclos : closureFor scope env = pure cl) (hcell : ∀ y ∈ scope.names, y.2 ≠ .cell) (hkind : scope.kind = .function)
    (hnames : ∀ y ∈ scope.names, y.2 = .local → scope.names.lookup y.1 = some .local) (hx : scope.names.lookup x = some .local)
    (h : wpAny (model prog w) A (eval iter env) (fun v s₁ => ∃ gi mu ls ds, Fz h₀ g₀ fx gi mu ls env.locals s₁.heap ∧ Src prog w A s₁ gi v ds ∧ ds.length ≤ 10000 ∧
      (∀ (i : Nat) (d : D) (C : Addr) (g' fx' : GH) (mu' : List (Addr × MV)) (s₂ : Shared), ds[i]? = some d → gi.le g' → Fz h₀ g₀ fx' g' mu' [(x, d)] C s₂.heap → (∀ q ∈ mu, q ∈ mu') →
        wpAny (model prog w) A (eval elt (compEnvC scope cl C env)) (Elt s₂ h₀ g₀ fx' g' mu' [(x, d)] C (F d)) (fun _ _ => False) s₂) ∧
      (∀ (a : Addr) (g' : GH) (h' : Heap) (tk : Nat), gi.le g' → Fz h₀ g₀ fx g' mu ((y, .l (ds.map F)) :: ls) env.locals h' → Q .next { s₁ with heap := h', toks := tk })) (fun _ _ => False) s)
    (hsw : swapsWith (.ListComp elt [⟨.Name x px, iter, [], 0⟩] scope pos) (some (.Name y py)) spos.line env = pure true)
    (hy : env.kindOf y = some .local) (hp : (env.scope.kind == .class || (env.scope.kind == .module && env.locals != env.globals)) = false)
    (hs : ∀ x, foldedSetIterable iter env x = pure x := by intro _; rfl) :
    wpAny (model prog w) A (exec (.Assign [.Name y py] (.ListComp elt [⟨.Name x px, iter, [], 0⟩] scope pos) spos) env) Q (fun _ _ => False) s := by
  refine zcompA (h₀ := h₀) (g₀ := g₀) (fx := fx) (fun _ => true) F hclos hcell hkind hnames hx (wpAny_mono h (fun v s₁ h₁ => ?_) fun _ _ e => e) hsw hy hp hs
  obtain ⟨gi, mu, ls, ds, Y, S, hl, he, hf⟩ := h₁
  refine ⟨gi, mu, ls, ds, Y, S, hl, fun i d C g' fx' mu' s₂ hd le Z hm => wpAny_pure ⟨rfl, ⟨_, _, rfl⟩, _, GH.le.refl _, Z⟩, fun i d C g' fx' mu' s₂ hd _ le Z hm => he i d C g' fx' mu' s₂ hd le Z hm, fun a g' h' tk le Z => hf a g' h' tk le ?_⟩
  rw [List.filter_eq_self.mpr (fun _ _ => rfl)] at Z
  exact Z
end
end Mine
end
section
open PySem PySem.W PySem.Calls PyProof.Rows PySem.Builtin.Str
set_option Elab.async false
set_option maxRecDepth 100000
namespace Mine
section
variable {K : Params → Frag} {prog : Program} {w : World} {A : Around} {E : Value → Shared → Prop} {s : Shared} {h₀ : Heap} {g₀ fx gi : GH} {mu : List (Addr × MV)} {ls : List (Str × D)} {env : Env} {L : Addr}

theorem mem_lookup {x : Str} {d : D} : ∀ {ls : List (Str × D)}, ls.lookup x = some d → (x, d) ∈ ls
  | [], e => by cases e
  | (y, d') :: r, e => by
    rw [List.lookup_cons] at e
    cases hx : x == y with
    | true => rw [hx] at e; cases e; rw [eq_of_beq hx]; exact .head _
    | false => rw [hx] at e; exact .tail _ (mem_lookup e)
/-- a def of the top with cells -/
theorem call_fzC (g : GH) (binds : List (Str × Value)) (ls : List (Str × D)) (mu : Addr → List (Addr × MV)) {name qual : Str} {params : Arguments} {body : List Stmt} {scope : Scope} {dV kV doc pm cdv ct oc : Value} {an od : Option Addr} {osl : Array (Option Value)} {f : Addr} {pos : List Value} {Q : Value → Shared → Prop}
    (G : Gl K w s.heap) (hg : g.le s.heap.get?) (ho : (K w.params).lookup f = some ⟨oc, od, .func (fnOf name qual params body scope dV kV doc pm an cdv ct), osl⟩) (hcd : codeIn (K w.params) cdv qual = true) (hroom : A.depth < recursionLimit)
    (hbind : bindArgs (fnOf name qual params body scope dV kV doc pm an cdv ct) ⟨pos, []⟩ = pure binds)
    (hkind : ∀ n, ∀ x ∈ binds, scope.names.lookup x.1 = some .local ∨ (scope.names.lookup x.1 = some .cell ∧ ((cellsFrom n scope.names []).lookup x.1).isSome = true))
    (hls : ∀ L, ∀ p ∈ ls, ∃ v, bindL (envOfC qual scope L f cdv).kindOf binds (fun _ => none) p.1 = some v ∧ Has g v p.2)
    (hmu : ∀ L, ∀ p ∈ mu L, ∃ n, (cellsFrom (L + 1) scope.names []).lookup n = some p.1 ∧ match p.2 with
      | .cell none => bindC (envOfC qual scope L f cdv).kindOf binds (fun _ => none) n = none
      | .cell (some d) => ∃ v, bindC (envOfC qual scope L f cdv).kindOf binds (fun _ => none) n = some v ∧ Has g v d
      | .lst _ => False)
    (hnd : ∀ L, ((mu L).map (·.1)).Nodup)
    (h : ∀ h₁ tk, Gl K w s.heap → Fz s.heap g s.heap.get? g (mu s.heap.objs.size) ls s.heap.objs.size h₁ →
      wpAny (model prog w) (A.deeper (envOfC qual scope s.heap.objs.size f cdv)) (execs body (envOfC qual scope s.heap.objs.size f cdv))
        (fun fl s' => Q (match fl with | .ret v => v | _ => .none) s') (fun _ _ => False) { s with heap := h₁, toks := tk })
    (hco : scope.isCoroutine = false) (hgen : scope.isGenerator = false) (hk : scope.kind = .function) :
    wpAny (model prog w) A (call (.ref f) pos) Q E s := by
  refine wpAny_call (codeAny_call_cells (fd := fnOf name qual params body scope dV kV doc pm an cdv ct) (body := body) (binds := binds) hroom (G.k _ _ ho) rfl G.nl (codeRec_of G.k hcd) rfl hbind rfl (hkind _) (fun s₁ X => ?_) hco hgen hk)
  obtain ⟨h₁, tk, rfl, hkeep⟩ := X.done
  have F : Fr s.heap s.heap.objs.size h₁ (bindL (envOfC qual scope s.heap.objs.size f cdv).kindOf binds fun _ => none) := ⟨X.toInCall.ns, X.toInCall.keep, X.toInCall.fresh⟩
  have Y := Fz.start (ls := ls) F hg (Nat.le_refl _) fun x d e => hls _ _ (mem_lookup e)
  have Z : Fz s.heap g s.heap.get? g (mu s.heap.objs.size) ls s.heap.objs.size h₁ := { Y with
    mv := fun q c hm => by
      obtain ⟨n, hn, hc⟩ := hmu _ _ hm
      have hab : s.heap.objs.size < q := X.above n q (mem_of_lookup hn)
      have hcell := X.cell n q hn
      have hno : s.heap.get? q = none := by
        cases e : s.heap.get? q with
        | none => rfl
        | some o => exact absurd (Heap.lt_size e) (Nat.not_lt.mpr (Nat.le_of_lt hab))
      refine ⟨?_, Nat.ne_of_gt hab, hno, ?_, Nat.le_of_lt hab⟩
      · cases c with
        | lst ds => exact hc.elim
        | cell d =>
          cases d with
          | none =>
            have hc' : bindC (envOfC qual scope s.heap.objs.size f cdv).kindOf binds (fun _ => none) n = none := hc
            have hcell' : h₁.IsCell q (bindC (envOfC qual scope s.heap.objs.size f cdv).kindOf binds (fun _ => none) n) := hcell
            rw [hc'] at hcell'; exact hcell'
          | some d =>
            obtain ⟨v, hv, hh⟩ := hc
            have hcell' : h₁.IsCell q (bindC (envOfC qual scope s.heap.objs.size f cdv).kindOf binds (fun _ => none) n) := hcell
            rw [hv] at hcell'; exact ⟨v, hcell', hh⟩
      · cases e : g q with
        | none => rfl
        | some o => have := hg q o e; rw [hno] at this; cases this
    nd := hnd _ }
  exact wpAny_mono (h h₁ tk G Z) (fun _ _ x => x) fun _ _ x => x.elim
theorem zfd (x y : Nat) {a b : Int} {t u : Tok} {Q : Value → Shared → Prop} (ha : a = x) (hb : b = y) (h0 : 0 < y) (hy : y < 1073741824) (h : ∀ t tk, Q (.int ((x / y : Nat) : Int) t) { s with toks := tk }) : wpAny (model prog w) A (binaryOp .FloorDiv (.int a t) (.int b u)) Q E s := by
  subst ha; subst hb
  refine PyProof.Rows.floordiv_int (by omega) ?_ (.inl (PyProof.noPylong_small (by omega)))
  have e : Int.fdiv (x : Int) (y : Int) = ((x / y : Nat) : Int) := by rw [Int.fdiv_eq_ediv_of_nonneg _ (by omega)]; rfl
  rw [e]; exact h _ _
theorem zfm (x y : Nat) {a b : Int} {t u : Tok} {Q : Value → Shared → Prop} (ha : a = x) (hb : b = y) (h0 : 0 < y) (hy : y < 1073741824) (h : ∀ t tk, Q (.int ((x % y : Nat) : Int) t) { s with toks := tk }) : wpAny (model prog w) A (binaryOp .Mod (.int a t) (.int b u)) Q E s := by
  subst ha; subst hb
  refine PyProof.Rows.mod_int' (by omega) ?_
  have e : Int.fmod (x : Int) (y : Int) = ((x % y : Nat) : Int) := by rw [Int.fmod_eq_emod_of_nonneg _ (by omega)]; rfl
  rw [e]; exact h _ _
theorem zpow (x y : Nat) {a b : Int} {t u : Tok} {Q : Value → Shared → Prop} (ha : a = x) (hb : b = y) (hx : x < 2 ^ 60) (hy : y ≤ 1000) (h : ∀ t tk, Q (.int ((x ^ y : Nat) : Int) t) { s with toks := tk }) : wpAny (model prog w) A (binaryOp .Pow (.int a t) (.int b u)) Q E s := by
  subst ha; subst hb
  refine PyProof.Rows.pow_int_small (by omega) (by omega) (by omega) ?_
  have e : (x : Int) ^ (y : Int).toNat = ((x ^ y : Nat) : Int) := by simp
  rw [e]; exact h _ _
theorem zsum {a : Addr} {ns : List Int} {Q : Value → Shared → Prop} (hh : A.handled = none) (X : Fz h₀ g₀ fx gi mu ls L s.heap) (ha : Has gi (.ref a) (.l (ns.map .i)))
    (h : ∀ (n : Int) t' g' h' tk, gi.le g' → Fz h₀ g₀ fx g' mu ls L h' → Q (.int n t') { s with heap := h', toks := tk }) : wpAny (model prog w) A (call (.builtin "sum") [.ref a]) Q E s := by
  obtain ⟨vs, n, xa⟩ := ha.obj X.sub
  obtain ⟨xs, hx⟩ := (HasAll.ints xa.all).allInts.items
  have hl : s.heap.IsList a (intItems xs) := hx ▸ xa.list
  exact sum_intListG hh hl fun h' tk t' hk => h _ t' _ h' tk (grow_le X.sub) (X.ext hk)
theorem zmodI (y : Nat) {a b : Int} {t u : Tok} {Q : Value → Shared → Prop} (hb : b = y) (h0 : 0 < y) (h : ∀ (r : Nat) t tk, r < y → Q (.int (r : Int) t) { s with toks := tk }) : wpAny (model prog w) A (binaryOp .Mod (.int a t) (.int b u)) Q E s := by
  subst hb
  refine PyProof.Rows.mod_int' (by omega) ?_
  have e : Int.fmod a (y : Int) = ((Int.fmod a (y : Int)).toNat : Int) := by
    have := Int.fmod_nonneg_of_pos a (b := (y : Int)) (by omega)
    omega
  have e2 : Int.fmod a (y : Int) < y := Int.fmod_lt_of_pos a (by omega)
  rw [e]; exact h _ _ _ (by omega)
end
end Mine
end
section
open PySem PySem.W PySem.Calls PyProof.Rows
open AutoSeq1 (wpAny_loadPart')
set_option Elab.async false
set_option maxRecDepth 100000
namespace Mine

/-! map -/
theorem slot_map_next : Slot "map" "__next__" "map.__next__" :=
  .of (owner := "map") (n := "__next__") (by rw [typeLookup_type, builtinLookup_eq_fast]; kernel_rfl) (by decide +kernel) (by decide +kernel) (by decide +kernel)
    (by first | exact .inl (by decide +kernel) | exact .inr (by decide +kernel)) (by rw [isSubtype_type]; kernel_rfl)
theorem slot_map_iter : Slot "map" "__iter__" "map.__iter__" :=
  .of (owner := "map") (n := "__iter__") (by rw [typeLookup_type, builtinLookup_eq_fast]; kernel_rfl) (by decide +kernel) (by decide +kernel) (by decide +kernel)
    (by first | exact .inl (by decide +kernel) | exact .inr (by decide +kernel)) (by rw [isSubtype_type]; kernel_rfl)
theorem slot_map_init : Slot "map" "__init__" "object.__init__" :=
  .of (owner := "object") (n := "__init__") (by rw [typeLookup_type, builtinLookup_eq_fast]; kernel_rfl) (by decide +kernel) (by decide +kernel) (by decide +kernel)
    (by first | exact .inl (by decide +kernel) | exact .inr (by decide +kernel)) (by rw [isSubtype_type]; kernel_rfl)
theorem entry_map_next : entryFor table "map.__next__" = some Builtin.«map.__next__» := entryFor_of_tree (by kernel_rfl)
theorem entry_map_new : entryFor table "map.__new__" = some Builtin.«map.__new__» := entryFor_of_tree (by kernel_rfl)
theorem entry_map_iter : entryFor table "map.__iter__" = some Builtin.«dict_keyiterator.__iter__» :=
  entryFor_alias (id' := "dict_keyiterator.__iter__") (by kernel_rfl) (by first | rfl | decide +kernel | (unfold String.splitOn; simp +decide [String.splitOnAux])) (by decide +kernel) (by kernel_rfl)
theorem args_map_next (a : Value) : argsOk "map.__next__" ⟨[a], []⟩ := by unfold argsOk; kernel_rfl
theorem args_map_iter (a : Value) : argsOk "map.__iter__" ⟨[a], []⟩ := by unfold argsOk; kernel_rfl
theorem map_no_len : typeLookup (.type "map") "__len__" = pure none := by rw [typeLookup_type, builtinLookup_eq_fast]; kernel_rfl
theorem map_no_hint : typeLookup (.type "map") "__length_hint__" = pure none := by rw [typeLookup_type, builtinLookup_eq_fast]; kernel_rfl
theorem mro_map : mroOf (.type "map") = pure [.type "map", .type "object"] := by rw [mroOf_type]; kernel_rfl
theorem lookup_map_new : typeLookup (.type "map") "__new__" = pure (some (.builtin "map.__new__")) := by rw [typeLookup_type, builtinLookup_eq_fast]; kernel_rfl
theorem called_map : TypeCalled "map" "map.__new__" "object.__init__" :=
  ⟨by decide +kernel, by decide +kernel, ⟨_, _, mro_map⟩, madeBy_type mro_map lookup_map_new (by decide +kernel), by decide +kernel, by rw [isSubtype_type]; kernel_rfl, slot_map_init⟩
theorem typeCall_map (a b : Value) : checkTypeCall "map" ⟨[a, b], []⟩ = pure () := by kernel_rfl
theorem newCall_map (a b : Value) : checkBuiltinCall "map.__new__" ⟨[.type "map", a, b], []⟩ = pure () := by kernel_rfl
theorem sub_map : isSubtype (.type "map") (.type "map") = pure true := by rw [isSubtype_type]; kernel_rfl
end Mine
end
section
open PySem PySem.W PySem.Calls PyProof.Rows
open AutoSeq1 (wpAny_loadPart')
set_option Elab.async false
set_option maxRecDepth 100000
namespace Mine
theorem args_init3 (o a b : Value) : argsOk "object.__init__" ⟨[o, a, b], []⟩ := by unfold argsOk; kernel_rfl
abbrev mapObj (t : Addr) (f : Value) : Obj := { cls := .type "map", data := .fields #[.ref t, f] }
theorem meets_map_new (f : Value) (l : Addr) (items : Array Value) (n : Nat) :
    Meets (Builtin.«map.__new__» ⟨[.type "map", f, .ref l], []⟩) (fun _ R s => s.heap.get? l = some { cls := .type "list", dict := none, data := .seq items n, slots := #[] } ∧
      R (.ok (.ret (.ref ((s.heap.push { cls := .type "list_iterator", data := .fields #[.ref l, .int 0 0] }).push { cls := .type "tuple", data := .seq #[.ref s.heap.objs.size] }).objs.size)))
        { s with heap := ((s.heap.push { cls := .type "list_iterator", data := .fields #[.ref l, .int 0 0] }).push { cls := .type "tuple", data := .seq #[.ref s.heap.objs.size] }).push (mapObj (s.heap.push { cls := .type "list_iterator", data := .fields #[.ref l, .int 0 0] }).objs.size f) }) :=
  .of_wp fun prog w A R s h => by
    obtain ⟨hp, g, d, tk, os⟩ := s; obtain ⟨hl, h⟩ := h
    have hsub := sub_map
    have hL : Heap.IsList (Shared.heap ⟨hp, g, d, tk, os⟩) l items := ⟨_, hl, rfl, n, rfl⟩
    wp_walk using wpAny_loadPart' hl, wpAny_pyIter_list hL
    exact ⟨_, rfl, h⟩
/-- what a map object over a list holds -/
structure MapSt (h₀ : Heap) (m t it l : Addr) (f : Value) (items : Array Value) (i : Nat) (h : Heap) : Prop where
  old : ∀ b o, h₀.get? b = some o → h.get? b = some o
  mp : h.get? m = some (mapObj t f)
  tp : h.get? t = some { cls := .type "tuple", data := .seq #[.ref it] }
  li : h.IsListIter it l i
  ls : h.IsList l items
section
variable {prog : Program} {w : World} {A : Around} {E : Value → Shared → Prop} {s : Shared}
theorem call_map {f : Value} {l : Addr} {items : Array Value} {n : Nat} {Q : Value → Shared → Prop}
    (hl : s.heap.get? l = some { cls := .type "list", dict := none, data := .seq items n, slots := #[] })
    (h : ∀ h', MapSt s.heap (s.heap.objs.size + 2) (s.heap.objs.size + 1) s.heap.objs.size l f items 0 h' → h'.objs.size = s.heap.objs.size + 3 → Q (.ref (s.heap.objs.size + 2)) { s with heap := h' }) :
    wpAny (model prog w) A (call (.type "map") [f, .ref l]) Q E s := by
  refine callType_new called_map (by decide) (typeCall_map _ _) (newCall_map _ _) (fun obj => args_init3 obj _ _) entry_map_new
    (meets_map_new f l items n) ⟨hl, ?_⟩
  have e1 := Heap.get?_push_size s.heap (o := { cls := .type "list_iterator", data := .fields #[.ref l, .int 0 0] }) rfl
  have z1 : (s.heap.push { cls := .type "list_iterator", data := .fields #[.ref l, .int 0 0] }).objs.size = s.heap.objs.size + 1 := Heap.size_push ..
  generalize hh1 : s.heap.push { cls := .type "list_iterator", data := .fields #[.ref l, .int 0 0] } = h1 at e1 z1 ⊢
  have e2 := Heap.get?_push_size h1 (o := { cls := .type "tuple", data := .seq #[.ref s.heap.objs.size] }) rfl
  have z2 : (h1.push { cls := .type "tuple", data := .seq #[.ref s.heap.objs.size] }).objs.size = s.heap.objs.size + 2 := by rw [Heap.size_push, z1]
  have k2 : ∀ b o, h1.get? b = some o → (h1.push { cls := .type "tuple", data := .seq #[.ref s.heap.objs.size] }).get? b = some o := fun b o e => Heap.get?_push_of_some _ e
  generalize h1.push { cls := .type "tuple", data := .seq #[.ref s.heap.objs.size] } = h2 at e2 z2 k2 ⊢
  have e3 := Heap.get?_push_size h2 (o := mapObj h1.objs.size f) rfl
  have z3 : (h2.push (mapObj h1.objs.size f)).objs.size = s.heap.objs.size + 3 := by rw [Heap.size_push, z2]
  have k3 : ∀ b o, h2.get? b = some o → (h2.push (mapObj h1.objs.size f)).get? b = some o := fun b o e => Heap.get?_push_of_some _ e
  generalize h2.push (mapObj h1.objs.size f) = h3 at e3 z3 k3 ⊢
  rw [z1] at e2 e3
  rw [z2] at e3
  have old : ∀ b o, s.heap.get? b = some o → h3.get? b = some o := fun b o e => k3 b o (k2 b o (hh1 ▸ Heap.get?_push_of_some _ e))
  show _ ∧ _
  rw [z2]
  exact ⟨⟨_, e3, rfl⟩, h h3 ⟨old, e3, k3 _ _ e2, ⟨_, k3 _ _ (k2 _ _ e1), rfl, rfl⟩, ⟨_, old _ _ hl, rfl, n, rfl⟩⟩ z3⟩

theorem walks_map (hh : A.handled = none) (h₀ : Heap) (m t it l : Addr) (f : Value) (items : Array Value) (P : Nat → Value → Prop) (hm : h₀.objs.size ≤ m) (ht : h₀.objs.size ≤ t) (hi : h₀.objs.size ≤ it) (hmi : m ≠ it) (hti : t ≠ it) (hli : l < h₀.objs.size)
    (hf : ∀ i v (s : Shared) (Q : Value → Shared → Prop) (E : Value → Shared → Prop), items[i]? = some v → (∀ b o, h₀.get? b = some o → s.heap.get? b = some o) →
      (∀ v' h' tk, P i v' → (∀ b o, s.heap.get? b = some o → h'.get? b = some o) → Q v' { s with heap := h', toks := tk }) → wpAny (model prog w) A.in1 (call f [v]) Q E s) :
    Walks prog w A m (m :: t :: it :: List.range h₀.objs.size) [it] items.size P (MapSt h₀ m t it l f items) where
  sub := fun b hb => by rw [List.mem_singleton.mp hb]; exact .tail _ (.tail _ (.head _))
  frame := fun i h h' X hk => by
    have k0 : ∀ b o, h₀.get? b = some o → h'.get? b = some o := fun b o e => hk b (.tail _ (.tail _ (.tail _ (List.mem_range.mpr (Heap.lt_size e))))) o (X.old b o e)
    exact ⟨k0, hk _ (.head _) _ X.mp, hk _ (.tail _ (.head _)) _ X.tp, X.li.at fun o e => hk _ (.tail _ (.tail _ (.head _))) o e, X.ls.at fun o e => hk _ (.tail _ (.tail _ (.tail _ (List.mem_range.mpr hli)))) o e⟩
  item := fun i s Q E hi' X hQ => by
    have hT : s.TypeIs (.ref m) "map" := ⟨_, X.mp, rfl⟩
    unfold pyNext
    refine wpAny_bind (wpAny_attempt (wpAny_callSpecial?_slot (name := Str.ofString "__next__") hT slot_map_next
      (wpAny_call_entry slot_map_next hT entry_map_next ?_ (args_map_next _))))
    show wpAny _ _ (field (.ref m) 0 >>= _) _ _ _
    refine wpAny_bind (wpAny_field X.mp rfl (x := .ref t) rfl ?_)
    show wpAny _ _ (seqItems? (.ref t) >>= _) _ _ _
    refine wpAny_bind (wpAny_seqItems X.tp rfl ?_)
    dsimp only
    rw [← Array.forIn_toList]
    simp only [List.forIn_cons, List.forIn_nil]
    refine wpAny_bind (wpAny_bind (wpAny_bind (wpAny_holding (wpAny_nextOf_list_item X.li X.ls (x := items[i]) (by simp [hi']) fun h1 li1 hs1 => wpAny_pure (wpAny_pure ?_)))))
    have X1 : MapSt h₀ m t it l f items (i + 1) h1 := ⟨fun b o e => (hs1.2 b (fun z => by subst z; exact absurd (Heap.lt_size e) (Nat.not_lt.mpr hi))).trans (X.old b o e), (hs1.2 _ hmi).trans X.mp, (hs1.2 _ hti).trans X.tp, li1,
      X.ls.at fun o e => (hs1.2 _ (fun z => by subst z; exact absurd hli (Nat.not_lt.mpr hi))).trans e⟩
    show wpAny _ _ (field (.ref m) 1 >>= _) _ _ _
    refine wpAny_bind (wpAny_field X1.mp rfl (x := f) rfl ?_)
    refine wpAny_bind (wpAny_holding ?_)
    refine hf i items[i] _ _ _ (by simp [hi']) X1.old fun v' h' tk hP k => ?_
    refine wpAny_bind (wpAny_letGo (wpAny_pure ⟨_, rfl, wpAny_pure ?_⟩))
    refine hQ v' h' tk hP ⟨fun b o e => k b o (X1.old b o e), k _ _ X1.mp, k _ _ X1.tp, X1.li.at fun o e => k _ o e, X1.ls.at fun o e => k _ o e⟩ fun b o hb e => k b o ((hs1.2 b (fun z => hb (by simp [z]))).trans e)
  done := fun s Q E X hQ => by
    have hT : s.TypeIs (.ref m) "map" := ⟨_, X.mp, rfl⟩
    unfold pyNext
    refine wpAny_bind (wpAny_attempt (wpAny_callSpecial?_slot (name := Str.ofString "__next__") hT slot_map_next
      (wpAny_call_entry slot_map_next hT entry_map_next ?_ (args_map_next _))))
    show wpAny _ _ (field (.ref m) 0 >>= _) _ _ _
    refine wpAny_bind (wpAny_field X.mp rfl (x := .ref t) rfl ?_)
    show wpAny _ _ (seqItems? (.ref t) >>= _) _ _ _
    refine wpAny_bind (wpAny_seqItems X.tp rfl ?_)
    dsimp only
    rw [← Array.forIn_toList]
    simp only [List.forIn_cons, List.forIn_nil]
    refine wpAny_bind (wpAny_bind (wpAny_bind (wpAny_holding (wpAny_nextOf_list_end hh X.li X.ls (by simp) fun h1 e he1 hx => ?_))))
    obtain ⟨o, ho, hc⟩ := hx
    refine wpAny_bind (wpAny_isInstance (T := "StopIteration") (b := true) ⟨o, ho, hc⟩ isSubtype_stop ?_)
    exact wpAny_pure (hQ h1 _ fun b o hb e => he1 b o (fun z => hb (by simp [z])) e)
  self := fun i s Q E X hQ => by
    have hT : s.TypeIs (.ref m) "map" := ⟨_, X.mp, rfl⟩
    refine wpAny_pyIter_slot hT slot_map_iter (wpAny_call_entry slot_map_iter hT entry_map_iter ?_ (args_map_iter _))
    show wpAny _ _ (ret (.ref m)) _ _ s
    exact wpAny_pure ⟨_, rfl, "map", _, hT, slot_map_next.lookup, hQ⟩

theorem collect_map {Q : List Value → Shared → Prop} {I : Addr} {fp wr : List Addr} {n : Nat} {P : Nat → Value → Prop} {St : Nat → Heap → Prop} (W : Walks prog w A.in1 I fp wr n P St) (hT : ∀ i h, St i h → ∃ o, h.get? I = some o ∧ o.cls = .type "map") (hst : St 0 s.heap) (hfp : ∀ b ∈ fp, b < s.heap.objs.size) (hI : I ∈ fp) (hn : n ≤ sizeLine)
    (hQ : ∀ h' tk acc, (∀ b o, b ∉ wr → s.heap.get? b = some o → h'.get? b = some o) → ItemsOf P acc n → Q acc.toList { s with heap := h', toks := tk }) : wpAny (model prog w) A (collect (.ref I)) Q E s := by
  have hSf : s.heap.objs.size ∉ fp := fun hm => Nat.lt_irrefl _ (hfp _ hm)
  have hSI : s.heap.objs.size ≠ I := fun e => hSf (e ▸ hI)
  have typ : ∀ (s₁ : Shared), St 0 s₁.heap → s₁.TypeIs (.ref I) "map" := fun s₁ x => hT 0 _ x
  unfold collect
  refine wpAny_bind (wpAny_runValue (codeAny_builtin PySem.F.entry_proto_collect ?_))
  rw [Around.under_plainId PySem.F.plain_proto_collect _]
  show wpAny _ A.in1 (newList [] >>= fun l => again (.builtin "list.__iadd__" ⟨[l, .ref I], []⟩)) _ _ s
  refine wpAny_bind (wpAny_newObj_type ?_)
  refine wpAny_pure ⟨plainId_quiet PySem.F.plain_list_iadd _, codeAny_builtin PySem.F.entry_list_iadd ?_⟩
  rw [Around.under_plainId PySem.F.plain_list_iadd _]
  have hk1 : ∀ b o, s.heap.get? b = some o → (s.heap.push { cls := .type "list", data := .seq ([] : List Value).toArray }).get? b = some o := fun b o e => Heap.get?_push_of_some _ e
  have hS1 : (s.heap.push { cls := .type "list", data := .seq ([] : List Value).toArray }).get? s.heap.objs.size = some { cls := .type "list", data := .seq #[] } := Heap.get?_push_size _ rfl
  have hst₁ := W.frame 0 _ _ hst fun b _ o e => hk1 b o e
  generalize hH : s.heap.push { cls := .type "list", data := .seq ([] : List Value).toArray } = H at hk1 hS1 hst₁
  show wpAny _ A.in1 (Builtin.List.listExtendWith (.ref s.heap.objs.size) (.ref I) (.ref s.heap.objs.size)) _ _ _
  simp only [hH]
  unfold Builtin.List.listExtendWith
  refine wpAny_bind (wpAny_typeOf (typ _ hst₁) ?_)
  have h1 : Builtin.List.listSameRef (.ref s.heap.objs.size) (.ref I) = false := by simp [Builtin.List.listSameRef, hSI]
  have h2 : (Value.type "map" == Value.type "list") = false := by decide
  have h3 : (Value.type "map" == Value.type "tuple") = false := by decide
  simp only [h1, h2, h3, Bool.or_false, Bool.false_eq_true, if_false]
  refine wpAny_bind (W.self 0 _ _ _ hst₁ ?_)
  refine wpAny_bind (wpAny_holding ?_)
  unfold Builtin.List.listLengthHint
  refine wpAny_bind (wpAny_specialOf (typ _ hst₁) map_no_len ?_)
  show wpAny _ A.in1 (specialOf (Value.ref I) (Str.ofString "__length_hint__") >>= _) _ _ _
  refine wpAny_bind (wpAny_specialOf (typ _ hst₁) map_no_hint ?_)
  refine wpAny_pure ?_
  show wpAny _ A.in1 (rule "list.extend.makes-room" >>= fun _ => Builtin.List.listTouch (.ref s.heap.objs.size) >>= fun _ =>
    again (.builtin "list.extend.loop" ⟨[.ref s.heap.objs.size, .ref I, .ref s.heap.objs.size], []⟩)) _ _ _
  refine wpAny_bind (wpAny_rule ?_)
  refine wpAny_bind ?_
  show wpAny _ A.in1 (updateSeq s.heap.objs.size (·.push .none) >>= fun _ => updateSeq s.heap.objs.size (·.pop)) _ _ _
  refine wpAny_bind (wpAny_updateSeq hS1 rfl ?_)
  have hS2 := Heap.get?_update_self (Obj.mapSeq (·.push Value.none)) hS1 rfl
  refine wpAny_updateSeq hS2 rfl ?_
  have hS3 := Heap.get?_update_self (Obj.mapSeq (·.pop)) hS2 rfl
  have oth : ∀ b o, b ≠ s.heap.objs.size → H.get? b = some o → ((H.update s.heap.objs.size (Obj.mapSeq (·.push Value.none))).update s.heap.objs.size (Obj.mapSeq (·.pop))).get? b = some o :=
    fun b o hb e => (Heap.get?_update_other _ _ (Ne.symm hb)).trans ((Heap.get?_update_other _ _ (Ne.symm hb)).trans e)
  generalize (H.update s.heap.objs.size (Obj.mapSeq (·.push Value.none))).update s.heap.objs.size (Obj.mapSeq (·.pop)) = H3 at hS3 oth
  have hst3 : St 0 H3 := W.frame 0 _ _ hst₁ fun b hb o e => oth b o (fun z => hSf (z ▸ hb)) e
  refine wpAny_pure ⟨plainId_quiet PySem.F.plain_extend_loop _, codeAny_extend_loopS W.toS hn _ hSf _ n 0 _ _ _ rfl (Nat.zero_le _) hst3 hS3 (ItemsOf.nil P) fun s' acc' c' hm hS' hacc => ?_⟩
  show wpAny _ A (load s.heap.objs.size >>= _) _ _ s'
  refine wpAny_bind (wpAny_load hS' ?_)
  obtain ⟨h', gg, dd, tt, oo⟩ := s'
  have e1 : gg = s.gens := hm.gens
  have e2 : dd = s.drawn := hm.drawn
  have e3 : oo = s.os := hm.os
  subst e1; subst e2; subst e3
  refine wpAny_pure (hQ h' tt acc' (fun b o hb e => hm.heap b o (fun hm' => ?_) (oth b o (Nat.ne_of_lt (Heap.lt_size e)) (hk1 b o e))) hacc)
  rcases List.mem_cons.mp hm' with z | z
  · exact absurd (Heap.lt_size e) (by rw [z]; exact Nat.lt_irrefl _)
  · exact hb z
theorem call_tuple_map {Q : Value → Shared → Prop} {I : Addr} {fp wr : List Addr} {n : Nat} {P : Nat → Value → Prop} {St : Nat → Heap → Prop} (W : Walks prog w A.in1.in1.in1 I fp wr n P St) (hT : ∀ i h, St i h → ∃ o, h.get? I = some o ∧ o.cls = .type "map") (hst : St 0 s.heap) (hfp : ∀ b ∈ fp, b < s.heap.objs.size) (hI : I ∈ fp) (hn : n ≤ sizeLine)
    (hQ : ∀ (h' : Heap) (tk : Nat) (acc : Array Value), (∀ b o, b ∉ wr → s.heap.get? b = some o → h'.get? b = some o) → ItemsOf P acc n → Q (.ref h'.objs.size) { s with heap := h'.push { cls := .type "tuple", data := .seq acc }, toks := tk }) :
    wpAny (model prog w) A (call (.type "tuple") [.ref I]) Q E s := by
  refine callType_codes (Q₁ := fun obj s₁ => s₁.TypeIs obj "tuple" ∧ Q obj s₁) PySem.F.called_tuple (PySem.F.typeCall_tuple_1 _) PySem.F.entry_object_init ?_ fun obj s₁ h₁ => ?_
  · refine codeAny_of_tree ?_
    show wpAny _ A.in1.in1 (do checkBuiltinCall "tuple.__new__" ⟨[.type "tuple", .ref I], []⟩; again (.builtin "tuple.__new__" ⟨[.type "tuple", .ref I], []⟩)) _ _ s
    refine wpAny_bind (wpAny_of_eq (PySem.F.newCall_tuple_1 _) (wpAny_pure ⟨plainId_quiet PySem.F.plain_tuple_new _, codeAny_builtin PySem.F.entry_tuple_new ?_⟩))
    rw [Around.under_plainId PySem.F.plain_tuple_new _]
    have hsub := sub_tuple_self
    have hinit := init_tuple_lookup
    have hmh := madeHere_tuple
    have hTI : s.TypeIs (.ref I) "map" := hT 0 _ hst
    wp_walk using wpAny_typeOf hTI, collect_map W hT hst hfp hI hn
    intro h' tk acc hk hacc
    show wpAny _ _ (Builtin.Tuple.tupleExact acc.toList.toArray >>= fun v => ret v) _ _ _
    unfold Builtin.Tuple.tupleExact
    refine wpAny_bind (wpAny_newObj_type ?_ (by show acc.toList.toArray.size ≤ sizeLine; simp only [Array.toArray_toList]; rw [hacc.1]; exact hn))
    refine wpAny_pure ?_
    have e : acc.toList.toArray = acc := by simp
    rw [e]
    exact ⟨⟨_, Heap.get?_push_size _ rfl, rfl⟩, hQ h' tk acc hk hacc⟩
  · exact ⟨h₁.1, PySem.F.args_object_init_2 obj _, object_init_meets PySem.F.called_tuple.init.lookup PySem.F.called_tuple.made (by decide) prog w A.in1 _ s₁ ⟨h₁.1, rfl, h₁.2⟩⟩
end
end Mine
end
section
open PySem PySem.W PySem.Calls PyProof.Rows
open AutoSeq1 (wpAny_loadPart')
set_option Elab.async false
set_option maxRecDepth 100000
namespace Mine
/-- the order of lists of texts -/
def lexLt : List (List Nat) → List (List Nat) → Bool
  | _, [] => false
  | [], _ :: _ => true
  | x :: xs, y :: ys => if x = y then lexLt xs ys else decide (x < y)
theorem lexLt_nil (xs : List (List Nat)) : lexLt xs [] = false := by cases xs <;> rfl
theorem lexLt_end {xs ys : List (List Nat)} (h : xs = [] ∨ ys = []) : lexLt xs ys = decide (xs.length < ys.length) := by
  rcases h with rfl | rfl
  · cases ys with
    | nil => rfl
    | cons y r => show true = _; simp
  · rw [lexLt_nil]; simp
theorem lexLt_cons {x y : List Nat} {xs ys : List (List Nat)} : lexLt (x :: xs) (y :: ys) = if x = y then lexLt xs ys else decide (x < y) := rfl

theorem str_at {g : GH} {vs : List Value} {xs : List (List Nat)} (h : HasAll g vs (xs.map sd)) {i : Nat} (hi : i < xs.length) : ∃ t, vs[i]? = some (.str (S xs[i]) t) := by
  have hl : vs.length = xs.length := by have := h.1; simpa using this
  have hv : vs[i]? = some (vs[i]'(hl ▸ hi)) := List.getElem?_eq_getElem _
  obtain ⟨t, e⟩ := (h.2 i _ (sd xs[i]) hv (by simp [hi])).unS
  exact ⟨t, by rw [hv, e]⟩
theorem rc_lt {prog : Program} {w : World} {A : Around} {E : Value → Shared → Prop} {s : Shared} {x y : List Nat} {t u : Tok} {Q : Value → Shared → Prop} (h : Q (.bool (decide (x < y))) s) : wpAny (model prog w) A (richCompare .Lt (.str (S x) t) (.str (S y) u)) Q E s :=
  PyProof.Rows.lt_str (x := S x) (y := S y) (by rw [S_list, S_list]; exact h)
theorem rc_gt {prog : Program} {w : World} {A : Around} {E : Value → Shared → Prop} {s : Shared} {x y : List Nat} {t u : Tok} {Q : Value → Shared → Prop} (h : Q (.bool (decide (y < x))) s) : wpAny (model prog w) A (richCompare .Gt (.str (S x) t) (.str (S y) u)) Q E s :=
  PySem.P.gt_str (x := S x) (y := S y) (by rw [S_list, S_list]; exact h)
theorem eqb_str {prog : Program} {w : World} {A : Around} {E : Value → Shared → Prop} {s : Shared} {x y : List Nat} {t u : Tok} {Q : Bool → Shared → Prop} (h : Q (decide (x = y)) s) : wpAny (model prog w) A (eqBool (.str (S x) t) (.str (S y) u)) Q E s :=
  wpAny_eqBool_str (by
    have e : decide (S x = S y) = decide (x = y) := decide_eq_decide.mpr ⟨S_inj, fun h => by rw [h]⟩
    rw [e]; exact h)

theorem lt_loop {g : GH} (l b : Addr) (vs ws : List Value) (n m : Nat) (xs ys : List (List Nat)) (hx : HasAll g vs (xs.map sd)) (hy : HasAll g ws (ys.map sd)) (k : Nat) :
    ∀ i : Nat, xs.length - i = k → i ≤ xs.length → i ≤ ys.length → Meets (Builtin.«list.__eq__.loop» ⟨[.ref l, .ref b, rawInt i, rawInt 0], []⟩)
      (fun _ R s => s.heap.get? l = some { cls := .type "list", data := .seq vs.toArray n } ∧ s.heap.get? b = some { cls := .type "list", data := .seq ws.toArray m } ∧
        R (.ok (.ret (.bool (lexLt (xs.drop i) (ys.drop i))))) s) := by
  have hlx : vs.length = xs.length := by have := hx.1; simpa using this
  have hly : ws.length = ys.length := by have := hy.1; simpa using this
  induction k with
  | zero =>
    intro i hk hi1 hi2 prog w A R s h
    obtain ⟨hp, gg, d, tk, os⟩ := s; obtain ⟨hl, hb, h⟩ := h
    wp_walk using wpAny_loadPart' hl, wpAny_loadPart' hb
    have e1 : vs.toArray[((i : Nat) : Int).toNat]? = none := by simp; omega
    rw [e1]
    wp_walk using wpAny_loadPart' hl, wpAny_loadPart' hb
    show R (.ok (.ret (.bool (decide (vs.toArray.size < ws.toArray.size))))) _
    rw [lexLt_end (.inl (List.drop_of_length_le (by omega)))] at h
    have e2 : decide ((xs.drop i).length < (ys.drop i).length) = decide (vs.toArray.size < ws.toArray.size) := decide_eq_decide.mpr (by simp; omega)
    rw [e2] at h; exact h
  | succ k ih =>
    intro i hk hi1 hi2 prog w A R s h
    obtain ⟨hp, gg, d, tk, os⟩ := s; obtain ⟨hl, hb, h⟩ := h
    wp_walk using wpAny_loadPart' hl, wpAny_loadPart' hb
    have hlt : i < xs.length := by omega
    obtain ⟨t, ht⟩ := str_at hx hlt
    have e1 : vs.toArray[((i : Nat) : Int).toNat]? = some (.str (S xs[i]) t) := by simpa using ht
    rw [e1]
    by_cases hlt2 : i < ys.length
    · obtain ⟨u, hu⟩ := str_at hy hlt2
      have e2 : ws.toArray[((i : Nat) : Int).toNat]? = some (.str (S ys[i]) u) := by simpa using hu
      rw [e2]
      have hc : ((i : Int) + 1) = ((i + 1 : Nat) : Int) := by push_cast; rfl
      rw [List.drop_eq_getElem_cons hlt, List.drop_eq_getElem_cons hlt2, lexLt_cons] at h
      refine wpAny_bind (eqb_str ?_)
      by_cases hxy : xs[i] = ys[i]
      · rw [if_pos hxy] at h
        rw [decide_eq_true hxy]
        wp_walk
        rw [hc]
        exact ⟨plainId_quiet MeetsSeq3.plain_eq_loop _, codeAny_builtin MeetsSeq3.entry_eq_loop (by
          rw [Around.under_plainId MeetsSeq3.plain_eq_loop _]
          exact ih (i + 1) (by omega) hlt hlt2 prog w A R _ ⟨hl, hb, h⟩)⟩
      · rw [if_neg hxy] at h
        rw [decide_eq_false hxy]
        wp_walk using wpAny_loadPart' hl, wpAny_loadPart' hb
        rw [e1, e2]
        show wpAny _ _ (richCompare .Lt _ _ >>= fun r => ret r) _ _ _
        refine wpAny_bind (rc_lt ?_)
        exact wpAny_pure h
    · have e2 : ws.toArray[((i : Nat) : Int).toNat]? = none := by simp; omega
      rw [e2]
      wp_walk using wpAny_loadPart' hl, wpAny_loadPart' hb
      show R (.ok (.ret (.bool (decide (vs.toArray.size < ws.toArray.size))))) _
      rw [lexLt_end (.inr (List.drop_of_length_le (by omega)))] at h
      have e3 : decide ((xs.drop i).length < (ys.drop i).length) = decide (vs.toArray.size < ws.toArray.size) := decide_eq_decide.mpr (by simp; omega)
      rw [e3] at h; exact h
theorem gt_loop {g : GH} (l b : Addr) (vs ws : List Value) (n m : Nat) (xs ys : List (List Nat)) (hx : HasAll g vs (xs.map sd)) (hy : HasAll g ws (ys.map sd)) (k : Nat) :
    ∀ i : Nat, xs.length - i = k → i ≤ xs.length → i ≤ ys.length → Meets (Builtin.«list.__eq__.loop» ⟨[.ref l, .ref b, rawInt i, rawInt 4], []⟩)
      (fun _ R s => s.heap.get? l = some { cls := .type "list", data := .seq vs.toArray n } ∧ s.heap.get? b = some { cls := .type "list", data := .seq ws.toArray m } ∧
        R (.ok (.ret (.bool (lexLt (ys.drop i) (xs.drop i))))) s) := by
  have hlx : vs.length = xs.length := by have := hx.1; simpa using this
  have hly : ws.length = ys.length := by have := hy.1; simpa using this
  induction k with
  | zero =>
    intro i hk hi1 hi2 prog w A R s h
    obtain ⟨hp, gg, d, tk, os⟩ := s; obtain ⟨hl, hb, h⟩ := h
    wp_walk using wpAny_loadPart' hl, wpAny_loadPart' hb
    have e1 : vs.toArray[((i : Nat) : Int).toNat]? = none := by simp; omega
    rw [e1]
    wp_walk using wpAny_loadPart' hl, wpAny_loadPart' hb
    show R (.ok (.ret (.bool (decide (ws.toArray.size < vs.toArray.size))))) _
    rw [lexLt_end (.inr (List.drop_of_length_le (by omega)))] at h
    have e2 : decide ((ys.drop i).length < (xs.drop i).length) = decide (ws.toArray.size < vs.toArray.size) := decide_eq_decide.mpr (by simp; omega)
    rw [e2] at h; exact h
  | succ k ih =>
    intro i hk hi1 hi2 prog w A R s h
    obtain ⟨hp, gg, d, tk, os⟩ := s; obtain ⟨hl, hb, h⟩ := h
    wp_walk using wpAny_loadPart' hl, wpAny_loadPart' hb
    have hlt : i < xs.length := by omega
    obtain ⟨t, ht⟩ := str_at hx hlt
    have e1 : vs.toArray[((i : Nat) : Int).toNat]? = some (.str (S xs[i]) t) := by simpa using ht
    rw [e1]
    by_cases hlt2 : i < ys.length
    · obtain ⟨u, hu⟩ := str_at hy hlt2
      have e2 : ws.toArray[((i : Nat) : Int).toNat]? = some (.str (S ys[i]) u) := by simpa using hu
      rw [e2]
      have hc : ((i : Int) + 1) = ((i + 1 : Nat) : Int) := by push_cast; rfl
      have eqsym : (if ys[i] = xs[i] then lexLt (ys.drop (i + 1)) (xs.drop (i + 1)) else decide (ys[i] < xs[i])) = (if xs[i] = ys[i] then lexLt (ys.drop (i + 1)) (xs.drop (i + 1)) else decide (ys[i] < xs[i])) := by
        by_cases e : xs[i] = ys[i]
        · rw [if_pos e, if_pos e.symm]
        · rw [if_neg e, if_neg (Ne.symm e)]
      rw [List.drop_eq_getElem_cons hlt, List.drop_eq_getElem_cons hlt2, lexLt_cons, eqsym] at h
      refine wpAny_bind (eqb_str ?_)
      by_cases hxy : xs[i] = ys[i]
      · rw [if_pos hxy] at h
        rw [decide_eq_true hxy]
        wp_walk
        rw [hc]
        exact ⟨plainId_quiet MeetsSeq3.plain_eq_loop _, codeAny_builtin MeetsSeq3.entry_eq_loop (by
          rw [Around.under_plainId MeetsSeq3.plain_eq_loop _]
          exact ih (i + 1) (by omega) hlt hlt2 prog w A R _ ⟨hl, hb, h⟩)⟩
      · rw [if_neg hxy] at h
        rw [decide_eq_false hxy]
        wp_walk using wpAny_loadPart' hl, wpAny_loadPart' hb
        rw [e1, e2]
        show wpAny _ _ (richCompare .Gt _ _ >>= fun r => ret r) _ _ _
        refine wpAny_bind (rc_gt ?_)
        exact wpAny_pure h
    · have e2 : ws.toArray[((i : Nat) : Int).toNat]? = none := by simp; omega
      rw [e2]
      wp_walk using wpAny_loadPart' hl, wpAny_loadPart' hb
      show R (.ok (.ret (.bool (decide (ws.toArray.size < vs.toArray.size))))) _
      rw [lexLt_end (.inl (List.drop_of_length_le (by omega)))] at h
      have e3 : decide ((ys.drop i).length < (xs.drop i).length) = decide (ws.toArray.size < vs.toArray.size) := decide_eq_decide.mpr (by simp; omega)
      rw [e3] at h; exact h
theorem list_lt {g : GH} (l b : Addr) (vs ws : List Value) (n m : Nat) (xs ys : List (List Nat)) (hx : HasAll g vs (xs.map sd)) (hy : HasAll g ws (ys.map sd)) :
    Meets (Builtin.«list.__lt__» ⟨[.ref l, .ref b], []⟩)
      (fun _ R s => s.heap.get? l = some { cls := .type "list", data := .seq vs.toArray n } ∧ s.heap.get? b = some { cls := .type "list", data := .seq ws.toArray m } ∧ R (.ok (.ret (.bool (lexLt xs ys)))) s) := by
  intro prog w A R s h
  obtain ⟨hp, gg, d, tk, os⟩ := s; obtain ⟨hl, hb, h⟩ := h
  have f3 := AutoSeq1.sub_list_list
  wp_walk using wpAny_loadPart' hl, wpAny_loadPart' hb
  exact ⟨plainId_quiet MeetsSeq3.plain_eq_loop _, codeAny_builtin MeetsSeq3.entry_eq_loop (by
    rw [Around.under_plainId MeetsSeq3.plain_eq_loop _]
    exact lt_loop l b vs ws n m xs ys hx hy _ 0 rfl (Nat.zero_le _) (Nat.zero_le _) prog w A R _ ⟨hl, hb, by simpa using h⟩)⟩
theorem list_gt {g : GH} (l b : Addr) (vs ws : List Value) (n m : Nat) (xs ys : List (List Nat)) (hx : HasAll g vs (xs.map sd)) (hy : HasAll g ws (ys.map sd)) :
    Meets (Builtin.«list.__gt__» ⟨[.ref l, .ref b], []⟩)
      (fun _ R s => s.heap.get? l = some { cls := .type "list", data := .seq vs.toArray n } ∧ s.heap.get? b = some { cls := .type "list", data := .seq ws.toArray m } ∧ R (.ok (.ret (.bool (lexLt ys xs)))) s) := by
  intro prog w A R s h
  obtain ⟨hp, gg, d, tk, os⟩ := s; obtain ⟨hl, hb, h⟩ := h
  have f3 := AutoSeq1.sub_list_list
  wp_walk using wpAny_loadPart' hl, wpAny_loadPart' hb
  exact ⟨plainId_quiet MeetsSeq3.plain_eq_loop _, codeAny_builtin MeetsSeq3.entry_eq_loop (by
    rw [Around.under_plainId MeetsSeq3.plain_eq_loop _]
    exact gt_loop l b vs ws n m xs ys hx hy _ 0 rfl (Nat.zero_le _) (Nat.zero_le _) prog w A R _ ⟨hl, hb, by simpa using h⟩)⟩
section
variable {prog : Program} {w : World} {A : Around} {E : Value → Shared → Prop} {s : Shared} {gi : GH}
theorem zrc_lt {a b : Addr} {xs ys : List (List Nat)} {Q : Value → Shared → Prop} (k : gi.le s.heap.get?) (ha : Has gi (.ref a) (.l (xs.map sd))) (hb : Has gi (.ref b) (.l (ys.map sd))) (hu : A.units < cLine) (h : Q (.bool (lexLt xs ys)) s) :
    wpAny (model prog w) A (richCompare .Lt (.ref a) (.ref b)) Q E s := by
  obtain ⟨vs, n, xa⟩ := ha.obj k
  obtain ⟨ws, m, xb⟩ := hb.obj k
  exact richCompare_meets_room (op := .Lt) ⟨_, xa.ob, rfl⟩ ⟨_, xb.ob, rfl⟩ PySem.F.slot_list_lt PySem.F.entry_list_lt (PySem.F.args_list_lt_2 _ _)
    (list_lt a b vs ws n m xs ys xa.all xb.all) ⟨xa.ob, xb.ob, (fun x => nomatch x), h⟩ hu
theorem zrc_gt {a b : Addr} {xs ys : List (List Nat)} {Q : Value → Shared → Prop} (k : gi.le s.heap.get?) (ha : Has gi (.ref a) (.l (xs.map sd))) (hb : Has gi (.ref b) (.l (ys.map sd))) (hu : A.units < cLine) (h : Q (.bool (lexLt ys xs)) s) :
    wpAny (model prog w) A (richCompare .Gt (.ref a) (.ref b)) Q E s := by
  obtain ⟨vs, n, xa⟩ := ha.obj k
  obtain ⟨ws, m, xb⟩ := hb.obj k
  exact richCompare_meets_room (op := .Gt) ⟨_, xa.ob, rfl⟩ ⟨_, xb.ob, rfl⟩ PySem.F.slot_list_gt PySem.F.entry_list_gt (PySem.F.args_list_gt_2 _ _)
    (list_gt a b vs ws n m xs ys xa.all xb.all) ⟨xa.ob, xb.ob, (fun x => nomatch x), h⟩ hu
end
end Mine
end
section
open PySem PySem.W PySem.Calls PyProof.Rows
open AutoSeq1 (wpAny_loadPart')
set_option Elab.async false
set_option maxRecDepth 100000
namespace Mine
def lessAt (xss : List (List (List Nat))) (i j : Nat) : Bool := lexLt (xss.getD i []) (xss.getD j [])
theorem argBest_le (bt : Nat → Nat → Bool) : ∀ k, argBest bt k ≤ k
  | 0 => Nat.le_refl _
  | k + 1 => by
    have := argBest_le bt k
    unfold argBest; split
    · exact Nat.le_refl _
    · omega
theorem list_at {g : GH} {vs : List Value} {xss : List (List (List Nat))} (h : HasAll g vs (xss.map fun xs => D.l (xs.map sd))) {i : Nat} {v : Value} (hv : vs[i]? = some v) : ∃ a, v = .ref a ∧ Has g (.ref a) (.l ((xss.getD i []).map sd)) := by
  have hl : vs.length = xss.length := by have := h.1; simpa using this
  have hi : i < xss.length := hl ▸ (List.getElem?_eq_some_iff.mp hv).1
  have := h.2 i v (.l (xss[i].map sd)) hv (by simp [hi])
  obtain ⟨a, rfl⟩ := this.refL
  refine ⟨a, rfl, ?_⟩
  have e : xss.getD i [] = xss[i] := by simp [hi]
  rw [e]; exact this
section
variable {prog : Program} {w : World} {A : Around} {R : Result → Shared → Prop} {gi : GH}
theorem min_loop (hh : A.handled = none) (hu : A.units + 10 < cLine) (I S a : Addr) (hne : a ≠ I) (hSI : S ≠ I) (hSa : S ≠ a) (hgI : gi I = none) (hgS : gi S = none) (vs : List Value) (xss : List (List (List Nat))) (hv : HasAll gi vs (xss.map fun xs => D.l (xs.map sd))) :
    ∀ (k j : Nat) (s : Shared) (vb : Value) (c : Nat), vs.length - (j + 1) = k → j + 1 ≤ vs.length → s.heap.IsListIter I a (j + 1) → s.heap.IsList a vs.toArray → gi.le s.heap.get? → vs[argBest (lessAt xss) j]? = some vb →
    s.heap.get? S = some { cls := .type "list", data := .seq #[vb, vb] c } →
    (∀ (v : Value) (h' : Heap) (tk : Nat), vs[argBest (lessAt xss) (vs.length - 1)]? = some v → (∀ b o, b ≠ I → b ≠ S → s.heap.get? b = some o → h'.get? b = some o) → R (.ok (.ret v)) { s with heap := h', toks := tk }) →
    codeAny (model prog w) A (.builtin "min.loop" ⟨[.ref I, .none, .ref S], []⟩) R s := by
  have hname : (toString "min" ++ toString ".loop" : String) = "min.loop" := by decide
  have W := Walks.list (prog := prog) (w := w) (A := A.in1) hh I a hne vs.toArray
  have hSw : S ∉ [I] := fun h => hSI (List.mem_singleton.mp h)
  intro k
  induction k with
  | zero =>
    intro j s vb c hk hj hit hls hg hb hS hR
    have hin : j + 1 = vs.toArray.size := by simp; omega
    refine codeAny_builtin PySem.F.entry_min_loop ?_
    rw [Around.under_plainId PySem.F.plain_min_loop _]
    show wpAny _ A.in1 (seqItems? (.ref S) >>= _) _ _ s
    refine wpAny_bind (wpAny_seqItems hS rfl ?_)
    show wpAny _ A.in1 (tryCatch (pyNext (.ref I)) _ >>= _) _ _ s
    refine wpAny_bind (wpAny_tryCatch (W.done s _ _ ⟨hin ▸ hit, hls⟩ fun h' tk hk' => ?_))
    have hS' := hk' S _ hSw hS
    show wpAny _ A.in1 (updateSeq S (fun _ => #[]) >>= _) _ _ _
    refine wpAny_bind ?_
    refine wpAny_updateSeq hS' rfl (wpAny_bind (wpAny_letGo (wpAny_pure ?_)))
    refine hR vb _ tk (by have : vs.length - 1 = j := by simp at hin; omega
                          rw [this]; exact hb) fun b o hbI hbS e => (Heap.get?_update_other _ _ (Ne.symm hbS)).trans (hk' b o (fun z => hbI (List.mem_singleton.mp z)) e)
  | succ k ih =>
    intro j s vb c hk hj hit hls hg hb hS hR
    have hlt : j + 1 < vs.length := by omega
    refine codeAny_builtin PySem.F.entry_min_loop ?_
    rw [Around.under_plainId PySem.F.plain_min_loop _]
    show wpAny _ A.in1 (seqItems? (.ref S) >>= _) _ _ s
    refine wpAny_bind (wpAny_seqItems hS rfl ?_)
    show wpAny _ A.in1 (tryCatch (pyNext (.ref I)) _ >>= _) _ _ s
    refine wpAny_bind (wpAny_tryCatch (W.item (j + 1) s _ _ (by simpa using hlt) ⟨hit, hls⟩ fun v h' tk hP hst' hk' => ?_))
    have hv' : vs[j + 1]? = some v := by simpa using hP
    have hS' := hk' S _ hSw hS
    have hg' : gi.le h'.get? := fun b o e => hk' b o (fun z => by rw [List.mem_singleton.mp z, hgI] at e; cases e) (hg b o e)
    obtain ⟨av, rfl, hav⟩ := list_at hv hv'
    obtain ⟨ab, rfl, hab⟩ := list_at hv hb
    show wpAny _ A.in1 (tryCatch (holding [.ref av, .ref av] (richCompare .Lt (.ref av) (.ref ab) >>= _)) _ >>= _) _ _ _
    refine wpAny_bind (wpAny_tryCatch (wpAny_holding (wpAny_bind (zrc_lt (gi := gi) hg' hav hab (by show A.units + 1 < cLine; omega) ?_))))
    refine wpAny_bind (wpAny_holding (wpAny_truthy_bool ?_))
    refine wpAny_bind (wpAny_letGo (wpAny_pure ?_))
    cases hbt : lexLt (xss.getD (j + 1) []) (xss.getD (argBest (lessAt xss) j) []) with
    | true =>
      have hbt' : lessAt xss (j + 1) (argBest (lessAt xss) j) = true := hbt
      simp only [if_true]
      refine wpAny_bind ?_
      refine wpAny_updateSeq hS' rfl (wpAny_bind (wpAny_letGo ?_))
      rw [hname]
      have oth : ∀ b o, b ≠ S → h'.get? b = some o → (h'.update S (Obj.mapSeq fun _ => #[Value.ref av, Value.ref av])).get? b = some o := fun b o hb e => (Heap.get?_update_other _ _ (Ne.symm hb)).trans e
      refine wpAny_pure ⟨plainId_quiet PySem.F.plain_min_loop _, ih (j + 1) _ (.ref av) _ (by omega) hlt (hst'.1.at fun o e => oth _ o (Ne.symm hSI) e) (hst'.2.at fun o e => oth _ o (Ne.symm hSa) e)
        (fun b o e => oth b o (fun z => by rw [z, hgS] at e; cases e) (hg' b o e)) (by simp only [argBest, hbt', if_true]; exact hv') (Heap.get?_update_self _ hS' rfl) fun v' h'' tk'' hP' hk'' => ?_⟩
      exact hR v' h'' tk'' hP' fun b o hbI hbS e => hk'' b o hbI hbS (oth b o hbS (hk' b o (fun z => hbI (List.mem_singleton.mp z)) e))
    | false =>
      have hbt' : lessAt xss (j + 1) (argBest (lessAt xss) j) = false := hbt
      simp only [Bool.false_eq_true, if_false]
      refine wpAny_bind (wpAny_letGo ?_)
      rw [hname]
      refine wpAny_pure ⟨plainId_quiet PySem.F.plain_min_loop _, ih (j + 1) _ (.ref ab) c (by omega) hlt hst'.1 hst'.2 hg' (by simp only [argBest, hbt', Bool.false_eq_true, if_false]; exact hb) hS' fun v' h'' tk'' hP' hk'' => ?_⟩
      exact hR v' h'' tk'' hP' fun b o hbI hbS e => hk'' b o hbI hbS (hk' b o (fun z => hbI (List.mem_singleton.mp z)) e)
end
section
variable {prog : Program} {w : World} {A : Around} {E : Value → Shared → Prop} {s : Shared} {h₀ : Heap} {g₀ fx gi : GH} {mu : List (Addr × MV)} {ls : List (Str × D)} {L : Addr}
theorem zmin {a : Addr} {xss : List (List (List Nat))} {Q : Value → Shared → Prop} (hh : A.handled = none) (hu : A.units + 12 < cLine) (X : Fz h₀ g₀ fx gi mu ls L s.heap) (ha : Has gi (.ref a) (.l (xss.map fun xs => D.l (xs.map sd)))) (hne : xss ≠ [])
    (h : ∀ v g' h' tk, gi.le g' → Fz h₀ g₀ fx g' mu ls L h' → Has g' v (.l ((xss.getD (argBest (lessAt xss) (xss.length - 1)) []).map sd)) → Q v { s with heap := h', toks := tk }) :
    wpAny (model prog w) A (call (.builtin "min") [.ref a]) Q E s := by
  have hname : (toString "min" ++ toString ".loop" : String) = "min.loop" := by decide
  obtain ⟨vs, n, xa⟩ := ha.obj X.sub
  have hl : vs.length = xss.length := by have := xa.all.1; simpa using this
  have hpos : 0 < xss.length := List.length_pos_iff.mpr hne
  refine call_function_tree PySem.F.kind_min PySem.F.plain_min PySem.F.entry_min (PySem.F.args_min1 _) ?_
  show wpAny _ A.in1 (Builtin.Builtins.bindParams "min" ["key", "default"] 0 ⟨[], []⟩ >>= _) _ _ s
  refine wpAny_bind (wpAny_of_eq (show Builtin.Builtins.bindParams "min" ["key", "default"] 0 ⟨[], []⟩ = pure [none, none] from rfl) ?_)
  refine wpAny_bind (wpAny_pure ?_)
  refine wpAny_bind (wpAny_pyIter_list xa.list ?_)
  refine wpAny_bind (wpAny_newObj_type ?_)
  rw [hname]
  have alt : a < s.heap.objs.size := Heap.lt_size xa.ob
  have hgn : ∀ b, s.heap.objs.size ≤ b → gi b = none := fun b hb => by
    cases e : gi b with
    | none => rfl
    | some o => exact absurd (Heap.lt_size (X.sub b o e)) (Nat.not_lt.mpr hb)
  dsimp only
  have e1 := Heap.get?_push_size s.heap (o := { cls := .type "list_iterator", data := .fields #[.ref a, .int 0 0] }) rfl
  have z1 : (s.heap.push { cls := .type "list_iterator", data := .fields #[.ref a, .int 0 0] }).objs.size = s.heap.objs.size + 1 := Heap.size_push ..
  have k1 : ∀ b o, s.heap.get? b = some o → (s.heap.push { cls := .type "list_iterator", data := .fields #[.ref a, .int 0 0] }).get? b = some o := fun b o e => Heap.get?_push_of_some _ e
  generalize s.heap.push { cls := .type "list_iterator", data := .fields #[.ref a, .int 0 0] } = h1 at e1 z1 k1 ⊢
  have e2 := Heap.get?_push_size h1 (o := { cls := .type "list", data := .seq ([] : List Value).toArray }) rfl
  have k2 : ∀ b o, h1.get? b = some o → (h1.push { cls := .type "list", data := .seq ([] : List Value).toArray }).get? b = some o := fun b o e => Heap.get?_push_of_some _ e
  generalize h1.push { cls := .type "list", data := .seq ([] : List Value).toArray } = h2 at e2 k2 ⊢
  rw [z1] at e2 ⊢
  have W := Walks.list (prog := prog) (w := w) (A := A.in1) hh s.heap.objs.size a (Nat.ne_of_lt alt) vs.toArray
  refine wpAny_pure ⟨plainId_quiet PySem.F.plain_min_loop _, codeAny_builtin PySem.F.entry_min_loop ?_⟩
  rw [Around.under_plainId PySem.F.plain_min_loop _]
  show wpAny _ A.in1 (seqItems? (.ref (s.heap.objs.size + 1)) >>= _) _ _ _
  refine wpAny_bind (wpAny_seqItems e2 rfl ?_)
  show wpAny _ A.in1 (tryCatch (pyNext (.ref s.heap.objs.size)) _ >>= _) _ _ _
  refine wpAny_bind (wpAny_tryCatch (W.item 0 _ _ _ (by simp; omega) ⟨⟨_, k2 _ _ e1, rfl, rfl⟩, ⟨_, k2 _ _ (k1 _ _ xa.ob), rfl, n, rfl⟩⟩ fun v h3 tk hP hst' hk' => ?_))
  have hv' : vs[0]? = some v := by simpa using hP
  have hS' := hk' (s.heap.objs.size + 1) _ (by simp) e2
  show wpAny _ A.in1 (updateSeq (s.heap.objs.size + 1) (fun _ => #[v, v]) >>= _) _ _ _
  refine wpAny_bind ?_
  refine wpAny_updateSeq hS' rfl ?_
  rw [hname]
  have oth : ∀ b o, b ≠ s.heap.objs.size + 1 → h3.get? b = some o → (h3.update (s.heap.objs.size + 1) (Obj.mapSeq fun _ => #[v, v])).get? b = some o := fun b o hb e => (Heap.get?_update_other _ _ (Ne.symm hb)).trans e
  have all : ∀ b o, s.heap.get? b = some o → (h3.update (s.heap.objs.size + 1) (Obj.mapSeq fun _ => #[v, v])).get? b = some o := fun b o e => by
    have := Heap.lt_size e
    exact oth b o (Nat.ne_of_lt (Nat.lt_succ_of_lt this)) (hk' b o (fun z => by rw [List.mem_singleton.mp z] at this; exact absurd this (Nat.lt_irrefl _)) (k2 b o (k1 b o e)))
  refine wpAny_pure ⟨plainId_quiet PySem.F.plain_min_loop _, min_loop (gi := gi) hh (by omega) s.heap.objs.size (s.heap.objs.size + 1) a (Nat.ne_of_lt alt) (Nat.succ_ne_self _) (Nat.ne_of_gt (Nat.lt_succ_of_lt alt)) (hgn _ (Nat.le_refl _)) (hgn _ (Nat.le_succ _)) vs xss xa.all _ 0 _ v _ rfl (by omega)
    (hst'.1.at fun o e => oth _ o (Nat.ne_of_lt (Nat.lt_succ_self _)) e) (hst'.2.at fun o e => oth _ o (Nat.ne_of_lt (Nat.lt_succ_of_lt alt)) e) (fun b o e => all b o (X.sub b o e)) hv' (Heap.get?_update_self _ hS' rfl) fun v' h'' tk'' hP' hk'' => ?_⟩
  have kk : ∀ b o, s.heap.get? b = some o → h''.get? b = some o := fun b o e => by
    have := Heap.lt_size e
    exact hk'' b o (Nat.ne_of_lt this) (Nat.ne_of_lt (Nat.lt_succ_of_lt this)) (all b o e)
  obtain ⟨av, rfl, hav⟩ := list_at xa.all hP'
  rw [hl] at hav
  exact h _ _ h'' tk'' (grow_le X.sub) (X.ext kk) (hav.mono (grow_le X.sub))
end
def moreAt (xss : List (List (List Nat))) (i j : Nat) : Bool := lexLt (xss.getD j []) (xss.getD i [])
section
variable {prog : Program} {w : World} {A : Around} {R : Result → Shared → Prop} {gi : GH}
theorem max_loop (hh : A.handled = none) (hu : A.units + 10 < cLine) (I S a : Addr) (hne : a ≠ I) (hSI : S ≠ I) (hSa : S ≠ a) (hgI : gi I = none) (hgS : gi S = none) (vs : List Value) (xss : List (List (List Nat))) (hv : HasAll gi vs (xss.map fun xs => D.l (xs.map sd))) :
    ∀ (k j : Nat) (s : Shared) (vb : Value) (c : Nat), vs.length - (j + 1) = k → j + 1 ≤ vs.length → s.heap.IsListIter I a (j + 1) → s.heap.IsList a vs.toArray → gi.le s.heap.get? → vs[argBest (moreAt xss) j]? = some vb →
    s.heap.get? S = some { cls := .type "list", data := .seq #[vb, vb] c } →
    (∀ (v : Value) (h' : Heap) (tk : Nat), vs[argBest (moreAt xss) (vs.length - 1)]? = some v → (∀ b o, b ≠ I → b ≠ S → s.heap.get? b = some o → h'.get? b = some o) → R (.ok (.ret v)) { s with heap := h', toks := tk }) →
    codeAny (model prog w) A (.builtin "max.loop" ⟨[.ref I, .none, .ref S], []⟩) R s := by
  have hname : (toString "max" ++ toString ".loop" : String) = "max.loop" := by decide
  have W := Walks.list (prog := prog) (w := w) (A := A.in1) hh I a hne vs.toArray
  have hSw : S ∉ [I] := fun h => hSI (List.mem_singleton.mp h)
  intro k
  induction k with
  | zero =>
    intro j s vb c hk hj hit hls hg hb hS hR
    have hin : j + 1 = vs.toArray.size := by simp; omega
    refine codeAny_builtin PySem.F.entry_max_loop ?_
    rw [Around.under_plainId PySem.F.plain_max_loop _]
    show wpAny _ A.in1 (seqItems? (.ref S) >>= _) _ _ s
    refine wpAny_bind (wpAny_seqItems hS rfl ?_)
    show wpAny _ A.in1 (tryCatch (pyNext (.ref I)) _ >>= _) _ _ s
    refine wpAny_bind (wpAny_tryCatch (W.done s _ _ ⟨hin ▸ hit, hls⟩ fun h' tk hk' => ?_))
    have hS' := hk' S _ hSw hS
    show wpAny _ A.in1 (updateSeq S (fun _ => #[]) >>= _) _ _ _
    refine wpAny_bind ?_
    refine wpAny_updateSeq hS' rfl (wpAny_bind (wpAny_letGo (wpAny_pure ?_)))
    refine hR vb _ tk (by have : vs.length - 1 = j := by simp at hin; omega
                          rw [this]; exact hb) fun b o hbI hbS e => (Heap.get?_update_other _ _ (Ne.symm hbS)).trans (hk' b o (fun z => hbI (List.mem_singleton.mp z)) e)
  | succ k ih =>
    intro j s vb c hk hj hit hls hg hb hS hR
    have hlt : j + 1 < vs.length := by omega
    refine codeAny_builtin PySem.F.entry_max_loop ?_
    rw [Around.under_plainId PySem.F.plain_max_loop _]
    show wpAny _ A.in1 (seqItems? (.ref S) >>= _) _ _ s
    refine wpAny_bind (wpAny_seqItems hS rfl ?_)
    show wpAny _ A.in1 (tryCatch (pyNext (.ref I)) _ >>= _) _ _ s
    refine wpAny_bind (wpAny_tryCatch (W.item (j + 1) s _ _ (by simpa using hlt) ⟨hit, hls⟩ fun v h' tk hP hst' hk' => ?_))
    have hv' : vs[j + 1]? = some v := by simpa using hP
    have hS' := hk' S _ hSw hS
    have hg' : gi.le h'.get? := fun b o e => hk' b o (fun z => by rw [List.mem_singleton.mp z, hgI] at e; cases e) (hg b o e)
    obtain ⟨av, rfl, hav⟩ := list_at hv hv'
    obtain ⟨ab, rfl, hab⟩ := list_at hv hb
    show wpAny _ A.in1 (tryCatch (holding [.ref av, .ref av] (richCompare .Gt (.ref av) (.ref ab) >>= _)) _ >>= _) _ _ _
    refine wpAny_bind (wpAny_tryCatch (wpAny_holding (wpAny_bind (zrc_gt (gi := gi) hg' hav hab (by show A.units + 1 < cLine; omega) ?_))))
    refine wpAny_bind (wpAny_holding (wpAny_truthy_bool ?_))
    refine wpAny_bind (wpAny_letGo (wpAny_pure ?_))
    cases hbt : lexLt (xss.getD (argBest (moreAt xss) j) []) (xss.getD (j + 1) []) with
    | true =>
      have hbt' : moreAt xss (j + 1) (argBest (moreAt xss) j) = true := hbt
      simp only [if_true]
      refine wpAny_bind ?_
      refine wpAny_updateSeq hS' rfl (wpAny_bind (wpAny_letGo ?_))
      rw [hname]
      have oth : ∀ b o, b ≠ S → h'.get? b = some o → (h'.update S (Obj.mapSeq fun _ => #[Value.ref av, Value.ref av])).get? b = some o := fun b o hb e => (Heap.get?_update_other _ _ (Ne.symm hb)).trans e
      refine wpAny_pure ⟨plainId_quiet PySem.F.plain_max_loop _, ih (j + 1) _ (.ref av) _ (by omega) hlt (hst'.1.at fun o e => oth _ o (Ne.symm hSI) e) (hst'.2.at fun o e => oth _ o (Ne.symm hSa) e)
        (fun b o e => oth b o (fun z => by rw [z, hgS] at e; cases e) (hg' b o e)) (by simp only [argBest, hbt', if_true]; exact hv') (Heap.get?_update_self _ hS' rfl) fun v' h'' tk'' hP' hk'' => ?_⟩
      exact hR v' h'' tk'' hP' fun b o hbI hbS e => hk'' b o hbI hbS (oth b o hbS (hk' b o (fun z => hbI (List.mem_singleton.mp z)) e))
    | false =>
      have hbt' : moreAt xss (j + 1) (argBest (moreAt xss) j) = false := hbt
      simp only [Bool.false_eq_true, if_false]
      refine wpAny_bind (wpAny_letGo ?_)
      rw [hname]
      refine wpAny_pure ⟨plainId_quiet PySem.F.plain_max_loop _, ih (j + 1) _ (.ref ab) c (by omega) hlt hst'.1 hst'.2 hg' (by simp only [argBest, hbt', Bool.false_eq_true, if_false]; exact hb) hS' fun v' h'' tk'' hP' hk'' => ?_⟩
      exact hR v' h'' tk'' hP' fun b o hbI hbS e => hk'' b o hbI hbS (hk' b o (fun z => hbI (List.mem_singleton.mp z)) e)
end
section
variable {prog : Program} {w : World} {A : Around} {E : Value → Shared → Prop} {s : Shared} {h₀ : Heap} {g₀ fx gi : GH} {mu : List (Addr × MV)} {ls : List (Str × D)} {L : Addr}
theorem zmax {a : Addr} {xss : List (List (List Nat))} {Q : Value → Shared → Prop} (hh : A.handled = none) (hu : A.units + 12 < cLine) (X : Fz h₀ g₀ fx gi mu ls L s.heap) (ha : Has gi (.ref a) (.l (xss.map fun xs => D.l (xs.map sd)))) (hne : xss ≠ [])
    (h : ∀ v g' h' tk, gi.le g' → Fz h₀ g₀ fx g' mu ls L h' → Has g' v (.l ((xss.getD (argBest (moreAt xss) (xss.length - 1)) []).map sd)) → Q v { s with heap := h', toks := tk }) :
    wpAny (model prog w) A (call (.builtin "max") [.ref a]) Q E s := by
  have hname : (toString "max" ++ toString ".loop" : String) = "max.loop" := by decide
  obtain ⟨vs, n, xa⟩ := ha.obj X.sub
  have hl : vs.length = xss.length := by have := xa.all.1; simpa using this
  have hpos : 0 < xss.length := List.length_pos_iff.mpr hne
  refine call_function_tree PySem.F.kind_max PySem.F.plain_max PySem.F.entry_max (PySem.F.args_max1 _) ?_
  show wpAny _ A.in1 (Builtin.Builtins.bindParams "max" ["key", "default"] 0 ⟨[], []⟩ >>= _) _ _ s
  refine wpAny_bind (wpAny_of_eq (show Builtin.Builtins.bindParams "max" ["key", "default"] 0 ⟨[], []⟩ = pure [none, none] from rfl) ?_)
  refine wpAny_bind (wpAny_pure ?_)
  refine wpAny_bind (wpAny_pyIter_list xa.list ?_)
  refine wpAny_bind (wpAny_newObj_type ?_)
  rw [hname]
  have alt : a < s.heap.objs.size := Heap.lt_size xa.ob
  have hgn : ∀ b, s.heap.objs.size ≤ b → gi b = none := fun b hb => by
    cases e : gi b with
    | none => rfl
    | some o => exact absurd (Heap.lt_size (X.sub b o e)) (Nat.not_lt.mpr hb)
  dsimp only
  have e1 := Heap.get?_push_size s.heap (o := { cls := .type "list_iterator", data := .fields #[.ref a, .int 0 0] }) rfl
  have z1 : (s.heap.push { cls := .type "list_iterator", data := .fields #[.ref a, .int 0 0] }).objs.size = s.heap.objs.size + 1 := Heap.size_push ..
  have k1 : ∀ b o, s.heap.get? b = some o → (s.heap.push { cls := .type "list_iterator", data := .fields #[.ref a, .int 0 0] }).get? b = some o := fun b o e => Heap.get?_push_of_some _ e
  generalize s.heap.push { cls := .type "list_iterator", data := .fields #[.ref a, .int 0 0] } = h1 at e1 z1 k1 ⊢
  have e2 := Heap.get?_push_size h1 (o := { cls := .type "list", data := .seq ([] : List Value).toArray }) rfl
  have k2 : ∀ b o, h1.get? b = some o → (h1.push { cls := .type "list", data := .seq ([] : List Value).toArray }).get? b = some o := fun b o e => Heap.get?_push_of_some _ e
  generalize h1.push { cls := .type "list", data := .seq ([] : List Value).toArray } = h2 at e2 k2 ⊢
  rw [z1] at e2 ⊢
  have W := Walks.list (prog := prog) (w := w) (A := A.in1) hh s.heap.objs.size a (Nat.ne_of_lt alt) vs.toArray
  refine wpAny_pure ⟨plainId_quiet PySem.F.plain_max_loop _, codeAny_builtin PySem.F.entry_max_loop ?_⟩
  rw [Around.under_plainId PySem.F.plain_max_loop _]
  show wpAny _ A.in1 (seqItems? (.ref (s.heap.objs.size + 1)) >>= _) _ _ _
  refine wpAny_bind (wpAny_seqItems e2 rfl ?_)
  show wpAny _ A.in1 (tryCatch (pyNext (.ref s.heap.objs.size)) _ >>= _) _ _ _
  refine wpAny_bind (wpAny_tryCatch (W.item 0 _ _ _ (by simp; omega) ⟨⟨_, k2 _ _ e1, rfl, rfl⟩, ⟨_, k2 _ _ (k1 _ _ xa.ob), rfl, n, rfl⟩⟩ fun v h3 tk hP hst' hk' => ?_))
  have hv' : vs[0]? = some v := by simpa using hP
  have hS' := hk' (s.heap.objs.size + 1) _ (by simp) e2
  show wpAny _ A.in1 (updateSeq (s.heap.objs.size + 1) (fun _ => #[v, v]) >>= _) _ _ _
  refine wpAny_bind ?_
  refine wpAny_updateSeq hS' rfl ?_
  rw [hname]
  have oth : ∀ b o, b ≠ s.heap.objs.size + 1 → h3.get? b = some o → (h3.update (s.heap.objs.size + 1) (Obj.mapSeq fun _ => #[v, v])).get? b = some o := fun b o hb e => (Heap.get?_update_other _ _ (Ne.symm hb)).trans e
  have all : ∀ b o, s.heap.get? b = some o → (h3.update (s.heap.objs.size + 1) (Obj.mapSeq fun _ => #[v, v])).get? b = some o := fun b o e => by
    have := Heap.lt_size e
    exact oth b o (Nat.ne_of_lt (Nat.lt_succ_of_lt this)) (hk' b o (fun z => by rw [List.mem_singleton.mp z] at this; exact absurd this (Nat.lt_irrefl _)) (k2 b o (k1 b o e)))
  refine wpAny_pure ⟨plainId_quiet PySem.F.plain_max_loop _, max_loop (gi := gi) hh (by omega) s.heap.objs.size (s.heap.objs.size + 1) a (Nat.ne_of_lt alt) (Nat.succ_ne_self _) (Nat.ne_of_gt (Nat.lt_succ_of_lt alt)) (hgn _ (Nat.le_refl _)) (hgn _ (Nat.le_succ _)) vs xss xa.all _ 0 _ v _ rfl (by omega)
    (hst'.1.at fun o e => oth _ o (Nat.ne_of_lt (Nat.lt_succ_self _)) e) (hst'.2.at fun o e => oth _ o (Nat.ne_of_lt (Nat.lt_succ_of_lt alt)) e) (fun b o e => all b o (X.sub b o e)) hv' (Heap.get?_update_self _ hS' rfl) fun v' h'' tk'' hP' hk'' => ?_⟩
  have kk : ∀ b o, s.heap.get? b = some o → h''.get? b = some o := fun b o e => by
    have := Heap.lt_size e
    exact hk'' b o (Nat.ne_of_lt this) (Nat.ne_of_lt (Nat.lt_succ_of_lt this)) (all b o e)
  obtain ⟨av, rfl, hav⟩ := list_at xa.all hP'
  rw [hl] at hav
  exact h _ _ h'' tk'' (grow_le X.sub) (X.ext kk) (hav.mono (grow_le X.sub))
end

theorem lexLt_irrefl : ∀ xs : List (List Nat), lexLt xs xs = false
  | [] => rfl
  | x :: xs => by rw [lexLt_cons, if_pos rfl]; exact lexLt_irrefl xs
theorem lexLt_trans : ∀ xs ys zs : List (List Nat), lexLt xs ys = true → lexLt ys zs = true → lexLt xs zs = true
  | xs, ys, [], h1, h2 => by rw [lexLt_nil] at h2; cases h2
  | [], ys, z :: zs, h1, h2 => rfl
  | x :: xs, [], z :: zs, h1, h2 => by rw [lexLt_nil] at h1; cases h1
  | x :: xs, y :: ys, z :: zs, h1, h2 => by
    rw [lexLt_cons] at h1 h2 ⊢
    by_cases hxy : x = y
    · rw [if_pos hxy] at h1
      by_cases hyz : y = z
      · rw [if_pos hyz] at h2
        rw [if_pos (hxy.trans hyz)]; exact lexLt_trans xs ys zs h1 h2
      · rw [if_neg hyz] at h2
        rw [if_neg (by rw [hxy]; exact hyz), hxy]; exact h2
    · rw [if_neg hxy] at h1
      by_cases hyz : y = z
      · rw [if_neg (by rw [← hyz]; exact hxy), ← hyz]; exact h1
      · rw [if_neg hyz] at h2
        have h3 : x < z := List.lt_trans (of_decide_eq_true h1) (of_decide_eq_true h2)
        have hne : ¬ x = z := fun e => by rw [e] at h3; exact List.lt_irrefl _ h3
        rw [if_neg hne]; exact decide_eq_true h3
theorem argBest_min (xss : List (List (List Nat))) : ∀ k i, i ≤ k → lexLt (xss.getD i []) (xss.getD (argBest (lessAt xss) k) []) = false
  | 0, i, h => by rw [Nat.le_zero.mp h]; exact lexLt_irrefl _
  | k + 1, i, h => by
    have ih := argBest_min xss k
    show lexLt _ (xss.getD (if lessAt xss (k + 1) (argBest (lessAt xss) k) = true then k + 1 else argBest (lessAt xss) k) []) = false
    by_cases hb : lessAt xss (k + 1) (argBest (lessAt xss) k) = true
    · rw [if_pos hb]
      rcases Nat.eq_or_lt_of_le h with rfl | h'
      · exact lexLt_irrefl _
      · cases hc : lexLt (xss.getD i []) (xss.getD (k + 1) []) with
        | false => rfl
        | true =>
          have := lexLt_trans _ _ _ hc hb
          rw [ih i (Nat.lt_succ_iff.mp h')] at this; cases this
    · rw [if_neg hb]
      rcases Nat.eq_or_lt_of_le h with rfl | h'
      · exact Bool.eq_false_iff.mpr hb
      · exact ih i (Nat.lt_succ_iff.mp h')
theorem argBest_max (xss : List (List (List Nat))) : ∀ k i, i ≤ k → lexLt (xss.getD (argBest (moreAt xss) k) []) (xss.getD i []) = false
  | 0, i, h => by rw [Nat.le_zero.mp h]; exact lexLt_irrefl _
  | k + 1, i, h => by
    have ih := argBest_max xss k
    show lexLt (xss.getD (if moreAt xss (k + 1) (argBest (moreAt xss) k) = true then k + 1 else argBest (moreAt xss) k) []) _ = false
    by_cases hb : moreAt xss (k + 1) (argBest (moreAt xss) k) = true
    · rw [if_pos hb]
      rcases Nat.eq_or_lt_of_le h with rfl | h'
      · exact lexLt_irrefl _
      · cases hc : lexLt (xss.getD (k + 1) []) (xss.getD i []) with
        | false => rfl
        | true =>
          have := lexLt_trans _ _ _ hb hc
          rw [ih i (Nat.lt_succ_iff.mp h')] at this; cases this
    · rw [if_neg hb]
      rcases Nat.eq_or_lt_of_le h with rfl | h'
      · exact Bool.eq_false_iff.mpr hb
      · exact ih i (Nat.lt_succ_iff.mp h')
end Mine
end
section
open PySem PySem.W PySem.Calls PyProof.Rows PySem.Builtin.Str
set_option Elab.async false
set_option maxRecDepth 100000
namespace Mine
theorem sub_str_str : isSubtype (.type "str") (.type "str") = pure true := by rw [isSubtype_type]; kernel_rfl
theorem sub_bytes_bytes : isSubtype (.type "bytes") (.type "bytes") = pure true := by rw [isSubtype_type]; kernel_rfl
theorem sub_tup_tup : isSubtype (.type "tuple") (.type "tuple") = pure true := by rw [isSubtype_type]; kernel_rfl
theorem meta_str : typeOf (.type "str") = pure (.type "type") := by kernel_rfl
section
variable {K : Params → Frag} {prog : Program} {w : World} {A : Around} {E : Value → Shared → Prop} {s : Shared} {h₀ : Heap} {g₀ fx gi : GH} {mu : List (Addr × MV)} {ls : List (Str × D)} {env : Env} {L : Addr}
theorem isu_self {T : String} {k : Value} {dep : Int} {tk : Tok} {Q : Fin → Shared → Prop} (hk : k = .int dep tk) (hm : typeOf (.type T) = pure (.type "type"))
    (hself : isSubtype (.type T) (.type T) = pure true) (hq : Q (.done (.ret (.bool true))) s) :
    wpAny (model prog w) A (Builtin.«issubclass.nested» ⟨[.type T, .type T, k], []⟩) Q E s := by
  subst hk
  have hm2 : (Value.type "type" == Value.type "type") = true := by decide
  unfold Builtin.«issubclass.nested»
  refine wpAny_bind (wpAny_of_eq hm ?_)
  repeat (any_goals (first | assumption | (rw [if_pos hm2]) | (rw [hself]) | wp_step))
theorem isu_meets {T : String} {k : Value} {dep : Int} {tk : Tok} (hk : k = .int dep tk) (hm : typeOf (.type T) = pure (.type "type"))
    (hself : isSubtype (.type T) (.type T) = pure true) : Meets (Builtin.«issubclass.nested» ⟨[.type T, .type T, k], []⟩) (fun _ R s => R (.ok (.ret (.bool true))) s) :=
  fun _ _ _ _ _ hs => isu_self hk hm hself hs
theorem args_isun (a b c : Value) : argsOk "issubclass.nested" ⟨[a, b, c], []⟩ := by unfold argsOk; kernel_rfl
theorem kind_isun : builtinKind "issubclass.nested" = none := by decide +kernel
theorem plain_isun : plainId "issubclass.nested" = true := by decide +kernel
theorem isu_tuple {tp : Addr} {T : String} {its : List Value} {n : Nat} {tk : Tok} (hm : typeOf (.type T) = pure (.type "type")) (hself : isSubtype (.type T) (.type T) = pure true) :
    Meets (Builtin.«issubclass.nested» ⟨[.type T, .ref tp, .int 0 tk], []⟩)
      (fun _ R s => s.heap.get? tp = some { cls := .type "tuple", data := .seq (.type T :: its).toArray n } ∧ R (.ok (.ret (.bool true))) s) := by
  intro prog w A R s hs
  obtain ⟨h, g, d, tt, os⟩ := s
  obtain ⟨htp, hq⟩ := hs
  have hT2 : (⟨h, g, d, tt, os⟩ : Shared).TypeIs (.ref tp) "tuple" := ⟨_, htp, rfl⟩
  have f1 := sub_tup_tup
  unfold Builtin.«issubclass.nested»
  iterate 14 (first | wp_step | skip)
  refine wpAny_seqItems htp rfl ?_
  refine wpAny_bind ?_
  simp only [Option.getD_some, List.forIn_toArray]
  rw [List.forIn_cons]
  refine wpAny_bind (wpAny_bind (call_function_meets kind_isun plain_isun F.entry_issubclass_nested (args_isun _ _ _) (isu_meets rfl hm hself) ?_))
  show wpAny _ _ (truthy (.bool true) >>= _) _ _ _
  refine wpAny_bind (m := truthy (.bool true)) (wpAny_pure ?_)
  repeat (any_goals (first | assumption | wp_step))
/-- issubclass(str, (str, ..)) -/
theorem zissub {T : String} {a : Addr} {ds : List D} {Q : Value → Shared → Prop} (X : Fz h₀ g₀ fx gi mu ls L s.heap) (ha : Has gi (.ref a) (.t (.ty T :: ds))) (hm : typeOf (.type T) = pure (.type "type")) (hself : isSubtype (.type T) (.type T) = pure true)
    (h : Q (.bool true) s) : wpAny (model prog w) A (call (.builtin "issubclass") [.type T, .ref a]) Q E s := by
  obtain ⟨vs, n, xa⟩ := ha.objT X.sub
  obtain ⟨v, ws, rfl, hv, hw⟩ := xa.all.uncons
  cases hv
  exact call_issubclass (S := fun _ R s => s.heap.get? a = some { cls := .type "tuple", data := .seq (.type T :: ws).toArray n } ∧ R (.ok (.ret (.bool true))) s)
    (fun prog w A R s hs => issubclass_outer (isu_tuple hm hself prog w A R s hs)) ⟨xa.ob, h⟩
theorem ztypeS {x : Str} {t : Tok} {Q : Value → Shared → Prop} (h : Q (.type "str") s) : wpAny (model prog w) A (call (.type "type") [.str x t]) Q E s := call_type_of (typeIs_str _ _ _) (by decide) h
theorem ztypeB {x : Array UInt8} {t : Tok} {Q : Value → Shared → Prop} (h : Q (.type "bytes") s) : wpAny (model prog w) A (call (.type "type") [.bytes x t]) Q E s := call_type_of (typeIs_bytes _ _ _) (by decide) h
theorem zsplitE {c : Nat} {t u : Tok} {x : List Nat} {ps : List (List Nat)} {Q : Value → Shared → Prop} (e : glue [c] ps = x) (X : Fz h₀ g₀ fx gi mu ls L s.heap) (hne : ps ≠ []) (hf : ∀ p ∈ ps, c ∉ p) (hsz : x.length ≤ 10000)
    (h : ∀ a g' h' k, gi.le g' → Fz h₀ g₀ fx g' mu ls L h' → Has g' (.ref a) (.l (ps.map sd)) → Q (.ref a) { s with heap := h', toks := k }) :
    wpAny (model prog w) A (call (.builtin "str.split") [.str (S x) t, .str (S [c]) u]) Q E s := by
  subst e; exact zsplit X hne hf hsz h
end
end Mine
end
section
open PySem PySem.W PySem.Calls PyProof.Rows PySem.Builtin.Str
set_option Elab.async false
set_option maxRecDepth 100000
namespace Mine
section
variable {K : Params → Frag} {prog : Program} {w : World} {A : Around} {E : Value → Shared → Prop} {s : Shared} {h₀ : Heap} {g₀ fx gi : GH} {mu : List (Addr × MV)} {ls : List (Str × D)} {env : Env} {L : Addr}
theorem aio_cons {t : Value → Sem Unit} {ts : List (Value → Sem Unit)} {x : Value} {xs : List Value} {Q : Unit → Shared → Prop} (h : wpAny (model prog w) A (t x) (fun _ s₁ => wpAny (model prog w) A (assignInOrder ts xs) Q E s₁) E s) : wpAny (model prog w) A (assignInOrder (t :: ts) (x :: xs)) Q E s := by
  show wpAny _ _ (do holding xs (t x); assignInOrder ts xs) Q E s
  exact wpAny_bind (wpAny_holding h)
theorem aio_nil {xs : List Value} {Q : Unit → Shared → Prop} (h : Q () s) : wpAny (model prog w) A (assignInOrder [] xs) Q E s := wpAny_pure h
theorem zassignT {elts : List Expr} {k : Nat} {pos : Pos} {a : Addr} {ds : List D} {Q : Unit → Shared → Prop} (hh : A.handled = none) (X : Fz h₀ g₀ fx gi mu ls L s.heap) (ha : Has gi (.ref a) (.t ds)) (hn : (assignEach elts env).length = ds.length) (hstar : (assignEach elts env).findIdx? (·.1) = none)
    (h : ∀ vs g' h', HasAll g' vs ds → gi.le g' → Fz h₀ g₀ fx g' mu ls L h' → wpAny (model prog w) A (assignInOrder ((assignEach elts env).map (·.2)) vs) Q E { s with heap := h' }) :
    wpAny (model prog w) A (assign (.Tuple elts k pos) env (.ref a)) Q E s := by
  obtain ⟨vs, n, xa⟩ := ha.objT X.sub
  refine wpAny_assign_Tuple hh (items := vs.toArray) ⟨_, xa.ob, rfl, n, rfl⟩ (by rw [hn, List.size_toArray, xa.all.1]) hstar fun h' he => ?_
  exact h vs _ h' (xa.all.mono (grow_le X.sub)) (grow_le X.sub) (X.ext fun b o e => he b o (fun z => by subst z; exact absurd (Heap.lt_size e) (Nat.lt_irrefl _)) e)
/-- a def of the top with a star parameter -/
theorem call_fzV (g : GH) (vs : List Value) (es : List D) (binds : Value → List (Str × Value)) (ls : List (Str × D)) {name qual : Str} {params : Arguments} {body : List Stmt} {scope : Scope} {dV kV doc pm cdv ct oc : Value} {an od : Option Addr} {osl : Array (Option Value)} {f : Addr} {pos : List Value} {kw : List (Str × Value)} {Q : Value → Shared → Prop}
    (G : Gl K w s.heap) (hg : g.le s.heap.get?) (hvs : HasAll g vs es) (hb : ∀ g' v, g.le g' → Has g' v (.t es) → Binds g' (binds v) ls) (ho : (K w.params).lookup f = some ⟨oc, od, .func (fnOf name qual params body scope dV kV doc pm an cdv ct), osl⟩) (hcd : codeIn (K w.params) cdv qual = true) (hroom : A.depth < recursionLimit)
    (hbind : bindArgs (fnOf name qual params body scope dV kV doc pm an cdv ct) ⟨pos, kw⟩ = (newTuple vs >>= fun t => pure (binds t))) (hsz : vs.length ≤ sizeLine) (hloc : ∀ v, ∀ y ∈ binds v, scope.names.lookup y.1 = some .local) (hnd : ∀ v, ((binds v).map (·.1)).Nodup)
    (h : ∀ h₁ tk L g', g.le g' → Gl K w s.heap → Fz s.heap g s.heap.get? g' [] ls L h₁ →
      wpAny (model prog w) (A.deeper (envOf qual scope L f cdv)) (execs body (envOf qual scope L f cdv))
        (fun fl s' => Q (match fl with | .ret v => v | _ => .none) s') (fun _ _ => False) { s with heap := h₁, toks := tk })
    (hco : scope.isCoroutine = false) (hgen : scope.isGenerator = false) (hk : scope.kind = .function) (hcell : ∀ x ∈ scope.names, x.2 ≠ .cell) :
    wpAny (model prog w) A (call (.ref f) pos kw) Q E s := by
  refine wpAny_call (codeAny_call_function (fd := fnOf name qual params body scope dV kV doc pm an cdv ct) (body := body) hroom (G.k _ _ ho) rfl hco hgen rfl (codeRec_of G.k hcd) ?_)
  rw [hbind]
  refine wpAny_bind (wpAny_newObj_type (wpAny_pure ?_) (by show vs.toArray.size ≤ sizeLine; rw [List.size_toArray]; exact hsz))
  dsimp only
  generalize hq : s.heap.objs.size = q
  generalize hH : s.heap.push { cls := .type "tuple", dict := none, data := .seq vs.toArray } = H
  have hold : ∀ b o, s.heap.get? b = some o → H.get? b = some o := fun b o e => hH ▸ Heap.get?_push_of_some _ e
  have hqo : H.get? q = some { cls := .type "tuple", data := .seq vs.toArray } := by rw [← hH, ← hq]; exact Heap.get?_push_size _ rfl
  have hHs : H.objs.size = q + 1 := by rw [← hH, Heap.size_push, hq]
  refine wpAny_newFunctionEnv hcell (hloc (.ref q)) (fun h₁ hns hsb => ⟨(G.nl.keeps hold).fresh _ hsb, codeAny_func ?_⟩) hk
  have hkeep : ∀ b o, H.get? b = some o → h₁.get? b = some o := fun b o e => hsb.extBut b o (Nat.ne_of_lt (Heap.lt_size e)) (Heap.get?_push_of_some _ e)
  have gno : ∀ b, s.heap.objs.size ≤ b → g b = none := fun b hb => by
    cases e : g b with
    | none => rfl
    | some o => exact absurd (Heap.lt_size (hg b o e)) (Nat.not_lt.mpr hb)
  have hle : g.le (fun b => if b = q then H.get? q else g b) := fun b o e => by
    show (if b = q then H.get? q else g b) = some o
    rw [if_neg (fun z => by rw [z, gno q (by omega)] at e; cases e)]; exact e
  have hqg : (fun b => if b = q then H.get? q else g b : GH) q = some { cls := .type "tuple", data := .seq vs.toArray } := (if_pos rfl).trans hqo
  have hbd := hb _ (.ref q) hle (Has.ofTup hqg (hvs.mono hle))
  have Z : Fz s.heap g s.heap.get? (fun b => if b = q then H.get? q else g b) [] ls H.objs.size h₁ := {
    ns := ⟨_, hns, fun x d e => by
      obtain ⟨v, a, b⟩ := hbd.lookup e
      exact ⟨v, (lookup_rev (hnd _)).trans a, b⟩⟩
    base := fun _ _ e => e
    keep := fun b o e => hkeep b o (hold b o e)
    offx := by
      cases e : s.heap.get? H.objs.size with
      | none => rfl
      | some o => exact absurd (Heap.lt_size e) (Nat.not_lt.mpr (by omega))
    sub := fun b o e => by
      have e' : (if b = q then H.get? q else g b) = some o := e
      split at e'
      · rename_i z; rw [z]; exact hkeep _ _ e'
      · exact hkeep _ _ (hold _ _ (hg b o e'))
    off := by
      show (if H.objs.size = q then H.get? q else g H.objs.size) = none
      rw [if_neg (by omega)]; exact gno _ (by omega)
    low := fun b hb => by
      show (if b = q then H.get? q else g b) = g b
      rw [if_neg (by omega)]
    above := by omega
    apart := fun b hb hn => by
      cases e : s.heap.get? b with
      | none => exact absurd e hn
      | some o => exact absurd (Heap.lt_size e) (Nat.not_lt.mpr hb)
    mv := fun _ _ hm => nomatch hm
    nd := List.nodup_nil }
  exact wpAny_mono (h h₁ _ H.objs.size _ hle G Z) (fun _ _ x => x) fun _ _ x => x.elim
theorem zTry {body orelse : List Stmt} {hd₀ : ExceptHandler} {hs : List ExceptHandler} {pos : Pos} {Q : Flow → Shared → Prop}
    (h : wpAny (model prog w) A (execs body env) (fun f s₁ => match f with | .next => wpAny (model prog w) A (execs orelse env) Q E s₁ | f => Q f s₁) (fun _ _ => False) s) :
    wpAny (model prog w) A (exec (.Try body (hd₀ :: hs) orelse [] pos) env) Q E s :=
  wpAny_Try_except (wpAny_mono h (fun _ _ x => x) fun _ _ x => x.elim)
end
end Mine
end
section
open PySem PySem.W PySem.Calls PyProof.Rows
open AutoSeq1 (wpAny_loadPart')
set_option Elab.async false
set_option maxRecDepth 100000
namespace Mine
/-! a set of the one value True -/
def setT (led b : Bool) : SetTable := if b then { mask := 7, place := #[1], dummies := #[], finger := 0, led, moves := 0, plain := true } else .fresh 0 0 led
def setEs (b : Bool) : Array (Int × Value) := if b then #[(1, .bool true)] else #[]
def setObj (led b : Bool) : Obj := { cls := .type "set", dict := none, data := .set (setEs b) (if b then 1 else 0) (setT led b) }
theorem setFits (led b : Bool) : (setT led b).fits (setEs b).size = true := by cases led <;> cases b <;> rfl
theorem lay_true (led : Bool) : layNew (setT led false) (setEs false) 1 (.bool true) = (setEs true, setT led true, false, false) := by
  cases led <;> rfl
theorem full_true (led : Bool) : (setT led true).tooFull = false := by cases led <;> rfl
theorem args_hash_bool (b : Bool) : argsOk "int.__hash__" ⟨[.bool b], []⟩ := by unfold argsOk; kernel_rfl
section
variable {prog : Program} {w : World} {A : Around} {E : Value → Shared → Prop} {s : Shared}
theorem wpAny_pyHash_true {Q : Int → Shared → Prop} (h : ∀ tk, Q 1 { s with toks := tk }) : wpAny (model prog w) A (pyHash (.bool true)) Q E s := by
  unfold pyHash
  have hv : [Value.bool true].any Value.onHeap = false := rfl
  refine wpAny_bind ?_
  rw [cRoomFor, if_neg (by rw [hv]; exact Bool.false_ne_true)]; refine wpAny_pure ?_
  refine wpAny_bind (wpAny_specialOf (PySem.typeIs_bool s true) PySem.F.slot_bool_hash.lookup ?_)
  show wpAny _ _ (if (some (Value.builtin "int.__hash__") == some Value.none) = true then _ else _) Q E s
  rw [if_neg (by rw [beq_builtin_none]; exact Bool.false_ne_true)]
  refine wpAny_bind (wpAny_specialOf (PySem.typeIs_bool s true) PySem.F.slot_bool_hash.lookup ?_)
  show wpAny _ _ (callSpecialIfBoundUnlessNone? (.bool true) "__hash__" _ >>= _) Q E s
  refine wpAny_bind (wpAny_callSpecialIfBoundUnlessNone?_slot (PySem.typeIs_bool s true) PySem.F.slot_bool_hash
    (wpAny_call_entry PySem.F.slot_bool_hash (PySem.typeIs_bool s true) entry_int_hash
      (show wpAny _ _ (do ret (← mkInt (rawHash 1))) _ _ s from wpAny_ret_mkInt ?_) (args_hash_bool _)))
  exact wpAny_pure (h _)
theorem eqb_true {Q : Bool → Shared → Prop} (h : Q true s) : wpAny (model prog w) A (eqBool (.bool true) (.bool true)) Q E s := by
  unfold eqBool
  refine wpAny_holding ?_
  show wpAny _ _ (if (Value.bool true == Value.bool true) = true then _ else _) Q E s
  rw [if_pos (by decide)]
  exact wpAny_bind (wpAny_rule (wpAny_pure h))
theorem add_true {a : Addr} {led b : Bool} {Q : Value → Shared → Prop} (ho : s.heap.get? a = some (setObj led b))
    (h : ∀ h' tk, h'.get? a = some (setObj led true) → Heap.SameBut a s.heap h' → Q .none { s with heap := h', toks := tk }) :
    wpAny (model prog w) A (call (.builtin "set.add") [.ref a, .bool true]) Q E s := by
  have hT : s.TypeIs (.ref a) "set" := ⟨_, ho, rfl⟩
  refine wpAny_call_entry PySem.F.slot_set_add hT PySem.F.entry_set_add ?_ (PySem.F.args_set_add_2 _ _)
  unfold Builtin.«set.add» Builtin.Frozenset.oneOther
  simp only [List.isEmpty_nil, bind_assoc]
  unfold Builtin.Frozenset.addrOf setAdd
  refine wpAny_bind (wpAny_pure ?_)
  try dsimp only
  refine wpAny_bind (wpAny_pure ?_)
  try dsimp only
  refine wpAny_bind ?_
  refine wpAny_holding ?_
  refine wpAny_bind (wpAny_pyHash_true fun tk => ?_)
  unfold setAddHashed setAddHashedIn
  refine wpAny_holding (wpAny_bind (wpAny_setState_of (es := setEs b) (t := setT led b) ho rfl (setFits led b) ?_))
  dsimp only
  have hby : byScan (.bool true) (setEs b) = true := by cases b <;> simp [byScan, setEs, Value.scannable, scanBound]
  rw [hby]
  simp only [↓reduceIte]
  unfold setAddByScan
  refine wpAny_bind ?_
  refine wpAny_bind (wpAny_rule ?_)
  cases b with
  | true =>
    refine wpAny_bind ?_
    show wpAny _ _ (setScanFrom a (.bool true) 1 true [(1, .bool true)] 0) _ _ _
    unfold setScanFrom
    rw [if_pos (by decide)]
    refine wpAny_bind (wpAny_setEpoch_of (es := setEs true) (t := setT led true) ho rfl (setFits led true) ?_)
    refine wpAny_bind (eqb_true ?_)
    simp only [Bool.and_self, ↓reduceIte]
    exact wpAny_pure (wpAny_pure (wpAny_pure (wpAny_pure ⟨_, rfl, h _ _ ho (Heap.SameBut.refl a s.heap)⟩)))
  | false =>
    refine wpAny_bind ?_
    show wpAny _ _ (setScanFrom a (.bool true) 1 true [] 0) _ _ _
    unfold setScanFrom
    refine wpAny_pure ?_
    dsimp only
    rw [lay_true]
    dsimp only
    refine wpAny_bind (wpAny_pure ?_)
    rw [if_pos (show (setT led true).plain = true by cases led <;> rfl)]
    refine wpAny_bind ?_
    rw [hashByValue_scannable 8 (show (Value.bool true).scannable = true from rfl)]
    refine wpAny_pure ?_
    simp only [plainKind, ↓reduceIte, full_true, Bool.not_false, Bool.and_false, Bool.false_eq_true]
    refine wpAny_bind (wpAny_storeSet_of (es := setEs false) (t := setT led false) ho rfl ?_ (by decide))
    refine wpAny_pure (wpAny_pure (wpAny_pure ⟨_, rfl, h _ _ ?_ (Heap.SameBut.update ..)⟩))
    have hg := Heap.get?_update_self (Obj.putSet (setEs true) (setT led true)) ho rfl
    rw [hg]
    rfl
end
end Mine
end
section
open PySem PySem.W PySem.Calls PyProof.Rows
open AutoSeq1 (wpAny_loadPart')
set_option Elab.async false
set_option maxRecDepth 100000
set_option maxHeartbeats 400000
namespace Mine
theorem compTurn_set (elt target iter : Expr) (scope : Scope) (pos : Pos) (it acc : Value) (env : Env) :
    compTurn (.SetComp elt [⟨target, iter, [], 0⟩] scope pos) 0 it acc env = (standAt iter.pos >>= fun _ => pyNext it >>= fun r => match r with
      | none => pure (.done .next)
      | some v => letOwnedTupleGo target it v >>= fun _ => assign target env v >>= fun _ =>
        (eval elt env >>= fun x => standAt elt.pos >>= fun _ => call (.builtin "set.add") [acc, x] >>= fun _ => pure ()) >>= fun _ =>
          again (.compLoop (.SetComp elt [⟨target, iter, [], 0⟩] scope pos) 0 it acc env)) := by rfl
section
variable {prog : Program} {w : World} {A : Around} {E : Value → Shared → Prop} {R : Result → Shared → Prop} {s : Shared}
theorem compStart_set {elt target iter : Expr} {scope : Scope} {pos : Pos} {it acc : Value} {env : Env}
    (h0 : codeAny (model prog w) A (.compLoop (.SetComp elt [⟨target, iter, [], 0⟩] scope pos) 0 it acc env) R s)
    (h : wpAny (model prog w) A (pyIter it) (fun it' s' => codeAny (model prog w) A (.compLoop (.SetComp elt [⟨target, iter, [], 0⟩] scope pos) 0 it' acc env) R s')
      (notedBy (model prog w) A env fun x s' => R (.error x) s') s) :
    codeAny (model prog w) A (.compStart (.SetComp elt [⟨target, iter, [], 0⟩] scope pos) 0 it acc env) R s := by
  refine codeAny_of_tree ?_
  show wpAny _ _ ((compStart (.SetComp elt [⟨target, iter, [], 0⟩] scope pos) 0 it acc env).onRaise (fun x => do noteFrame x env; standAt theWindowsPlace)) _ _ s
  refine wpAny_notedAt ?_
  unfold compStart
  show wpAny _ _ (ask >>= _) _ _ s
  refine wpAny_bind (wpAny_askSetting (wpAny_ite ?_))
  split
  · first
      | exact wpAny_bind (wpAny_pure (wpAny_pure (And.intro rfl h0)))
      | exact wpAny_pure (And.intro rfl h0)
  · first
      | exact wpAny_bind (wpAny_rule (wpAny_bind (wpAny_standAt (wpAny_bind (wpAny_mono h (fun it' s' h' => wpAny_pure (And.intro rfl h')) fun _ _ x => x)))))
      | (refine wpAny_bind (wpAny_rule ?_); show wpAny _ _ (standAt iter.pos >>= _) _ _ s; exact wpAny_bind (wpAny_standAt (wpAny_bind (wpAny_mono h (fun it' s' h' => wpAny_pure (And.intro rfl h')) fun _ _ x => x))))
theorem compLoop_set {elt target iter : Expr} {scope : Scope} {pos : Pos} {it acc : Value} {env : Env} (I : Nat → Shared → Prop)
    (turn : ∀ n s, I n s → wpAny (model prog w) A (pyNext it) (fun r s₁ => match r with
      | none => R (.ok .next) s₁
      | some v => wpAny (model prog w) A (assign target env v) (fun _ s₂ => wpAny (model prog w) A (eval elt env) (fun x s₃ =>
          wpAny (model prog w) A (call (.builtin "set.add") [acc, x]) (fun _ s₄ => ∃ m, m < n ∧ I m s₄) (notedBy (model prog w) A env fun e s' => R (.error e) s') s₃)
          (notedBy (model prog w) A env fun e s' => R (.error e) s') s₂) (notedBy (model prog w) A env fun e s' => R (.error e) s') s₁) (notedBy (model prog w) A env fun e s' => R (.error e) s') s)
    (n : Nat) (h : I n s) (ht : ∀ v, letOwnedTupleGo target it v = pure () := by intro _; rfl) :
    codeAny (model prog w) A (.compLoop (.SetComp elt [⟨target, iter, [], 0⟩] scope pos) 0 it acc env) R s := by
  refine codeAny_loop rfl I (fun n s hI => ?_) n h
  show wpAny _ _ ((compTurn (.SetComp elt [⟨target, iter, [], 0⟩] scope pos) 0 it acc env).onRaise (fun x => do noteFrame x env; theTreesLotGoes x)) _ _ s
  refine wpAny_noted ?_
  rw [compTurn_set]
  refine wpAny_bind (wpAny_standAt (wpAny_bind (wpAny_mono (turn n s hI) (fun r s₁ h₁ => ?_) fun _ _ h' => h')))
  cases r with
  | none => exact wpAny_pure h₁
  | some v =>
    refine wpAny_bind (wpAny_of_eq (ht v) ?_)
    exact wpAny_bind (wpAny_mono h₁ (fun _ s₂ h₂ => wpAny_bind (wpAny_bind (wpAny_mono h₂ (fun x s₃ h₃ => wpAny_bind (wpAny_standAt (wpAny_bind (wpAny_mono h₃
      (fun _ s₄ h₄ => wpAny_pure (wpAny_pure ⟨rfl, h₄⟩)) fun _ _ h' => h')))) fun _ _ h' => h'))) fun _ _ h' => h')
theorem newSet_led {Q : Value → Shared → Prop}
    (h : Q (.ref s.heap.objs.size) { s with heap := s.heap.push (setObj (!w.params.followText "set-order") false) }) : wpAny (model prog w) A (newSet (.type "set")) Q E s := by
  unfold newSet setsByText
  refine wpAny_bind (wpAny_bind (wpAny_askSetting (wpAny_pure ?_)))
  dsimp only
  simp only [newObj]
  exact wpAny_bind (wpAny_alloc (wpAny_pure h))
end
section
variable {K : Params → Frag} {prog : Program} {w : World} {A : Around} {E : Value → Shared → Prop} {s : Shared} {h₀ : Heap} {g₀ fx gi : GH} {mu : List (Addr × MV)} {ls : List (Str × D)} {env : Env} {L : Addr}
/-- an object that is not yet told is taken up -/
theorem Fz.adopt {L : Addr} {h : Heap} {q : Addr} {o : Obj} (X : Fz h₀ g₀ fx gi mu ls L h) (ho : h.get? q = some o) (hL : q ≠ L) (hfx : fx q = none) (hgi : gi q = none) (hlo : h₀.objs.size ≤ q) (hm : ∀ c, (q, c) ∉ mu) :
    ∃ g', gi.le g' ∧ g' q = some o ∧ Fz h₀ g₀ fx g' mu ls L h := by
  have le : gi.le (fun b => if b = q then h.get? q else gi b) := fun b o e => by
    show (if b = q then h.get? q else gi b) = some o
    rw [if_neg (fun z => by rw [z, hgi] at e; cases e)]; exact e
  refine ⟨fun b => if b = q then h.get? q else gi b, le, (if_pos rfl : (if q = q then h.get? q else gi q) = h.get? q).trans ho, ?_⟩
  exact {
    ns := let ⟨m, n, r⟩ := X.ns; ⟨m, n, fun x d e => let ⟨v, a, b⟩ := r x d e; ⟨v, a, b.mono le⟩⟩
    base := X.base
    keep := X.keep
    offx := X.offx
    sub := fun b o e => by
      have e' : (if b = q then h.get? q else gi b) = some o := e
      split at e'
      · rename_i z; rw [z]; exact e'
      · exact X.sub b o e'
    off := by show (if L = q then h.get? q else gi L) = none; rw [if_neg (Ne.symm hL)]; exact X.off
    low := fun b hb => by show (if b = q then h.get? q else gi b) = _; rw [if_neg (fun z => by rw [z] at hb; exact absurd hb (Nat.not_lt.mpr hlo))]; exact X.low b hb
    above := X.above
    apart := fun b hb hn => by
      show (if b = q then h.get? q else gi b) = none
      rw [if_neg (fun z => hn (by rw [z]; exact hfx))]; exact X.apart b hb hn
    mv := fun p c hp => by
      obtain ⟨a, b, c', d, e⟩ := X.mv p c hp
      refine ⟨a.mono le fun _ e => e, b, c', ?_, e⟩
      show (if p = q then h.get? q else gi p) = none
      have hpq : ¬ p = q := fun z => hm c (by rw [← z]; exact hp)
      rw [if_neg hpq]; exact d
    nd := X.nd }
/-- {.. for x in ..}, each item True -/
theorem zsetcomp {x : Str} {px pos : Pos} {elt iter : Expr} {scope : Scope} {cl : List (Str × Addr)} {Q : Value → Shared → Prop}
    (hclos : closureFor scope env = pure cl) (hcell : ∀ y ∈ scope.names, y.2 ≠ .cell) (hkind : scope.kind = .function)
    (hnames : ∀ y ∈ scope.names, y.2 = .local → scope.names.lookup y.1 = some .local) (hx : scope.names.lookup x = some .local)
    (h : wpAny (model prog w) A (eval iter env) (fun v s₁ => ∃ gi mu ls ds, Fz h₀ g₀ fx gi mu ls env.locals s₁.heap ∧ Src prog w A s₁ gi v ds ∧ 0 < ds.length ∧
      (∀ (i : Nat) (d : D) (C : Addr) (g' fx' : GH) (mu' : List (Addr × MV)) (s₂ : Shared), ds[i]? = some d → gi.le g' → Fz h₀ g₀ fx' g' mu' [(x, d)] C s₂.heap → (∀ q ∈ mu, q ∈ mu') →
        wpAny (model prog w) A (eval elt (compEnvC scope cl C env)) (Elt s₂ h₀ g₀ fx' g' mu' [(x, d)] C (.bo true)) (fun _ _ => False) s₂) ∧
      (∀ a g' h' tk, gi.le g' → Fz h₀ g₀ fx g' mu ls env.locals h' → g' a = some (setObj (!w.params.followText "set-order") true) → Q (.ref a) { s₁ with heap := h', toks := tk })) (fun _ _ => False) s)
    (hs : ∀ x, foldedSetIterable iter env x = pure x := by intro _; rfl) :
    wpAny (model prog w) A (eval (.SetComp elt [⟨.Name x px, iter, [], 0⟩] scope pos) env) Q (fun _ _ => False) s := by
  show wpAny _ _ (comprehension (.SetComp elt [⟨.Name x px, iter, [], 0⟩] scope pos) scope env _ (newSet (.type "set")) false (eval iter env) none) _ _ _
  refine wpAny_comprehension_free (use := none) rfl hs hclos hkind hnames (wpAny_mono h (fun v s₁ h₁ => ?_) fun _ _ e => e)
  obtain ⟨gi, mu, ls, ds, X, S, hne, helt, hQ⟩ := h₁
  refine S _ _ fun I s₂ ⟨T⟩ => ?_
  obtain ⟨hh2, tk2, rfl⟩ := T.same
  refine newSet_led (wpAny_newFunctionEnv hcell (by intro y hy; simp at hy) (fun h₁ hns₁ hsb₁ => ?_) hkind)
  dsimp only at hns₁ hsb₁ ⊢
  generalize (!w.params.followText "set-order") = led at *
  generalize hH2 : hh2.push (setObj led false) = H2 at hns₁ hsb₁ ⊢
  have hC : H2.objs.size = hh2.objs.size + 1 := by rw [← hH2, Heap.size_push]
  have hwN : ∀ b ∈ T.wr, s₁.heap.get? b = none := fun b hb => by
    cases e : s₁.heap.get? b with
    | none => rfl
    | some o => exact absurd (Heap.lt_size e) (Nat.not_lt.mpr (T.new b hb).1)
  have hLw : env.locals ∉ T.wr := fun hm => absurd X.ltL (Nat.not_lt.mpr (T.new _ hm).1)
  have hfw : ∀ b ∈ T.wr, fx b = none := fun b hb => by
    cases e : fx b with
    | none => rfl
    | some o => have := X.keep b o e; rw [hwN b hb] at this; cases this
  have hgw : ∀ b ∈ T.wr, gi b = none := fun b hb => by
    cases e : gi b with
    | none => rfl
    | some o => have := X.sub b o e; rw [hwN b hb] at this; cases this
  have hmw : ∀ b ∈ T.wr, ∀ c, (b, c) ∉ mu := fun b hb c hm => by
    obtain ⟨a, _⟩ := X.mv b c hm
    obtain ⟨o, ho⟩ := a.live
    rw [hwN b hb] at ho; cases ho
  have X1 : Fz h₀ g₀ fx gi mu ls env.locals hh2 := X.away T.wr (fun b o hb e => T.ext b o e) fun b hb => ⟨fun e => hLw (e ▸ hb), hfw b hb, hgw b hb, hmw b hb⟩
  have X2 : Fz h₀ g₀ fx gi mu ls env.locals H2 := X1.away [] (fun b o _ e => hH2 ▸ Heap.get?_push_of_some _ e) fun b hb => nomatch hb
  have old : ∀ b o, H2.get? b = some o → h₁.get? b = some o := fun b o e => hsb₁.extBut b o (Nat.ne_of_lt (Heap.lt_size e)) (Heap.get?_push_of_some _ e)
  have X3 : Fz h₀ g₀ (fun b => if b = env.locals then H2.get? b else fx b) gi mu [] H2.objs.size h₁ := X2.inner old (Nat.le_refl _) hns₁ (fun x d e => by cases e)
  have hD₁ : h₁.get? hh2.objs.size = some (setObj led false) := old _ _ (hH2 ▸ Heap.get?_push_size _ rfl)
  have hold : ∀ b o, hh2.get? b = some o → h₁.get? b = some o := fun b o e => old b o (hH2 ▸ Heap.get?_push_of_some _ e)
  have hst₁ : T.St 0 h₁ := T.W.frame _ _ _ T.st fun b _ o e => hold b o e
  have hL2 : env.locals < hh2.objs.size := X1.ltL
  have hwB : ∀ b ∈ hh2.objs.size :: T.wr, h₀.objs.size ≤ b := fun b hb => by
    rcases List.mem_cons.mp hb with rfl | hb
    · exact Nat.le_of_lt (Nat.lt_of_le_of_lt X.above hL2)
    · exact Nat.le_of_lt (Nat.lt_of_le_of_lt X.above (Nat.lt_of_lt_of_le X.ltL (T.new b hb).1))
  have hwC : ∀ b ∈ hh2.objs.size :: T.wr, b ≠ H2.objs.size := fun b hb => by
    rcases List.mem_cons.mp hb with rfl | hb
    · rw [hC]; exact Nat.ne_of_lt (Nat.lt_succ_self _)
    · rw [hC]; exact Nat.ne_of_lt (Nat.lt_succ_of_lt (T.new b hb).2)
  have hDw : hh2.objs.size ∉ T.wr := fun hb => absurd (T.new _ hb).2 (Nat.lt_irrefl _)
  have none2 : ∀ (g : GH) b, g.le hh2.get? → hh2.objs.size ≤ b → g b = none := fun g b k hb => by
    cases e : g b with
    | none => rfl
    | some o => exact absurd (Heap.lt_size (k b o e)) (Nat.not_lt.mpr hb)
  have hfD : fx hh2.objs.size = none := none2 fx _ X1.keep (Nat.le_refl _)
  have hgD : gi hh2.objs.size = none := none2 gi _ X1.sub (Nat.le_refl _)
  have hmD : ∀ c, (hh2.objs.size, c) ∉ mu := fun c hm => by
    obtain ⟨a, _⟩ := X1.mv _ c hm
    obtain ⟨o, ho⟩ := a.live
    exact absurd (Heap.lt_size ho) (Nat.lt_irrefl _)
  have hw0 : ∀ b ∈ hh2.objs.size :: T.wr, gi b = none ∧ ∀ e, (b, e) ∉ mu := fun b hb => by
    rcases List.mem_cons.mp hb with rfl | hb
    · exact ⟨hgD, hmD⟩
    · exact ⟨hgw b hb, hmw b hb⟩
  have hDL : hh2.objs.size ≠ env.locals := Nat.ne_of_gt hL2
  generalize hfx1 : (fun b => if b = env.locals then H2.get? b else fx b : GH) = fx1 at X3
  have hfw1 : ∀ b ∈ hh2.objs.size :: T.wr, fx1 b = none := fun b hb => by
    rw [← hfx1]
    show (if b = env.locals then H2.get? b else fx b) = none
    rcases List.mem_cons.mp hb with rfl | hb
    · rw [if_neg hDL]; exact hfD
    · rw [if_neg (show ¬ b = env.locals from fun z => hLw (z ▸ hb))]; exact hfw b hb
  generalize hDD : hh2.objs.size = Dq at *
  generalize hCC : H2.objs.size = C at *
  have loop : ∀ s₃ : Shared, s₃ = { s₁ with heap := h₁, toks := tk2 + ([] : List (Str × Value)).length } →
      codeAny (model prog w) A (.compLoop (.SetComp elt [⟨.Name x px, iter, [], 0⟩] scope pos) 0 (.ref I) (.ref Dq) (compEnvC scope cl C env)) (compPost (model prog w) A (fun _ _ => False) none Q (.ref Dq) C) s₃ := by
    rintro s₃ rfl
    refine compLoop_set (fun k s' => ∃ i g', (∃ h tk, s' = { s₁ with heap := h, toks := tk }) ∧ T.St i s'.heap ∧ gi.le g' ∧ Fz h₀ g₀ fx1 g' mu [] C s'.heap ∧
      (∀ b ∈ Dq :: T.wr, g' b = none ∧ ∀ e, (b, e) ∉ mu) ∧ s'.heap.get? Dq = some (setObj led (decide (0 < i))) ∧ i ≤ ds.length ∧ k = ds.length + 1 - i) ?_ (ds.length + 1) ⟨0, gi, ⟨_, _, rfl⟩, hst₁, GH.le.refl _, X3, hw0, hD₁, Nat.zero_le _, rfl⟩
    rintro k s' ⟨i, g', ⟨hh, tk, rfl⟩, hst, hle, XX, hw, hD, hi, rfl⟩
    have hwT : ∀ b ∈ T.wr, g' b = none ∧ ∀ e, (b, e) ∉ mu := fun b hb => hw b (.tail _ hb)
    by_cases hlt : i < ds.length
    · refine T.W.item i _ _ _ hlt hst fun v h₂ tk₂ hPv hst₂ hk₂ => ?_
      obtain ⟨d, hd, hhas⟩ := T.has i v hPv
      have X4 : Fz h₀ g₀ fx1 g' mu [] C h₂ := XX.away T.wr hk₂ fun b hb => ⟨hwC b (.tail _ hb), hfw1 b (.tail _ hb), hwT b hb⟩
      have hD₂ := hk₂ Dq _ hDw hD
      have X5 := X4.hold (wr := Dq :: T.wr) fun b hb => ⟨hwC b hb, hwB b hb, hw b hb⟩
      have hle5 : GH.le fx1 (fun b => if b ∈ Dq :: T.wr then h₂.get? b else fx1 b) := fun b o e => by
        show (if b ∈ Dq :: T.wr then h₂.get? b else fx1 b) = some o
        rw [if_neg (fun hb => by rw [hfw1 b hb] at e; cases e)]; exact e
      have hin : ∀ b ∈ Dq :: T.wr, (fun b => if b ∈ Dq :: T.wr then h₂.get? b else fx1 b : GH) b = h₂.get? b := fun b hb => if_pos hb
      generalize (fun b => if b ∈ Dq :: T.wr then h₂.get? b else fx1 b : GH) = fx5 at X5 hle5 hin
      refine wpAny_assign_Name ?_
      refine wpAny_mono (E := fun _ _ => False) (zst (env := compEnvC scope cl C env) X5 (hhas.mono hle) (fun h₃ X6 => ?_) (lookup_relabel_local hx) (by simp [compEnvC, relabel, hkind])) (fun _ _ q => q) (fun _ _ e => e.elim)
      refine wpAny_mono (helt i d C g' _ _ _ hd hle X6 fun q hq => hq) (fun y s₅ h₅ => ?_) fun _ _ e => e.elim
      obtain ⟨⟨h5, tk5, rfl⟩, g5, le5, Y5, hy⟩ := h₅
      cases hy
      have hD₅ : h5.get? Dq = some (setObj led (decide (0 < i))) := Y5.keep Dq _ ((hin Dq (.head _)).trans hD₂)
      have hst₅ : ∀ h6, Heap.SameBut Dq h5 h6 → T.St (i + 1) h6 := fun h6 hs6 => T.W.frame _ _ _ hst₂ fun b hb o e => by
        have hbD : b ≠ Dq := fun z => by
          subst z
          obtain ⟨o', ho'⟩ := T.fix b hb hDw
          rw [hgD] at ho'; cases ho'
        refine (hs6.2 b hbD).trans ?_
        by_cases hbw : b ∈ T.wr
        · exact Y5.keep b o ((hin b (.tail _ hbw)).trans e)
        · obtain ⟨o', ho'⟩ := T.fix b hb hbw
          have h1 := X4.sub b o' (hle b o' ho')
          rw [e] at h1
          cases h1
          exact Y5.sub b o (le5 b o (hle b o ho'))
      have wrs : ∀ b ∈ Dq :: T.wr, g5 b = none ∧ ∀ e, (b, e) ∉ mu := fun b hb => by
        refine ⟨Y5.apart b (hwB b hb) ?_, (hw b hb).2⟩
        rw [hin b hb]
        rcases List.mem_cons.mp hb with rfl | hb
        · rw [hD₂]; exact fun e => nomatch e
        · obtain ⟨o, ho⟩ := T.live _ _ hst₂ b hb
          rw [ho]; exact fun e => nomatch e
      refine add_true hD₅ fun h6 tk6 hD₆ hs6 => ?_
      have Y6 : Fz h₀ g₀ fx1 g5 mu [] C h5 := (Y5.narrow hle5 X4.base).less fun x d q => by cases q
      have Y7 : Fz h₀ g₀ fx1 g5 mu [] C h6 := Y6.away [Dq] (fun b o hb e => (hs6.2 b (fun z => hb (by simp [z]))).trans e) fun b hb => by
        rw [List.mem_singleton.mp hb]
        exact ⟨hwC Dq (.head _), hfw1 Dq (.head _), wrs Dq (.head _)⟩
      refine ⟨ds.length + 1 - (i + 1), by omega, i + 1, g5, ⟨_, _, rfl⟩, hst₅ h6 hs6, hle.trans le5, Y7, wrs, ?_, hlt, rfl⟩
      rw [decide_eq_true (Nat.succ_pos i)]; exact hD₆
    · have hn : i = ds.length := by omega
      subst hn
      refine T.W.done _ _ _ hst fun h₂ tk₂ hk₂ => ?_
      have X4 : Fz h₀ g₀ fx1 g' mu [] C h₂ := XX.away T.wr hk₂ fun b hb => ⟨hwC b (.tail _ hb), hfw1 b (.tail _ hb), hwT b hb⟩
      have hD₂ := hk₂ Dq _ hDw hD
      rw [decide_eq_true hne] at hD₂
      obtain ⟨m, n, _⟩ := X4.ns
      refine ⟨m, n, fun h3 hs3 => ?_⟩
      have hCg : g' C = none := X4.off
      have hCm : ∀ c, (C, c) ∉ mu := fun c hm => (X4.mv C c hm).2.1 rfl
      have hCL : C ≠ env.locals := by rw [← hCC]; exact Nat.ne_of_gt X2.ltL
      have hCf : fx C = none := by
        have h2 := X4.offx
        rw [← hfx1] at h2
        have h2' : (if C = env.locals then H2.get? C else fx C) = none := h2
        rw [if_neg hCL] at h2'; exact h2'
      rw [← hfx1] at X4
      have Z := X2.outer hle X4
      have Z1 : Fz h₀ g₀ fx g' mu ls env.locals h3 := Z.away [C] (fun b o hb e => hs3.extBut b o (fun z => hb (by simp [z])) e) fun b hb => by
        rw [List.mem_singleton.mp hb]
        exact ⟨hCL, hCf, hCg, hCm⟩
      have hD₃ : h3.get? Dq = some (setObj led true) := hs3.extBut Dq _ (hwC Dq (.head _)) hD₂
      obtain ⟨g'', le'', ha, Z2⟩ := Z1.adopt hD₃ hDL hfD (hw Dq (.head _)).1 (hwB Dq (.head _)) hmD
      exact hQ Dq g'' h3 _ (hle.trans le'') Z2 ha
  exact compStart_set (loop _ rfl) (T.W.self 0 _ _ _ hst₁ (loop _ rfl))
end
end Mine
end
section
open PySem PySem.W PySem.Calls PyProof.Rows
open AutoSeq1 (wpAny_loadPart')
set_option Elab.async false
set_option maxRecDepth 100000
set_option maxHeartbeats 400000
namespace Mine
theorem slot_seti_next : Slot "set_iterator" "__next__" "set_iterator.__next__" :=
  .of (owner := "set_iterator") (n := "__next__") (by rw [typeLookup_type, builtinLookup_eq_fast]; kernel_rfl) (by decide +kernel) (by decide +kernel) (by decide +kernel)
    (by first | exact .inl (by decide +kernel) | exact .inr (by decide +kernel)) (by rw [isSubtype_type]; kernel_rfl)
theorem entry_seti_next : entryFor table "set_iterator.__next__" = some Builtin.«set_iterator.__next__» := entryFor_of_tree (by kernel_rfl)
theorem args_seti_next (a : Value) : argsOk "set_iterator.__next__" ⟨[a], []⟩ := by unfold argsOk; kernel_rfl
theorem entry_set_iter : entryFor table "set.__iter__" = some Builtin.«frozenset.__iter__» :=
  entryFor_alias (id' := "frozenset.__iter__") (by kernel_rfl) (by first | rfl | decide +kernel | (unfold String.splitOn; simp +decide [String.splitOnAux])) (by decide +kernel) (by kernel_rfl)
abbrev setItObj (slot i : Int) (a : Value) : Obj := { cls := .type "set_iterator", data := .fields #[rawInt slot, rawInt i, a, rawInt 1, rawInt 1] }
section
variable {prog : Program} {w : World} {A : Around} {E : Value → Shared → Prop} {s : Shared}
theorem pyIter_set {a : Addr} {led : Bool} {Q : Value → Shared → Prop} (ho : s.heap.get? a = some (setObj led true))
    (h : Q (.ref s.heap.objs.size) { s with heap := s.heap.push (setItObj 0 0 (.ref a)) }) : wpAny (model prog w) A (pyIter (.ref a)) Q E s := by
  have hT : s.TypeIs (.ref a) "set" := ⟨_, ho, rfl⟩
  refine wpAny_pyIter_slot hT PySem.F.slot_set_iter (wpAny_call_entry PySem.F.slot_set_iter hT entry_set_iter ?_ (PySem.F.args_set_iter_1 _))
  unfold Builtin.«frozenset.__iter__» Builtin.Frozenset.slot0 slotArgs
  simp only [List.isEmpty_nil, Bool.not_true, Bool.false_eq_true, ↓reduceIte, bind_assoc, List.length_nil, bne_self_eq_false]
  unfold Builtin.Frozenset.addrOf Builtin.Frozenset.sizeOf
  refine wpAny_bind (wpAny_pure ?_)
  try dsimp only
  refine wpAny_bind (wpAny_pure ?_)
  refine wpAny_bind (wpAny_bind (wpAny_setEntries_of (es := setEs true) (t := setT led true) ho rfl (setFits led true) (wpAny_pure ?_)))
  have hdr : ∀ Q' : Bool → Shared → Prop, Q' false s → wpAny (model prog w) A.in1 (setDrawn a) Q' E s := fun Q' hq => by
    unfold setDrawn setsByText
    refine wpAny_bind (wpAny_setState_of (es := setEs true) (t := setT led true) ho rfl (setFits led true) ?_)
    dsimp only
    refine wpAny_bind (wpAny_bind (wpAny_askSetting (wpAny_pure (wpAny_pure ?_))))
    have e : ∀ b : Bool, (!b && false) = false := by decide
    exact (e _).symm ▸ hq
  refine wpAny_bind (hdr _ ?_)
  rw [if_neg (by decide)]
  refine wpAny_bind (wpAny_pure ?_)
  refine wpAny_bind (wpAny_setEpoch_of (es := setEs true) (t := setT led true) ho rfl (setFits led true) ?_)
  unfold newFields
  refine wpAny_bind (wpAny_newObj_type ?_ (by size_fits))
  exact wpAny_pure ⟨_, rfl, "set_iterator", _, ⟨_, Heap.get?_push_size _ rfl, rfl⟩, slot_seti_next.lookup, h⟩
theorem pick_one (next : Nat → Nat) : pickOrder next (setEs true) = #[(1, .bool true)] := by
  show pickOrder.go next 1 0 [(1, Value.bool true)] #[] = _
  unfold pickOrder.go
  have : next 0 % [((1 : Int), Value.bool true)].length = 0 := Nat.mod_one _
  rw [this]
  rfl
theorem setNext_first {a : Addr} {Q : Option (Value × Nat) → Shared → Prop} (ho : s.heap.get? a = some (setObj (!w.params.followText "set-order") true))
    (h : ∀ slot : Nat, (slot = 0 ∧ w.params.followText "set-order" = true ∨ slot = 2 ∧ w.params.followText "set-order" = false) → Q (some (.bool true, slot)) s) : wpAny (model prog w) A (setNext a 0 0 1) Q E s := by
  unfold setNext
  refine wpAny_bind (wpAny_setState_of (es := setEs true) (t := setT _ true) ho rfl (setFits _ true) ?_)
  dsimp only
  have hby : ∀ Q' : Bool → Shared → Prop, Q' (w.params.followText "set-order") s → wpAny (model prog w) A setsByText Q' E s := fun Q' hq => wpAny_bind (wpAny_askSetting (wpAny_pure hq))
  refine wpAny_bind (hby _ ?_)
  cases hb : w.params.followText "set-order" with
  | true =>
    rw [hb] at ho hby h
    rw [if_pos rfl]
    rw [if_neg (by decide)]
    refine wpAny_bind ?_
    unfold setWalk
    refine wpAny_bind (wpAny_setState_of (es := setEs true) (t := setT _ true) ho rfl (setFits _ true) ?_)
    dsimp only
    refine wpAny_bind (hby _ ?_)
    rw [if_pos rfl]
    refine wpAny_bind (wpAny_askSetting (wpAny_pure ?_))
    rw [pick_one]
    exact wpAny_pure (h 0 (.inl ⟨rfl, rfl⟩))
  | false =>
    rw [hb] at ho hby h
    rw [if_neg (by decide)]
    rw [if_neg (by decide)]
    refine wpAny_bind (wpAny_pure ?_)
    exact wpAny_pure (h 2 (.inr ⟨rfl, rfl⟩))
theorem setNext_end {a : Addr} {slot : Nat} {Q : Option (Value × Nat) → Shared → Prop} (ho : s.heap.get? a = some (setObj (!w.params.followText "set-order") true))
    (hs : slot = 0 ∧ w.params.followText "set-order" = true ∨ slot = 2 ∧ w.params.followText "set-order" = false)
    (h : Q none s) : wpAny (model prog w) A (setNext a slot 1 1) Q E s := by
  unfold setNext
  refine wpAny_bind (wpAny_setState_of (es := setEs true) (t := setT _ true) ho rfl (setFits _ true) ?_)
  dsimp only
  have hby : ∀ Q' : Bool → Shared → Prop, Q' (w.params.followText "set-order") s → wpAny (model prog w) A setsByText Q' E s := fun Q' hq => wpAny_bind (wpAny_askSetting (wpAny_pure hq))
  refine wpAny_bind (hby _ ?_)
  rcases hs with ⟨rfl, hb⟩ | ⟨rfl, hb⟩
  · rw [hb] at ho hby ⊢
    rw [if_pos rfl]
    rw [if_neg (by decide)]
    refine wpAny_bind ?_
    unfold setWalk
    refine wpAny_bind (wpAny_setState_of (es := setEs true) (t := setT _ true) ho rfl (setFits _ true) ?_)
    dsimp only
    refine wpAny_bind (hby _ ?_)
    rw [if_pos rfl]
    refine wpAny_bind (wpAny_askSetting (wpAny_pure ?_))
    rw [pick_one]
    exact wpAny_pure h
  · rw [hb] at ho hby ⊢
    rw [if_neg (by decide)]
    rw [if_neg (by decide)]
    refine wpAny_bind (wpAny_pure ?_)
    exact wpAny_pure h
theorem pyNext_set {a it : Addr} {Q : Option Value → Shared → Prop} (ho : s.heap.get? a = some (setObj (!w.params.followText "set-order") true)) (hi : s.heap.get? it = some (setItObj 0 0 (.ref a)))
    (h : ∀ h' slot, h'.get? it = some (setItObj slot 1 (.ref a)) → Heap.SameBut it s.heap h' → (slot = 0 ∧ w.params.followText "set-order" = true ∨ slot = 2 ∧ w.params.followText "set-order" = false) → Q (some (.bool true)) { s with heap := h' }) : wpAny (model prog w) A (pyNext (.ref it)) Q E s := by
  have hT : s.TypeIs (.ref it) "set_iterator" := ⟨_, hi, rfl⟩
  unfold pyNext
  refine wpAny_bind (wpAny_attempt (wpAny_callSpecial?_slot (name := Str.ofString "__next__") hT slot_seti_next
    (wpAny_call_entry slot_seti_next hT entry_seti_next ?_ (args_seti_next _))))
  unfold Builtin.«set_iterator.__next__» slotArgs
  simp only [List.isEmpty_nil, Bool.not_true, Bool.false_eq_true, ↓reduceIte, bind_assoc, List.length_nil, bne_self_eq_false]
  refine wpAny_bind (wpAny_pure ?_)
  dsimp only
  refine wpAny_bind (wpAny_fieldsOf hi rfl ?_)
  dsimp only
  refine wpAny_bind (wpAny_setEntries_of (es := setEs true) (t := setT _ true) ho rfl (setFits _ true) ?_)
  rw [if_neg (by decide)]
  refine wpAny_bind (setNext_first ho fun slot hslot => ?_)
  dsimp only
  refine wpAny_bind (wpAny_setField_rec hi (by simp) fun h1 hi1 hs1 => ?_)
  refine wpAny_bind (wpAny_setField_rec hi1 (by simp) fun h2 hi2 hs2 => ?_)
  exact wpAny_pure ⟨_, rfl, wpAny_pure (h h2 slot hi2 (hs1.trans hs2) (by
    rcases hslot with ⟨rfl, e⟩ | ⟨rfl, e⟩
    · exact .inl ⟨rfl, e⟩
    · exact .inr ⟨rfl, e⟩))⟩
theorem pyNext_setEnd {a it : Addr} {slot : Int} {Q : Option Value → Shared → Prop} (hh : A.handled = none) (ho : s.heap.get? a = some (setObj (!w.params.followText "set-order") true)) (hi : s.heap.get? it = some (setItObj slot 1 (.ref a)))
    (hsl : slot = 0 ∧ w.params.followText "set-order" = true ∨ slot = 2 ∧ w.params.followText "set-order" = false)
    (h : ∀ h', Heap.ExtBut it s.heap h' → Q none { s with heap := h' }) : wpAny (model prog w) A (pyNext (.ref it)) Q E s := by
  have hT : s.TypeIs (.ref it) "set_iterator" := ⟨_, hi, rfl⟩
  unfold pyNext
  refine wpAny_bind (wpAny_attempt (wpAny_callSpecial?_slot (name := Str.ofString "__next__") hT slot_seti_next
    (wpAny_call_entry slot_seti_next hT entry_seti_next ?_ (args_seti_next _))))
  unfold Builtin.«set_iterator.__next__» slotArgs
  simp only [List.isEmpty_nil, Bool.not_true, Bool.false_eq_true, ↓reduceIte, bind_assoc, List.length_nil, bne_self_eq_false]
  refine wpAny_bind (wpAny_pure ?_)
  dsimp only
  refine wpAny_bind (wpAny_fieldsOf hi rfl ?_)
  dsimp only
  refine wpAny_bind (wpAny_setEntries_of (es := setEs true) (t := setT _ true) ho rfl (setFits _ true) ?_)
  rw [if_neg (by decide)]
  refine wpAny_bind (setNext_end (slot := slot.toNat) ho (by
    rcases hsl with ⟨rfl, e⟩ | ⟨rfl, e⟩
    · exact .inl ⟨rfl, e⟩
    · exact .inr ⟨rfl, e⟩) ?_)
  dsimp only
  refine wpAny_bind (wpAny_setField hi rfl (by simp) ?_)
  show wpAny _ _ (newExc (.type "StopIteration") [] >>= _) _ _ _
  refine wpAny_bind ?_
  simp only [newExc, newTuple]
  refine wpAny_bind (wpAny_newObj_type ?_ (by size_fits))
  refine wpAny_bind (m := firstArgMember _ _) (wpAny_of_eq (a := Value.none) (by first | rfl | (simp only [firstArgMember]; rfl)) ?_)
  refine wpAny_newObj_type ?_ (by size_fits)
  simp only [raiseNew]
  refine wpAny_bind (wpAny_handled ?_)
  first | rw [show A.in1.handled = none from hh] | rw [hh]
  refine wpAny_bind (wpAny_pure (wpAny_throw ?_))
  refine wpAny_bind (wpAny_isInstance (T := "StopIteration") (b := true) ⟨_, Heap.get?_push_size _ rfl, rfl⟩ isSubtype_stop ?_)
  exact wpAny_pure (h _ (((Heap.SameBut.update ..).extBut.push _).push _))
/-- x, = {True} -/
theorem unpack_set {a : Addr} {Q : List Value → Shared → Prop} (hh : A.handled = none) (ho : s.heap.get? a = some (setObj (!w.params.followText "set-order") true))
    (h : ∀ h', (∀ b o, s.heap.get? b = some o → h'.get? b = some o) → Q [.bool true] { s with heap := h' }) : wpAny (model prog w) A (unpackItems (.ref a) 1 none) Q E s := by
  have hT : s.TypeIs (.ref a) "set" := ⟨_, ho, rfl⟩
  unfold unpackItems
  refine wpAny_bind ?_
  unfold notIterableAtAll
  refine wpAny_bind (wpAny_specialOf hT PySem.F.slot_set_iter.lookup ?_)
  refine wpAny_pure ?_
  simp only [Bool.false_eq_true, if_false]
  refine wpAny_bind (wpAny_holding (pyIter_set ho ?_))
  have k1 : ∀ b o, s.heap.get? b = some o → (s.heap.push (setItObj 0 0 (.ref a))).get? b = some o := fun b o e => Heap.get?_push_of_some _ e
  have e1 := Heap.get?_push_size s.heap (o := setItObj 0 0 (.ref a)) rfl
  generalize s.heap.push (setItObj 0 0 (.ref a)) = h1 at k1 e1 ⊢
  have hne : ∀ b o, s.heap.get? b = some o → b ≠ s.heap.objs.size := fun b o e => Nat.ne_of_lt (Heap.lt_size e)
  refine wpAny_bind (wpAny_holding ?_)
  show wpAny _ _ (pyNext (.ref s.heap.objs.size) >>= _) _ E _
  refine wpAny_bind (pyNext_set (k1 _ _ ho) e1 fun h2 slot hi2 hs2 hsl => ?_)
  refine wpAny_bind (wpAny_holding (wpAny_pure (wpAny_pure ?_)))
  simp only [List.length_cons, List.length_nil, Nat.zero_add, Nat.lt_irrefl, if_false]
  refine wpAny_bind (wpAny_holding (pyNext_setEnd hh ((hs2.2 _ (hne _ _ ho)).trans (k1 _ _ ho)) hi2 hsl fun h3 hx => ?_))
  simp only [Option.isSome_none, Bool.false_eq_true, if_false]
  exact wpAny_pure (h h3 fun b o e => hx b o (hne b o e) ((hs2.2 b (hne b o e)).trans (k1 b o e)))
end
end Mine
end
section
open PySem PySem.W PySem.Calls PyProof.Rows
set_option Elab.async false
set_option maxRecDepth 100000
namespace Mine
section
variable {K : Params → Frag} {prog : Program} {w : World} {A : Around} {E : Value → Shared → Prop} {s : Shared} {h₀ : Heap} {g₀ fx gi : GH} {mu : List (Addr × MV)} {ls : List (Str × D)} {env : Env} {L : Addr}
def ForAtE (prog : Program) (w : World) (A : Around) (env : Env) (xi xv : Str) (pi pv pt : Pos) (kk : Nat) (body : List Stmt) (Q : Flow → Shared → Prop) (v : Value) (s : Shared) : Prop :=
  wpAny (model prog w) A (pyIter v) (fun it s₂ => codeAny (model prog w) A (.forLoop (.Tuple [.Name xi pi, .Name xv pv] kk pt) it body [] env) (fun r s' => match r with | .ok f => Q f s' | .error _ => False) s₂) (fun _ _ => False) s
theorem zForE {xi xv : Str} {pi pv pt pos : Pos} {kk : Nat} {iter : Expr} {body : List Stmt} {Q : Flow → Shared → Prop}
    (h : wpAny (model prog w) A (eval iter env) (ForAtE prog w A env xi xv pi pv pt kk body Q) (fun _ _ => False) s) (hs : ∀ x, foldedSetIterable iter env x = pure x := by intro _; rfl) :
    wpAny (model prog w) A (exec (.For (.Tuple [.Name xi pi, .Name xv pv] kk pt) iter body [] pos) env) Q (fun _ _ => False) s :=
  wpAny_For (wpAny_mono h (fun v s₁ h₁ => wpAny_mono h₁ (fun it s₂ h₂ => codeAny_mono h₂ fun r s' hr => match r, hr with | .ok _, hr => hr | .error _, hr => hr.elim) fun _ _ e => e) fun _ _ e => e) hs

theorem zforE {σ : Type} {l : Addr} {ds : List D} {xi xv : Str} {pi pv pt : Pos} {kk : Nat} {body : List Stmt} {Q : Flow → Shared → Prop} (MU : σ → List (Addr × MV)) (LS : σ → List (Str × D)) (P : Nat → σ → Prop) (B : σ → Prop) (c₀ : σ) (hh : A.handled = none)
    (X : Fz h₀ g₀ fx gi mu ls env.locals s.heap) (ha : Has gi (.ref l) (.l ds)) (hm : mu = MU c₀) (hl : ∀ p ∈ LS c₀, ls.lookup p.1 = some p.2) (h0 : P 0 c₀)
    (turn : ∀ i d c g' fx' s₁, ds[i]? = some d → P i c → gi.le g' → Fz h₀ g₀ fx' g' (MU c) ((xv, d) :: (xi, .i (i : Nat)) :: LS c) env.locals s₁.heap → (∃ h tk, s₁ = { s with heap := h, toks := tk }) →
      wpAny (model prog w) A (execs body env) (Turn s₁ h₀ g₀ fx' g' env.locals MU LS (P (i + 1)) B) (fun _ _ => False) s₁)
    (done : ∀ c g' s₁, P ds.length c ∨ B c → gi.le g' → Fz h₀ g₀ fx g' (MU c) (LS c) env.locals s₁.heap → (∃ h tk, s₁ = { s with heap := h, toks := tk }) → Q .next s₁)
    (hxi : env.kindOf xi = some .local := by rfl) (hxv : env.kindOf xv = some .local := by rfl) (hp : (env.scope.kind == .class || (env.scope.kind == .module && env.locals != env.globals)) = false := by rfl) :
    wpAny (model prog w) A (call (.type "enumerate") [.ref l]) (ForAtE prog w A env xi xv pi pv pt kk body Q) (fun _ _ => False) s := by
  obtain ⟨vs, n, xa⟩ := ha.obj X.sub
  have hlen : vs.length = ds.length := xa.all.1
  refine call_enumerate_list xa.list fun hs he hit hz hkeep => ?_
  unfold ForAtE
  refine wpAny_pyIter_enum he ?_
  have llt : l < s.heap.objs.size := Heap.lt_size xa.ob
  have none_of : ∀ (g : GH) b, g.le s.heap.get? → s.heap.objs.size ≤ b → g b = none := fun g b k hb => by
    cases e : g b with
    | none => rfl
    | some o => exact absurd (Heap.lt_size (k b o e)) (Nat.not_lt.mpr hb)
  generalize hit0 : s.heap.objs.size = it at he hit hz none_of
  generalize he0 : it + 1 = e at he
  have hie : it ≤ e := he0 ▸ Nat.le_succ it
  have hei : e ≠ it := he0 ▸ Nat.succ_ne_self it
  have wmem : ∀ b ∈ [e, it], s.heap.objs.size ≤ b := fun b hb => by
    rcases List.mem_cons.mp hb with rfl | hb
    · rw [hit0]; exact hie
    · rw [List.mem_singleton.mp hb, hit0]; exact Nat.le_refl _
  have hLw : env.locals ∉ [e, it] := fun hm => absurd X.ltL (Nat.not_lt.mpr (wmem _ hm))
  have hfw : ∀ b ∈ [e, it], fx b = none := fun b hb => none_of fx b X.keep (hit0 ▸ wmem b hb)
  have hgw : ∀ b ∈ [e, it], gi b = none := fun b hb => none_of gi b X.sub (hit0 ▸ wmem b hb)
  have hmw : ∀ b ∈ [e, it], ∀ c, (b, c) ∉ mu := fun b hb c hm => by
    obtain ⟨a, _⟩ := X.mv b c hm
    obtain ⟨o, ho⟩ := a.live
    exact absurd (Heap.lt_size ho) (Nat.not_lt.mpr (wmem b hb))
  have hwB : ∀ b ∈ [e, it], h₀.objs.size ≤ b := fun b hb => Nat.le_of_lt (Nat.lt_of_le_of_lt X.above (Nat.lt_of_lt_of_le X.ltL (wmem b hb)))
  have X1 : Fz h₀ g₀ fx gi mu ls env.locals hs := X.away [] (fun b o _ e => hkeep b o e) fun b hb => nomatch hb
  have X2 : Fz h₀ g₀ fx gi (MU c₀) (LS c₀) env.locals hs := hm ▸ X1.less (lessOf hl)
  refine codeAny_forLoop_any (fun k s' => ∃ i c g' old, (∃ h tk, s' = { s with heap := h, toks := tk }) ∧ IsEnum s'.heap e it ((i : Nat) : Int) old ∧ s'.heap.IsListIter it l i ∧ P i c ∧ gi.le g' ∧ Fz h₀ g₀ fx g' (MU c) (LS c) env.locals s'.heap ∧ (∀ b ∈ [e, it], g' b = none ∧ ∀ x, (b, x) ∉ MU c) ∧ i ≤ ds.length ∧ k = ds.length + 1 - i) ?_ (ds.length + 1)
    ⟨0, c₀, gi, .none, ⟨_, _, rfl⟩, he, hit, h0, GH.le.refl _, X2, fun b hb => ⟨hgw b hb, fun x hx => hmw b hb x (hm ▸ hx)⟩, Nat.zero_le _, rfl⟩
  rintro k s' ⟨i, c, g', old, ⟨H, tk, rfl⟩, he', hit', hP, hle, XX, hw, hi, rfl⟩
  have hgl : ∃ o, g' l = some o := let ⟨o, ho⟩ := xa.at_; ⟨o, hle _ _ ho⟩
  have hl' : H.IsList l vs.toArray := by
    obtain ⟨o, ho⟩ := xa.at_
    have e1 := X.sub _ _ ho
    rw [xa.ob] at e1
    cases e1
    exact ⟨_, XX.sub _ _ (hle _ _ ho), rfl, n, rfl⟩
  by_cases hlt : i < ds.length
  · have hv : vs.toArray[i]? = some (vs[i]'(hlen ▸ hlt)) := by simp [hlen ▸ hlt]
    have hd : ds[i]? = some ds[i] := List.getElem?_eq_getElem hlt
    have hhas : Has gi (vs[i]'(hlen ▸ hlt)) ds[i] := xa.all.2 i _ _ (by simpa using hv) hd
    refine wpAny_pyNext_enum_item he' hit' hl' hv hei fun h₁ heo hit₁ ht₁ hz₁ hk₁ => ?_
    refine wpAny_letOwnedTupleGo_enum heo fun h₂ he₂ hs₂ => ?_
    replace hs₂ : Heap.SameBut e h₁ h₂ := hs₂
    have heH : e < H.objs.size := Heap.lt_size he'
    obtain ⟨oi, hoi, _⟩ := id hit'
    have hiH : it < H.objs.size := Heap.lt_size hoi
    have ht₂ : h₂.IsTuple H.objs.size #[.int i tk, vs[i]'(hlen ▸ hlt)] := ⟨_, (hs₂.2 _ (Nat.ne_of_gt heH)).trans ht₁, rfl, _, rfl⟩
    have hz₂ : h₂.objs.size = H.objs.size + 1 := hs₂.1.trans hz₁
    refine wpAny_assign_Tuple hh ht₂ rfl rfl fun h₃ hx₃ => ?_
    replace hx₃ : Heap.ExtBut h₂.objs.size h₂ h₃ := hx₃
    have old₃ : ∀ b o, b < H.objs.size → h₂.get? b = some o → h₃.get? b = some o := fun b o hb x => hx₃ b o (by rw [hz₂]; exact Nat.ne_of_lt (Nat.lt_succ_of_lt hb)) x
    have k₃ : ∀ b o, b ∉ [e, it] → H.get? b = some o → h₃.get? b = some o := fun b o hb x => by
      have hbe : b ≠ e := fun z => hb (by simp [z])
      have hbi : b ≠ it := fun z => hb (by simp [z])
      exact old₃ b o (Heap.lt_size x) ((hs₂.2 b hbe).trans (hk₁ b o hbe hbi x))
    have he₃ : IsEnum h₃ e it ((i : Int) + 1) (vs[i]'(hlen ▸ hlt)) := old₃ e _ heH he₂
    have hit₃ : h₃.IsListIter it l (i + 1) := (hit₁.extBut hs₂.extBut (Ne.symm hei)).at fun o x => old₃ it o hiH x
    have X3 : Fz h₀ g₀ fx g' (MU c) (LS c) env.locals h₃ := XX.away [e, it] k₃ fun b hb => ⟨fun z => hLw (z ▸ hb), hfw b hb, hw b hb⟩
    have X5 := X3.hold (wr := [e, it]) fun b hb => ⟨fun z => hLw (z ▸ hb), hwB b hb, hw b hb⟩
    have hle5 : fx.le (fun b => if b ∈ [e, it] then h₃.get? b else fx b) := fun b o x => by
      show (if b ∈ [e, it] then h₃.get? b else fx b) = some o
      rw [if_neg (fun hb => by rw [hfw b hb] at x; cases x)]; exact x
    have hin : ∀ b ∈ [e, it], (fun b => if b ∈ [e, it] then h₃.get? b else fx b : GH) b = h₃.get? b := fun b hb => if_pos hb
    have hme : e ∈ [e, it] := .head _
    have hmi : it ∈ [e, it] := .tail _ (.head _)
    generalize (fun b => if b ∈ [e, it] then h₃.get? b else fx b : GH) = fx5 at X5 hle5 hin
    show wpAny _ A (do holding [vs[i]'(hlen ▸ hlt)] (assign (.Name xi pi) env (.int i tk)); do holding [] (assign (.Name xv pv) env (vs[i]'(hlen ▸ hlt))); pure ()) _ _ _
    refine wpAny_bind (wpAny_holding (wpAny_assign_Name ?_))
    refine wpAny_mono (E := fun _ _ => False) (zst (env := env) X5 (.i _ _) (fun h₄ X6 => ?_) hxi hp) (fun _ _ q => q) (fun _ _ e => e.elim)
    refine wpAny_bind (wpAny_holding (wpAny_assign_Name ?_))
    refine wpAny_mono (E := fun _ _ => False) (zst (env := env) X6 (hhas.mono hle) (fun h₅ X7 => ?_) hxv hp) (fun _ _ q => q) (fun _ _ e => e.elim)
    refine wpAny_pure ?_
    obtain ⟨oi3, hoi3, hoi3'⟩ := hit₃
    have back : ∀ c' g'' (s₂ : Shared), g'.le g'' → Fz h₀ g₀ fx5 g'' (MU c') (LS c') env.locals s₂.heap →
        Fz h₀ g₀ fx g'' (MU c') (LS c') env.locals s₂.heap ∧ IsEnum s₂.heap e it (((i + 1 : Nat) : Nat) : Int) (vs[i]'(hlen ▸ hlt)) ∧ s₂.heap.IsListIter it l (i + 1) ∧ (∀ b ∈ [e, it], g'' b = none ∧ ∀ x, (b, x) ∉ MU c') := fun c' g'' s₂ le Y => by
      have ec : ((i + 1 : Nat) : Int) = (i : Int) + 1 := by push_cast; rfl
      refine ⟨Y.narrow hle5 X.base, ?_, ⟨oi3, Y.keep it _ ((hin it hmi).trans hoi3), hoi3'⟩, fun b hb => ?_⟩
      · rw [ec]; exact Y.keep e _ ((hin e hme).trans he₃)
      · have hne : fx5 b ≠ none := by
          rw [hin b hb]
          rcases List.mem_cons.mp hb with rfl | hb
          · have : h₃.get? b = _ := he₃
            rw [this]; exact fun z => nomatch z
          · rw [List.mem_singleton.mp hb, hoi3]; exact fun z => nomatch z
        exact ⟨Y.apart b (hwB b hb) hne, fun x hx => hne (Y.mv b x hx).2.2.1⟩
    refine wpAny_mono (turn i ds[i] c g' fx5 _ hd hP hle X7 ⟨_, _, rfl⟩) (fun f s₂ hf => ?_) fun _ _ e => e.elim
    cases f with
    | next =>
      obtain ⟨c', g'', ⟨h3, tk3, rfl⟩, le, Y, hP'⟩ := hf
      obtain ⟨y1, y2, y3, y4⟩ := back c' g'' _ le Y
      exact ⟨ds.length + 1 - (i + 1), by omega, i + 1, c', g'', _, ⟨_, _, rfl⟩, y2, y3, hP', hle.trans le, y1, y4, hlt, rfl⟩
    | cont =>
      obtain ⟨c', g'', ⟨h3, tk3, rfl⟩, le, Y, hP'⟩ := hf
      obtain ⟨y1, y2, y3, y4⟩ := back c' g'' _ le Y
      exact ⟨ds.length + 1 - (i + 1), by omega, i + 1, c', g'', _, ⟨_, _, rfl⟩, y2, y3, hP', hle.trans le, y1, y4, hlt, rfl⟩
    | brk =>
      obtain ⟨c', g'', ⟨h3, tk3, rfl⟩, le, Y, hB⟩ := hf
      obtain ⟨y1, y2, y3, y4⟩ := back c' g'' _ le Y
      exact done c' g'' _ (.inr hB) (hle.trans le) y1 ⟨_, _, rfl⟩
    | ret v => exact hf.elim
  · have hn : i = ds.length := by omega
    subst hn
    refine wpAny_pyNext_enum_end hh he' hit' hl' (by simp [hlen]) fun h₁ hx => wpAny_execs_nil ?_
    have X3 : Fz h₀ g₀ fx g' (MU c) (LS c) env.locals h₁ := XX.away [e, it] (fun b o hb x => hx b o (fun z => hb (by simp [z])) x) fun b hb => ⟨fun z => hLw (z ▸ hb), hfw b hb, hw b hb⟩
    exact done c g' _ (.inl hP) hle X3 ⟨_, _, rfl⟩
end
end Mine
end
section
open PySem PySem.W PySem.Calls PyProof.Rows PySem.Builtin.Str
set_option Elab.async false
set_option maxRecDepth 100000
namespace Mine
theorem slot_bytes_translate : Slot "bytes" "translate" "bytes.translate" :=
  .of (owner := "bytes") (n := "translate") (by rw [typeLookup_type, builtinLookup_eq_fast]; kernel_rfl) (by decide +kernel) (by decide +kernel) (by decide +kernel)
    (by first | exact .inl (by decide +kernel) | exact .inr (by decide +kernel)) (by rw [isSubtype_type]; kernel_rfl)
theorem type_bytes_translate : typeOf (.builtin "bytes.translate") = pure (.type "method_descriptor") := by show builtinType _ = _; rw [builtinType_eq_fast]; kernel_rfl
theorem entry_bytes_translate : entryFor table "bytes.translate" = some Builtin.«bytes.translate» := entryFor_of_tree (by kernel_rfl)
theorem args_bytes_translate_2 (a b : Value) : argsOk "bytes.translate" ⟨[a, b], []⟩ := by
  unfold argsOk; rw [signature?_of (id := "bytes.translate") (n := ['e', 't', 'a', 'l', 's', 'n', 'a', 'r', 't']) (o := ['s', 'e', 't', 'y', 'b']) (by kernel_rfl) FB.owner_bytes]; kernel_rfl
theorem entry_bytes_maketrans : entryFor table "bytes.maketrans" = some Builtin.«bytes.maketrans» := entryFor_of_tree (by kernel_rfl)
theorem plain_bytes_maketrans : plainId "bytes.maketrans" = true := by decide +kernel
theorem check_maketrans (a b : Value) : checkBuiltinCall "bytes.maketrans" ⟨[a, b], []⟩ = pure () := by kernel_rfl
def mkTable (f t : Array UInt8) : Array UInt8 := (f.toList.zip t.toList).foldl (fun t (f, x) => t.setIfInBounds f.toNat x) ((Array.range 256).map (·.toUInt8))
section
variable {K : Params → Frag} {prog : Program} {w : World} {A : Around} {E : Value → Shared → Prop} {s : Shared} {h₀ : Heap} {g₀ fx gi : GH} {mu : List (Addr × MV)} {ls : List (Str × D)} {env : Env} {L : Addr}
theorem meets_maketrans (a b : Array UInt8) (t u : Tok) (hs : a.size = b.size) (hz : (mkTable a b).size ≤ sizeLine) : Meets (Builtin.«bytes.maketrans» ⟨[.bytes a t, .bytes b u], []⟩) (fun _ R s => ∀ t' k, R (.ok (.ret (.bytes (mkTable a b) t'))) { s with toks := k }) := by
  intro prog w A R s h
  have hne : (a.size != b.size) = false := by simp [hs]
  unfold Builtin.«bytes.maketrans» Builtin.Bytes.maketransM
  refine wpAny_bind (wpAny_of_eq (a := ()) rfl ?_)
  refine wpAny_bind (wpAny_of_eq (a := ()) rfl ?_)
  refine wpAny_bind (wpAny_of_eq (a := a) KBd.like_eq ?_)
  refine wpAny_bind (wpAny_of_eq (a := b) KBd.like_eq ?_)
  rw [hne]
  exact wpAny_bind (wpAny_mkBytes (wpAny_pure (h _ _)) hz)
def trans (b tab : Array UInt8) : Array UInt8 := b.map fun c => tab.getD c.toNat c
theorem meets_translate (b tab : Array UInt8) (t u : Tok) (hs : tab.size = 256) (hz : b.size ≤ sizeLine) : Meets (Builtin.«bytes.translate» ⟨[.bytes b t, .bytes tab u], []⟩) (fun _ R s => ∀ t' k, R (.ok (.ret (.bytes (trans b tab) t'))) { s with toks := k }) := by
  intro prog w A R s h
  have hne : (tab.size != 256) = false := by simp [hs]
  unfold Builtin.«bytes.translate» Builtin.Bytes.translateM
  dsimp only [List.length_cons, List.length_nil]
  rw [if_neg (by decide)]
  refine wpAny_bind (wpAny_of_eq (a := tab) KBd.like_eq ?_)
  rw [hne]
  refine wpAny_bind (wpAny_pure ?_)
  refine wpAny_bind (wpAny_pure ?_)
  refine wpAny_bind (wpAny_of_eq (a := b) rfl ?_)
  have e : (Array.map (fun c => match some tab with | some t => t.getD c.toNat c | none => c) (Array.filter (fun x => !(#[] : Array UInt8).contains x) b)) = trans b tab := by
    have e2 : Array.filter (fun x => !(#[] : Array UInt8).contains x) b = b := by simp
    rw [e2]; rfl
  rw [e]
  by_cases hb : trans b tab = b
  · rw [if_pos (by simp [hb])]
    refine wpAny_bind (wpAny_rule ?_)
    refine wpAny_bind ?_
    have : Builtin.Bytes.Kind.bytes.same (.bytes b t) = pure (.bytes b t) := rfl
    refine wpAny_of_eq this (wpAny_pure ?_)
    have := h t s.toks
    rw [hb] at this; exact this
  · rw [if_neg (by simpa using hb)]
    exact wpAny_bind (wpAny_mkBytes (wpAny_pure (h _ _)) (by unfold trans; simpa using hz))
theorem ztranslate {b tab : Array UInt8} {t u : Tok} {Q : Value → Shared → Prop} (hs : tab.size = 256) (hz : b.size ≤ sizeLine) (h : ∀ t' k, Q (.bytes (trans b tab) t') { s with toks := k }) : wpAny (model prog w) A (call (.builtin "bytes.translate") [.bytes b t, .bytes tab u]) Q E s :=
  call_meets slot_bytes_translate (typeIs_bytes _ _ _) entry_bytes_translate (args_bytes_translate_2 _ _) (meets_translate b tab t u hs hz) h
theorem zmaketrans {a b : Array UInt8} {t u : Tok} {Q : Value → Shared → Prop} (hs : a.size = b.size) (hz : (mkTable a b).size ≤ sizeLine) (h : ∀ t' k, Q (.bytes (mkTable a b) t') { s with toks := k }) : wpAny (model prog w) A (call (.builtin "bytes.maketrans") [.bytes a t, .bytes b u]) Q E s := by
  have hfin := meets_maketrans a b t u hs hz prog w A (wants Q E) s h
  exact wpAny_call (codeAny_call_builtin plain_bytes_maketrans entry_bytes_maketrans (wpAny_of_eq (check_maketrans _ _) hfin))
theorem byNoRef {b : Array UInt8} {t : Tok} : ∀ a, Value.bytes b t = .ref a → ∃ o, s.heap.get? a = some o ∧ o.dict = none := fun _ e => nomatch e
theorem zgmTranslate {b : Array UInt8} {t : Tok} {pl : Sem Bool} {Q : Value × List Value → Shared → Prop} (h : Q (.builtin "bytes.translate", [.bytes b t]) s) : wpAny (model prog w) A (getMethod (.bytes b t) "translate" pl) Q E s := by
  with_reducible exact getMethod_builtin (typeIs_bytes _ _ _) FB.plainAttrs_bytes slot_bytes_translate type_bytes_translate byNoRef h
end
end Mine
end
section
open PySem PySem.W PySem.Calls PyProof.Rows PySem.Builtin.Str
set_option Elab.async false
set_option maxRecDepth 100000
namespace Mine
section
variable {K : Params → Frag} {prog : Program} {w : World} {A : Around} {E : Value → Shared → Prop} {s : Shared} {h₀ : Heap} {g₀ fx gi : GH} {mu : List (Addr × MV)} {ls : List (Str × D)} {env : Env} {L : Addr}
theorem nat_and_disj (a b : Nat) (hb : b < 256) : (a * 256) &&& b = 0 := by
  apply Nat.eq_of_testBit_eq
  intro i
  rw [Nat.testBit_and, Nat.zero_testBit, show a * 256 = a * 2 ^ 8 from rfl, Nat.testBit_mul_two_pow]
  by_cases hi : 8 ≤ i
  · have : b.testBit i = false := Nat.testBit_lt_two_pow (Nat.lt_of_lt_of_le hb (show 2 ^ 8 ≤ 2 ^ i from Nat.pow_le_pow_right (by decide) hi))
    rw [this, Bool.and_false]
  · simp [hi]
theorem bitOr_disj (a b : Nat) (hb : b < 256) : Builtin.bitOr ((a * 256 : Nat) : Int) (b : Int) = ((a * 256 + b : Nat) : Int) := by
  rw [bitOr_and]
  have : Builtin.bitAnd ((a * 256 : Nat) : Int) (b : Int) = 0 := by
    unfold Builtin.bitAnd
    rw [decide_eq_true (show (0 : Int) ≤ ((a * 256 : Nat) : Int) by omega), decide_eq_true (show (0 : Int) ≤ (b : Int) by omega)]
    show (((((a * 256 : Nat) : Int).toNat &&& (b : Int).toNat : Nat)) : Int) = 0
    rw [Int.toNat_natCast, Int.toNat_natCast, nat_and_disj a b hb]; rfl
  rw [this]; omega
theorem zor8 (x y : Nat) {a b : Int} {t u : Tok} {Q : Value → Shared → Prop} (ha : a = ((x * 256 : Nat) : Int)) (hb : b = y) (hy : y < 256) (h : ∀ t tk, Q (.int ((x * 256 + y : Nat) : Int) t) { s with toks := tk }) : wpAny (model prog w) A (binaryOp .BitOr (.int a t) (.int b u)) Q E s := by
  subst ha; subst hb
  refine PyProof.Rows.or_int ?_
  rw [bitOr_disj x y hy]; exact h _ _
theorem zand16 (x : Nat) {a : Int} {t u : Tok} {Q : Value → Shared → Prop} (ha : a = x) (h : ∀ t tk, Q (.int ((x % 65536 : Nat) : Int) t) { s with toks := tk }) : wpAny (model prog w) A (binaryOp .BitAnd (.int a t) (.int 65535 u)) Q E s := by
  subst ha; refine PyProof.Rows.and_int ?_; rw [bitAnd_m16]; exact h _ _
theorem zand6 (x : Nat) {a : Int} {t u : Tok} {Q : Value → Shared → Prop} (ha : a = x) (h : ∀ t tk, Q (.int ((x % 64 : Nat) : Int) t) { s with toks := tk }) : wpAny (model prog w) A (binaryOp .BitAnd (.int a t) (.int 63 u)) Q E s := by
  subst ha; refine PyProof.Rows.and_int ?_; rw [bitAnd_m6]; exact h _ _
theorem zand2 (x : Nat) {a : Int} {t u : Tok} {Q : Value → Shared → Prop} (ha : a = x) (h : ∀ t tk, Q (.int ((x % 4 : Nat) : Int) t) { s with toks := tk }) : wpAny (model prog w) A (binaryOp .BitAnd (.int a t) (.int 3 u)) Q E s := by
  subst ha; refine PyProof.Rows.and_int ?_; rw [bitAnd_m2]; exact h _ _
theorem zand4 (x : Nat) {a : Int} {t u : Tok} {Q : Value → Shared → Prop} (ha : a = x) (h : ∀ t tk, Q (.int ((x % 16 : Nat) : Int) t) { s with toks := tk }) : wpAny (model prog w) A (binaryOp .BitAnd (.int a t) (.int 15 u)) Q E s := by
  subst ha; refine PyProof.Rows.and_int ?_; rw [bitAnd_m4]; exact h _ _
theorem zshl (x k : Nat) {a b : Int} {t u : Tok} {Q : Value → Shared → Prop} (ha : a = x) (hb : b = k) (hx : x < 2 ^ 60) (hk : k ≤ 1000) (h : ∀ t tk, Q (.int ((x * 2 ^ k : Nat) : Int) t) { s with toks := tk }) : wpAny (model prog w) A (binaryOp .LShift (.int a t) (.int b u)) Q E s := by
  subst ha; subst hb
  refine PyProof.Rows.lshift_int_small (by omega) (by omega) (by omega) ?_
  have e : (x : Int) * 2 ^ (k : Int).toNat = ((x * 2 ^ k : Nat) : Int) := by simp
  rw [e]; exact h _ _
theorem zshr (x k : Nat) {a b : Int} {t u : Tok} {Q : Value → Shared → Prop} (ha : a = x) (hb : b = k) (h : ∀ t tk, Q (.int ((x / 2 ^ k : Nat) : Int) t) { s with toks := tk }) : wpAny (model prog w) A (binaryOp .RShift (.int a t) (.int b u)) Q E s := by
  subst ha; subst hb
  refine PyProof.Rows.rshift_int (by omega) ?_
  have e : Int.fdiv (x : Int) (2 ^ (k : Int).toNat) = ((x / 2 ^ k : Nat) : Int) := by
    rw [Int.fdiv_eq_ediv_of_nonneg _ (Int.le_of_lt (Int.pow_pos (by decide)))]
    simp
  rw [e]; exact h _ _
/-- bytes(xs) -/
theorem zbytes {a : Addr} {xs : List Nat} {Q : Value → Shared → Prop} (hh : A.handled = none) (X : Fz h₀ g₀ fx gi mu ls L s.heap) (ha : Has gi (.ref a) (.l (xs.map fun (n : Nat) => D.i n))) (hx : ∀ x ∈ xs, x < 256) (hl : xs.length ≤ 10000)
    (h : ∀ t g' h' k, gi.le g' → Fz h₀ g₀ fx g' mu ls L h' → Q (.bytes (xs.map (·.toUInt8)).toArray t) { s with heap := h', toks := k }) : wpAny (model prog w) A (call (.type "bytes") [.ref a]) Q E s := by
  obtain ⟨vs, n, xa⟩ := ha.obj X.sub
  have hi : IntsAre vs (xs.map fun (n : Nat) => (n : Int)) := HasAll.ints (by rw [List.map_map]; exact xa.all)
  have hlen : vs.length = xs.length := by have := xa.all.1; simpa using this
  refine call_bytes_ints xa.list hi (fun n hn => ?_) (by rw [hlen]; exact Nat.le_trans hl (by decide)) hh fun h' t k hk => ?_
  · obtain ⟨m, hm, rfl⟩ := List.mem_map.mp hn
    have := hx m hm
    omega
  · have e : byteArr (xs.map fun (n : Nat) => (n : Int)) = (xs.map (·.toUInt8)).toArray := by
      unfold byteArr
      simp [List.map_map, Function.comp_def]
    rw [e]
    exact h _ _ h' _ (grow_le X.sub) (X.ext hk)
theorem zitemB {value slice : Expr} {l : List UInt8} {t : Tok} {i : Int} {u : Tok} {c : UInt8} {Q : Value → Shared → Prop} (h0 : 0 ≤ i) (hc : l[i.toNat]? = some c) (hl : l.length ≤ 10000)
    (h : ∀ t' tk, Q (.int (c.toNat : Int) t') { s with toks := tk })
    (hs : subscripted slice false (.bytes l.toArray t) (.int i u) = operate [.bytes l.toArray t, .int i u] (getItem (.bytes l.toArray t) (.int i u)) := by with_unfolding_all rfl) :
    wpAny (model prog w) A (subscriptTail value slice (.bytes l.toArray t) (.int i u)) Q E s := by
  have hlt : i.toNat < l.length := (List.getElem?_eq_some_iff.mp hc).1
  refine tail_any (typeIs_bytes _ _ _) FB.slot_bytes_getitem.lookup (getItem_bytes (by omega) h0 (by omega) ?_) hs
  have e : l.getD i.toNat 0 = c := by
    rw [List.getD_eq_getElem?_getD, hc]; rfl
  rw [e]; exact h _ _
theorem callWith_KW {pos : Pos} {a : Addr} {oc : Value} {od : Option Addr} {fd : FuncData} {osl : Array (Option Value)} {first : List Value} {x : Sem Value} {rest : List (Bool × Sem Value)} {kws : List (Option Str × Sem Value)} {Q : Value → Shared → Prop} (G : Gl K w h₀)
    (ho : (K w.params).lookup a = some ⟨oc, od, .func fd, osl⟩) (hall : kws.all (·.1.isSome) = true)
    (h : wpAny (model prog w) A (spliced ((false, x) :: rest)) (fun vs s₁ => wpAny (model prog w) A (evalAll (kws.map (·.2))) (fun ks s₂ => (∃ g₀ fx gi mu ls L, Fz h₀ g₀ fx gi mu ls L s₂.heap) ∧ wpAny (model prog w) A (call (.ref a) (first ++ vs) ((kws.filterMap (·.1)).zip ks)) Q E s₂) E s₁) E s) :
    wpAny (model prog w) A (callWith pos (.ref a) first ((false, x) :: rest) kws) Q E s := by
  refine callWith_function_kw (o := ⟨oc, od, .func fd, osl⟩) (fd := fd) (evalArgs_kw hall (wpAny_mono h (fun vs s₁ h₁ => wpAny_mono h₁ (fun ks s₂ h₂ => ?_) fun _ _ e => e) fun _ _ e => e))
  obtain ⟨⟨_, _, _, _, _, _, Y⟩, hc⟩ := h₂
  exact ⟨⟨(Y.gl G).k _ _ ho, rfl⟩, hc⟩
end
end Mine
end
section
open PySem PySem.W PySem.Calls PyProof.Rows PySem.Builtin.Str
set_option Elab.async false
set_option maxRecDepth 100000
namespace Mine
section
variable {K : Params → Frag} {prog : Program} {w : World} {A : Around} {E : Value → Shared → Prop} {s : Shared} {h₀ : Heap} {g₀ fx gi : GH} {mu : List (Addr × MV)} {ls : List (Str × D)} {env : Env} {L : Addr}
theorem sub_KeyError : isSubtype (.type "KeyError") (.type "LookupError") = pure true := by rw [isSubtype_type]; kernel_rfl
theorem strOne_eq (x : Str) (t : Tok) (d : Addr) : strOneArg "translate" ⟨[.str x t, .ref d], []⟩ = pure (.str x t, x, .ref d) := rfl
theorem lookup_keep {f : Int → Option Value} {c : Nat} {d : Addr} {Q : Mapped → Shared → Prop} (hh : A.handled = none) (hd : (d == sysModules) = false) (hm : s.heap.MapOf (intKind prog w) d f) (hv : f c = none)
    (h : ∀ h' k, (∀ b o, s.heap.get? b = some o → h'.get? b = some o) → Q .keep { s with heap := h', toks := k }) : wpAny (model prog w) A (tableLookup (.ref d) c) Q E s := by
  unfold tableLookup
  refine wpAny_bind (wpAny_attempt (wpAny_bind (wpAny_mkInt (wpAny_getItem_missing_of (knd := intKind prog w) (k := (c : Int)) (f := f) (by simp [intKind, Value.isInt]) hd hh hm hv fun h' e he => ?_))))
  obtain ⟨ob, tt, hob, hcls, _⟩ := he.there
  refine wpAny_bind (m := isInstance (.ref e) (.type "LookupError")) (wpAny_isInstance (T := "KeyError") (b := true) ⟨ob, hob, hcls⟩ sub_KeyError ?_)
  show wpAny _ _ (do rule "str.translate.not-in-table"; pure Mapped.keep) _ _ _
  exact wpAny_bind (wpAny_rule (wpAny_pure (h h' _ he.keeps)))
/-- str.translate of one sign that stands in no row of the table -/
theorem ztrans1 {f : Int → Option Value} {c : Nat} {d : Addr} {t : Tok} {Q : Value → Shared → Prop} (hh : A.handled = none) (hc : c < 128) (hd : (d == sysModules) = false) (hm : s.heap.MapOf (intKind prog w) d f) (hv : f c = none)
    (h : ∀ t' h' k, (∀ b o, s.heap.get? b = some o → h'.get? b = some o) → Q (.str (S [c]) t') { s with heap := h', toks := k }) : wpAny (model prog w) A (call (.builtin "str.translate") [.str (S [c]) t, .ref d]) Q E s := by
  refine call_meetsIn (S := fun A R s => A.handled = none ∧ s.heap.MapOf (intKind prog w) d f ∧ ∀ t' h' k, (∀ b o, s.heap.get? b = some o → h'.get? b = some o) → R (.ok (.ret (.str (S [c]) t'))) { s with heap := h', toks := k }) F.slot_str_translate (typeIs_str _ _ _) F.entry_str_translate (F.args_str_translate_2 _ _) ?_ ⟨hh, hm, h⟩
  refine .of_wp fun A R s hs => ?_
  obtain ⟨hh, hm, h⟩ := hs
  unfold Builtin.«str.translate»
  refine wpAny_bind (wpAny_of_eq (strOne_eq _ _ _) ?_)
  have h128 : (S [c]).cps.all (fun x => decide (x < 128)) = true := by simp [S, hc]
  have hl0 : ((S [c]).length == 0) = false := rfl
  have tl0 : ¬ tooLong 0 = true := by decide
  have tl1 : ¬ tooLong 1 = true := by decide
  dsimp only
  rw [if_neg (by rw [hl0]; decide), h128]
  have ec : (S [c]).cps = [c].toArray := rfl
  rw [ec]
  refine wpAny_bind ?_
  rw [List.forIn_toArray, List.forIn_cons]
  refine wpAny_bind ?_
  dsimp only [List.lookup]
  rw [if_neg tl0, if_pos rfl]
  refine wpAny_bind (lookup_keep hh hd hm hv fun h' k hk => ?_)
  dsimp only
  refine wpAny_bind (wpAny_pure (wpAny_pure ?_))
  dsimp only
  rw [List.forIn_nil]
  refine wpAny_pure ?_
  dsimp only
  rw [if_neg tl1]
  show wpAny _ _ (retStr (S [c])) _ _ _
  unfold retStr
  refine wpAny_bind (wpAny_mkStr (wpAny_pure ⟨_, rfl, h _ _ _ hk⟩) ?_)
  rw [S_len]; show 1 ≤ sizeLine; decide
def keyIn (ks : List Int) (e : DictEntry) : Bool := match e.key with
  | .int k _ => e.hash == hashInt k && ks.contains k
  | _ => false
theorem mapOf_ints {h : Heap} {d : Addr} {es : Array DictEntry} {ep : Nat} (ho : h.get? d = some { cls := .type "dict", data := .dict es ep }) (ks : List Int) (hk : es.toList.all (keyIn ks) = true) :
    h.MapOf (intKind prog w) d (fun k => findBy (intKind prog w).is es k) := by
  refine ⟨_, es, ep, ho, ⟨rfl, rfl, rfl⟩, rfl, fun e he => ?_, fun k => rfl⟩
  have := List.all_eq_true.mp hk e (by simpa using he)
  unfold keyIn at this
  split at this
  · rename_i k t hkey
    rw [Bool.and_eq_true, beq_iff_eq] at this
    exact ⟨k, by rw [hkey]; exact intKind_is prog w k t, this.1⟩
  · cases this
theorem findBy_none {es : Array DictEntry} {ks : List Int} (hk : es.toList.all (keyIn ks) = true) {c : Int} (hc : c ∉ ks) : findBy (intKind prog w).is es c = none := by
  unfold findBy
  rw [show es.find? (fun e => (intKind prog w).is c e.key) = none from ?_]
  · rfl
  rw [Array.find?_eq_none]
  intro e he hcon
  have := List.all_eq_true.mp hk e (by simpa using he)
  unfold keyIn at this
  split at this
  · rename_i k t hkey
    rw [hkey] at hcon
    have hck : k = c := by simpa [intKind, Value.isInt] using hcon
    rw [Bool.and_eq_true] at this
    have h2 := this.2
    rw [List.contains_iff_mem, hck] at h2
    exact hc h2
  · cases this
theorem zgmTransS {x : Str} {t : Tok} {pl : Sem Bool} {Q : Value × List Value → Shared → Prop} (h : Q (.builtin "str.translate", [.str x t]) s) : wpAny (model prog w) A (getMethod (.str x t) "translate" pl) Q E s := by
  with_reducible exact GM.of (.str x t) (typeIs_str _ _ _) F.slot_str_translate F.type_str_translate GM.noRef h
end
end Mine
end
section
open PySem PySem.W PySem.Calls PyProof.Rows
set_option Elab.async false
set_option maxRecDepth 100000
namespace Mine
theorem slot_md_get : Slot "method_descriptor" "__get__" "method_descriptor.__get__" :=
  .of (owner := "method_descriptor") (n := "__get__") (by rw [typeLookup_type, builtinLookup_eq_fast]; kernel_rfl) (by decide +kernel) (by decide +kernel) (by decide +kernel)
    (by first | exact .inl (by decide +kernel) | exact .inr (by decide +kernel)) (by rw [isSubtype_type]; kernel_rfl)
theorem entry_md_get : entryFor table "method_descriptor.__get__" = some Builtin.«method_descriptor.__get__» := entryFor_of_tree (by kernel_rfl)
theorem args_md_get (a b c : Value) : argsOk "method_descriptor.__get__" ⟨[a, b, c], []⟩ := by
  unfold argsOk; kernel_rfl
theorem no_md_set : typeLookup (.type "method_descriptor") "__set__" = pure none := by rw [typeLookup_type, builtinLookup_eq_fast]; kernel_rfl
theorem no_md_delete : typeLookup (.type "method_descriptor") "__delete__" = pure none := by rw [typeLookup_type, builtinLookup_eq_fast]; kernel_rfl
theorem sub_list_append_owner : isSubtype (.type "list") (.type (".".intercalate ("list.append".cutAt '.').dropLast)) = pure true := by
  rw [isSubtype_type]; kernel_rfl
section
variable {prog : Program} {w : World} {A : Around} {E : Value → Shared → Prop} {h : Heap} {g : Array GenState} {d : Drawn} {t : Nat} {os : OsState} {a : Addr} {o : Obj}
def bmObj (id : String) (a : Addr) : Obj := { cls := .type "builtin_function_or_method", data := .fields #[.builtin id, .ref a] }
theorem append_get {R : Result → Shared → Prop} (hx : h.get? a = some o) (hc : o.cls = .type "list") (hq : R (.ok (.ret (.ref h.objs.size))) ⟨h.push (bmObj "list.append" a), g, d, t, os⟩) :
    codeAny (model prog w) A (.call (.builtin "method_descriptor.__get__") ⟨[.builtin "list.append", .ref a, .type "list"], []⟩) R ⟨h, g, d, t, os⟩ := by
  have hT : (⟨h, g, d, t, os⟩ : Shared).TypeIs (.ref a) "list" := ⟨_, hx, hc⟩
  have hT5 : (⟨h, g, d, t, os⟩ : Shared).TypeIs (.builtin "list.append") "method_descriptor" := type_list_append
  have f8 := sub_list_append_owner
  refine codeAny_call_builtin slot_md_get.plain entry_md_get (slot_md_get.check _ _ _ _ _ _ _ _ hT5 (args_md_get _ _ _) ?_)
  repeat (any_goals (first | assumption | wp_step))
theorem lk_list_append : typeLookup (.type "list") "append" = pure (some (.builtin "list.append")) := by rw [typeLookup_type, builtinLookup_eq_fast]; kernel_rfl
theorem append_entry {tk : Tok} {vs : Array Value} {n : Nat} {Q : PySem.Fin → Shared → Prop} (hx : h.get? a = some { cls := .type "list", data := .seq vs n }) (hq : Q (.done (.ret (.ref h.objs.size))) ⟨h.push (bmObj "list.append" a), g, d, t, os⟩) :
    wpAny (model prog w) A (Builtin.«object.__getattribute__» ⟨[.ref a, .str "append" tk], []⟩) Q E ⟨h, g, d, t, os⟩ := by
  have hT : (⟨h, g, d, t, os⟩ : Shared).TypeIs (.ref a) "list" := ⟨_, hx, rfl⟩
  have hT5 : (⟨h, g, d, t, os⟩ : Shared).TypeIs (.builtin "list.append") "method_descriptor" := type_list_append
  have f4 := lk_list_append
  have f5 := type_list_append
  have f6 := slot_md_get.lookup
  have f7 := no_md_set
  have f8 := no_md_delete
  repeat (any_goals (first | assumption | wp_step))
  refine append_get hx rfl ?_
  exact wpAny_pure hq
theorem append_call {tk : Tok} {vs : Array Value} {n : Nat} {R : Result → Shared → Prop} (hx : h.get? a = some { cls := .type "list", data := .seq vs n }) (hq : R (.ok (.ret (.ref h.objs.size))) ⟨h.push (bmObj "list.append" a), g, d, t, os⟩) :
    codeAny (model prog w) A (.call (.builtin "list.__getattribute__") ⟨[.ref a, .str "append" tk], []⟩) R ⟨h, g, d, t, os⟩ :=
  codeAny_call_builtin F.slot_list_getattribute.plain F.entry_list_ga (F.slot_list_getattribute.check _ _ _ _ _ _ _ _ (show (⟨h, g, d, t, os⟩ : Shared).TypeIs (.ref a) "list" from ⟨_, hx, rfl⟩) (F.args_list_getattribute_2 _ _) (append_entry hx hq))
theorem append_by {tk : Tok} {vs : Array Value} {n : Nat} {ex : Bool} {Q : Value → Shared → Prop} (hx : h.get? a = some { cls := .type "list", data := .seq vs n }) (hq : Q (.ref h.objs.size) ⟨h.push (bmObj "list.append" a), g, d, t, os⟩) : wpAny (model prog w) A (getAttrBy (.ref a) (.str "append" tk) true ex) Q E ⟨h, g, d, t, os⟩ := by
  have hT : (⟨h, g, d, t, os⟩ : Shared).TypeIs (.ref a) "list" := ⟨_, hx, rfl⟩
  have f2 := F.slot_list_getattribute.lookup
  have f3 := F.slot_list_getattribute.bind (.ref a)
  repeat (any_goals (first | assumption | wp_step))
  rw [if_neg (by cases ex <;> decide)]
  repeat (any_goals (first | assumption | wp_step))
  refine append_call hx ?_
  repeat (any_goals (first | assumption | wp_step))
end
end Mine
end
section
open PySem PySem.W PySem.Calls PyProof.Rows
set_option Elab.async false
set_option maxRecDepth 100000
namespace Mine
section
variable {K : Params → Frag} {prog : Program} {w : World} {A : Around} {E : Value → Shared → Prop} {s : Shared} {h₀ : Heap} {g₀ fx gi : GH} {mu : List (Addr × MV)} {ls : List (Str × D)} {env : Env} {L : Addr}
theorem bm_keeper {M : Model} {b : Addr} {id : String} {a : Addr} (h : Heap) (X : h.get? b = some (bmObj id a)) : ∃ k, (k = Keeper.frame ∨ k = Keeper.machine ∨ k = Keeper.boundFrame) ∧ Looks M h (keeperOf (.ref b)) k :=
  ⟨.machine, .inr (.inl rfl), (Looks.ld (part := none) X).andThen .now⟩
theorem callWith_B {pos : Pos} {b : Addr} {id : String} {a : Addr} {first : List Value} {e : Expr} {rest : List Expr} {Q : Value → Shared → Prop}
    (h : wpAny (model prog w) A (spliced (backTo pos (starEach (e :: rest) env))) (fun vs s₁ => s₁.heap.get? b = some (bmObj id a) ∧ wpAny (model prog w) A (call (.ref b) (first ++ vs)) Q E s₁) E s)
    (he : starEach (e :: rest) env = (false, eval e env) :: starEach rest env := by rfl) (hplain : (backTo pos (starEach rest env)).any (·.1) = false := by rfl) :
    wpAny (model prog w) A (callWith pos (.ref b) first (backTo pos (starEach (e :: rest) env)) []) Q E s := by
  rw [he] at h ⊢
  exact callWith_of (P := fun h => h.get? b = some (bmObj id a)) (by show ((false || (backTo pos (starEach rest env)).any (·.1)) || false) = false; rw [hplain]; rfl) bm_keeper (evalArgs_plain h)
theorem zgetAppend {q : Addr} {ds : List D} {ex : Bool} {Q : Value → Shared → Prop} (X : Fz h₀ g₀ fx gi mu ls L s.heap) (hq : (q, MV.lst ds) ∈ mu)
    (h : ∀ b g' h' tk, gi.le g' → Fz h₀ g₀ fx g' mu ls L h' → g' b = some (bmObj "list.append" q) → Q (.ref b) { s with heap := h', toks := tk }) : wpAny (model prog w) A (getAttr (.ref q) "append" ex) Q E s := by
  obtain ⟨⟨vs, n, ho, _⟩, _⟩ := X.mv _ _ hq
  obtain ⟨hp, g, d, t, os⟩ := s
  show wpAny _ _ (do let x ← mkText "append"; getAttrBy (.ref q) x true ex) _ _ _
  obtain ⟨X', e, le⟩ := X.push (bmObj "list.append" q) rfl
  have key := fun tk => append_by (prog := prog) (w := w) (A := A) (E := E) (h := hp) (g := g) (d := d) (t := tk) (os := os) (ex := ex) (tk := t) (Q := Q) ho
    (h hp.objs.size _ _ tk le X' e)
  exact wpAny_bind (fun _ _ _ => key (t + 1))
theorem sub_list_module : isSubtype (.type "list") (.type "module") = pure false := by rw [isSubtype_type]; kernel_rfl
theorem zappendB {b q : Addr} {v : Value} {d : D} {ds : List D} {mu' : List (Addr × MV)} {Q : Value → Shared → Prop} (hb : s.heap.get? b = some (bmObj "list.append" q)) (X : Fz h₀ g₀ fx gi mu ls L s.heap) (hq : (q, MV.lst ds) ∈ mu) (hv : Has gi v d) (hsz : ds.length ≤ 10000)
    (hm : mu' = mu.map fun p => if p.1 = q then (q, .lst (ds ++ [d])) else p)
    (h : ∀ h', Fz h₀ g₀ fx gi mu' ls L h' → Q .none { s with heap := h' }) : wpAny (model prog w) A (call (.ref b) [v]) Q E s := by
  obtain ⟨⟨vs, n, ho, ha⟩, _⟩ := X.mv _ _ hq
  have fin : ∀ h', h'.PlainList q (vs.toArray.push v) → Heap.SameBut q s.heap h' → Q .none { s with heap := h' } := fun h' hl hs => by
    refine h h' (X.setMu hq hs (c' := .lst (ds ++ [d])) ?_ hm)
    obtain ⟨k, hk⟩ := hl
    exact ⟨vs ++ [v], k, by rw [hk]; simp, ha.append (.cons hv .nil)⟩
  have hT : s.TypeIs (.ref q) "list" := ⟨_, ho, rfl⟩
  have f1 := sub_list_module
  refine wpAny_call (codeAny_of_tree ?_)
  show wpAny _ A.in1 (callAny (.ref b) _) _ _ s
  simp only [callAny]
  refine wpAny_bind (wpAny_load hb ?_)
  show wpAny _ A.in1 (do checkBoundCall "list.append" ⟨[.ref q, v], []⟩; again (.builtin "list.append" ⟨[.ref q, v], []⟩)) _ _ s
  refine wpAny_bind ?_
  obtain ⟨hp, g, dd, t, os⟩ := s
  repeat (any_goals (first | assumption | wp_step))
  refine ⟨Code.quiet_builtin _ (by decide +kernel), codeAny_builtin F.entry_list_append ?_⟩
  rw [Around.under_plain (show (Code.builtin "list.append" ⟨[.ref q, v], []⟩).weight = 0 from rfl) rfl]
  show wpAny _ _ (updateSeq q (·.push v) >>= fun _ => ret .none) _ _ _
  refine wpAny_bind ?_
  have hz : vs.toArray.size ≤ sizeLine := by rw [List.size_toArray, ha.1]; exact Nat.le_trans hsz (by decide)
  refine wpAny_updateSeq ho rfl (wpAny_pure (fin _ ⟨n + 1, ?_⟩ (Heap.SameBut.update ..))) hz (by rw [Array.size_push]; exact Nat.succ_le_succ hz)
  rw [Heap.get?_update_self _ ho (by rw [Obj.mapSeq_push_plain]; rfl), Obj.mapSeq_push_plain]
theorem zunpack {a : Addr} {ds : List D} {n : Nat} {Q : List Value → Shared → Prop} (hh : A.handled = none) (X : Fz h₀ g₀ fx gi mu ls L s.heap) (ha : Has gi (.ref a) (.t ds)) (hn : n = ds.length)
    (h : ∀ vs g' h', HasAll g' vs ds → gi.le g' → Fz h₀ g₀ fx g' mu ls L h' → Q vs { s with heap := h' }) : wpAny (model prog w) A (unpackItems (.ref a) n none) Q E s := by
  obtain ⟨vs, k, xa⟩ := ha.objT X.sub
  have e : n = vs.toArray.size := by rw [hn, List.size_toArray, xa.all.1]
  subst e
  refine wpAny_unpackItems_tuple hh (items := vs.toArray) ⟨_, xa.ob, rfl, k, rfl⟩ fun h' he => ?_
  exact h vs _ h' (xa.all.mono (grow_le X.sub)) (grow_le X.sub) (X.ext fun b o e => he b o (fun z => by subst z; exact absurd (Heap.lt_size e) (Nat.lt_irrefl _)) e)
end
end Mine
end
section
open PySem PySem.W PySem.Calls PyProof.Rows
set_option maxHeartbeats 4000000
namespace Mine
theorem fill0 : PySem.Challenge.rw_ij0213_01 = PySem.Challenge.rw_ij0213_01 ∧ hd.heap_1 = hd.heap_1 := by
  k_fill
  exact ⟨rfl, rfl⟩
local macro_rules | `(tactic| o_head $x) => `(tactic| with_reducible show wpAny _ _ $x _ _ _)
local macro_rules | `(tactic| walk_at "le") => `(tactic| first
  | assumption
  | exact GH.le.refl _
  | (refine' GH.le.trans ?x ?y; (case y => assumption); (case x => walk_at "le")))
local macro_rules | `(tactic| walk_at "has") => `(tactic| first
  | assumption
  | exact Has.i _ _ | exact Has.s _ _ | exact Has.by _ _ | exact Has.bo _ | exact Has.no | exact Has.ty _ | exact Has.r _
  | (refine' Has.mono ?le ?h; (case h => assumption); (case le => walk_at "le")))
local macro_rules | `(tactic| walk_at "hasall") => `(tactic| first
  | exact HasAll.nil
  | (refine' HasAll.cons ?h ?t; (case h => walk_at "has"); (case t => walk_at "hasall")))
local macro_rules | `(tactic| walk_at "nl") => `(tactic| (refine' znewList ?X ?hv ?_; (case X => assumption); (case hv => walk_at "hasall"); intro _ _ _ _ _ _))
local macro_rules | `(tactic| walk_at "nlM") => `(tactic| (refine' znewListM ?X ?hv ?_; (case X => assumption); (case hv => walk_at "hasall"); intro _ _ _))
local macro_rules | `(tactic| walk_at "mu") => `(tactic| first | exact List.Mem.head _ | (apply List.Mem.tail; exact List.Mem.head _) | (apply List.Mem.tail; apply List.Mem.tail; exact List.Mem.head _) | (refine (show ∀ q ∈ _, q ∈ _ from by assumption) _ ?_; walk_at "mu"))
local macro_rules | `(tactic| walk_at "un") => `(tactic| (rename Has _ _ _ => hv; first | (obtain ⟨_, e⟩ := Has.refL hv; subst e) | (obtain ⟨_, e⟩ := Has.unI hv; subst e) | (obtain ⟨_, e⟩ := Has.unS hv; subst e) | (have e := Has.unR hv; subst e) | (obtain ⟨_, e⟩ := Has.refT hv; subst e) | (obtain ⟨_, e⟩ := Has.unBy hv; subst e) | (have e := Has.unBo hv; subst e) | (have e := Has.unTy hv; subst e) | (have e := Has.unBu hv; subst e) | (have e := Has.unNo hv; subst e) | skip))
local macro_rules | `(tactic| walk_at "nm") => `(tactic| first
  | (refine' zld ?X ?hx ?_; (case X => assumption); (case hx => rfl); intro _ hv; walk_at "un")
  | (refine' zldC ?X ?hc ?hq ?_; (case X => assumption); (case hc => rfl); (case hq => walk_at "mu"); intro _ hv; walk_at "un")
  | (refine' zgl ?G ?X ?e ?_; (case G => assumption); (case X => assumption); (case e => k_is))
  | (refine' zbl ?G ?X ?e ?v ?n ?_; (case G => assumption); (case X => assumption); (case e => k_is); (case v => boot_by_name); (case n => decide)))
local macro_rules | `(tactic| walk_at "z eval") => `(tactic| first
  | (o_head (eval (Expr.Name _ _) _); walk_at "nm")
  | (o_head (eval (Expr.Constant (Const.int _) _ _) _); refine wpAny_Constant_int ?_)
  | (o_head (eval (Expr.Constant (Const.str _) _ _) _); (first | with_reducible refine zcs o_slash ?_ | with_reducible refine zcs o_empty ?_ | with_reducible refine zcs o_dots ?_ | with_reducible refine zcs o_dot ?_ | with_reducible refine zcs o_star ?_ | with_reducible refine zcs o_quest ?_ | with_reducible refine zcs o_brack ?_ | refine PySem.Calls.Constant_str ?_))
  | (o_head (eval (Expr.Constant (Const.bytes _) _ _) _); refine PySem.W.Constant_bytes ?_)
  | (o_head (eval (Expr.Constant Const.none _ _) _); refine PyProof.Rows.Constant_none ?_)
  | (o_head (eval (Expr.Constant (Const.bool _) _ _) _); refine PyProof.Rows.Constant_bool ?_)
  | (o_head (eval (Expr.BinOp _ _ _ _) _); refine wpAny_BinOp ?_)
  | (o_head (eval (Expr.Call (Expr.Name _ _) (_ :: _) [] _) _); first
    | (refine' zcallK ?G ?X ?e ?k ?_; (case G => assumption); (case X => assumption); (case e => k_is); (case k => k_is))
    | (refine' zcallB ?G ?X ?e ?v ?n ?_; (case G => assumption); (case X => assumption); (case e => k_is); (case v => boot_by_name); (case n => decide))
    | (refine' zcallT ?G ?X ?e ?v ?n ?_; (case G => assumption); (case X => assumption); (case e => k_is); (case v => boot_by_name); (case n => decide)))
  | (o_head (eval (Expr.Call (Expr.Attribute _ _ _) _ [] _) _); refine MethodCall_ ?_)
  | (o_head (eval (Expr.Compare _ [_] [_] _) _); refine wpAny_Compare1 ?_)
  | (o_head (eval (Expr.IfExp _ _ _ _) _); refine wpAny_IfExp ?_)
  | (o_head (eval (Expr.UnaryOp _ _ _) _); refine UnaryOp_ ?_)
  | (o_head (eval (Expr.List _ _) _); refine List_ ?_)
  | (o_head (eval (Expr.Tuple _ _ _) _); refine Tuple_ ?_)
  | (o_head (eval (Expr.Subscript _ (Expr.Name _ _) _) _); refine Subscript_ ?_)
  | (o_head (eval (Expr.Subscript _ (Expr.Constant _ _ _) _) _); refine Subscript_ ?_)
  | (o_head (eval (Expr.Subscript _ (Expr.UnaryOp _ _ _) _) _); refine Subscript_ ?_)
  | (o_head (eval (Expr.Subscript _ (Expr.BinOp _ _ _ _) _) _); refine Subscript_ ?_))
local macro_rules | `(tactic| walk_at "z evalPart") => `(tactic| first
  | (o_head (evalPart none _); refine wpAny_evalPart_none ?_)
  | (o_head (evalPart (some _) _); refine wpAny_evalPart_some ?_))
local macro_rules | `(tactic| walk_at "z execs") => `(tactic| first
  | (o_head (execs (_ :: _) _); refine wpAny_execs_cons ?_)
  | (o_head (execs [] _); refine wpAny_execs_nil ?_))
local macro_rules | `(tactic| walk_at "z exec") => `(tactic| first
  | (o_head (exec (Stmt.Return (some _) _) _); refine wpAny_Return_some ?_)
  | (o_head (exec (Stmt.Assign [Expr.Name _ _] _ _) _); refine wpAny_Assign_Name ?_)
  | (o_head (exec (Stmt.If _ _ _ _) _); refine wpAny_If ?_)
  | (o_head (exec (Stmt.AugAssign (Expr.Name _ _) _ _ _) _); refine wpAny_AugAssign_Name ?_)
  | (o_head (exec (Stmt.For (Expr.Name _ _) _ _ [] _) _); refine zFor ?_)
  | (o_head (exec (Stmt.Assign [Expr.Tuple _ _ _] _ _) _); refine Assign_Tuple ?_)
  | (o_head (exec (Stmt.Try _ (_ :: _) _ [] _) _); refine zTry ?_)
  | (o_head (exec (Stmt.Continue _) _); refine wpAny_Continue ?_)
  | (o_head (exec (Stmt.Break _) _); refine wpAny_Break ?_)
  | (o_head (exec (Stmt.Expr _ _) _); refine wpAny_Expr ?_))
local macro_rules | `(tactic| walk_at "z isTrue") => `(tactic| first
  | (o_head (isTrue (Expr.Compare _ [_] [_] _) _ _); refine wpAny_isTrue_Compare1 ?_)
  | (o_head (isTrue (Expr.UnaryOp UnaryOp.Not _ _) _ _); refine isTrue_not ?_)
  | (o_head (isTrue (Expr.BoolOp BoolOp.And (_ :: _) _) _ _); refine isTrue_and ?_)
  | (o_head (isTrue (Expr.BoolOp BoolOp.And [] _) _ _); refine isTrue_and_nil ?_)
  | (o_head (isTrue (Expr.BoolOp BoolOp.Or (_ :: _) _) _ _); refine isTrue_or ?_)
  | (o_head (isTrue (Expr.BoolOp BoolOp.Or [] _) _ _); refine isTrue_or_nil ?_)
  | (o_head (isTrue (Expr.Name _ _) _ _); refine isTrue_plain ?_)
  | (o_head (isTrue (Expr.Call _ _ _ _) _ _); refine isTrue_plain ?_))
local macro_rules | `(tactic| walk_at "z spliced") => `(tactic| first
  | (o_head (spliced (backTo _ (starEach (_ :: _) _))); refine spliced_more ?_)
  | (o_head (spliced (backTo _ (starEach [] _))); refine spliced_none ?_))
local macro_rules | `(tactic| walk_at "z truthy") => `(tactic| first
  | (o_head (truthy (Value.bool _)); refine wpAny_truthy_bool ?_)
  | (o_head (truthy (Value.str _ _)); (refine ztruthyS ?_ ?_; rotate_left)))
local macro_rules | `(tactic| walk_at "z call") => `(tactic| first
  | (o_head (call (Value.builtin _) [Value.str _ _, Value.str _ _]); first | (with_reducible refine zstarts ?_) | (with_reducible refine zends ?_)))
local macro_rules | `(tactic| walk_at "z loadName") => `(tactic| first
  | ((refine' zldn ?X ?hx ?_; (case X => assumption); (case hx => rfl); intro _ hv; walk_at "un")))
local macro_rules | `(tactic| walk_at "z binaryOp") => `(tactic| first
  | (o_head (binaryOp Operator.Add (Value.int _ _) (Value.int _ _)); refine PyProof.Rows.add_int ?_)
  | (o_head (binaryOp Operator.Sub (Value.int _ _) (Value.int _ _)); refine PyProof.Rows.sub_int ?_)
  | (o_head (binaryOp Operator.Mult (Value.int _ _) (Value.int _ _)); refine PyProof.Rows.mul_int ?_)
  | (o_head (binaryOp Operator.Add (Value.str _ _) (Value.str _ _)); (refine zaddS ?_ ?_; rotate_left; intro _ _)))
local macro_rules | `(tactic| walk_at "z inplaceOp") => `(tactic| first
  | (o_head (inplaceOp Operator.Add (Value.str _ _) (Value.str _ _)); (refine ziaddS ?_ ?_; rotate_left; intro _ _)))
local macro_rules | `(tactic| walk_at "z compareOp") => `(tactic| first
  | (o_head (compareOp CmpOp.Lt (Value.int _ _) (Value.int _ _)); refine PyProof.Rows.lt_int ?_)
  | (o_head (compareOp CmpOp.Gt (Value.int _ _) (Value.int _ _)); refine PyProof.Rows.gt_int ?_)
  | (o_head (compareOp CmpOp.GtE (Value.int _ _) (Value.int _ _)); refine PyProof.Rows.ge_int ?_)
  | (o_head (compareOp CmpOp.Eq (Value.int _ _) (Value.int _ _)); refine PyProof.Rows.eq_int ?_)
  | (o_head (compareOp CmpOp.NotEq (Value.int _ _) (Value.int _ _)); refine PyProof.Rows.ne_int ?_)
  | (o_head (compareOp CmpOp.Eq (Value.str _ _) (Value.str _ _)); first | (with_reducible refine zeqS ?_) | refine PyProof.Rows.eq_str ?_)
  | (o_head (compareOp CmpOp.NotEq (Value.str _ _) (Value.str _ _)); first | (with_reducible refine zneS ?_) | refine PyProof.Rows.ne_str ?_))
local macro_rules | `(tactic| walk_at "z unaryOp") => `(tactic| first
  | (o_head (unaryOp UnaryOp.USub (Value.int _ _)); refine PyProof.Rows.neg_int ?_))
local macro_rules | `(tactic| walk_at "z getMethod") => `(tactic| first
  | (o_head (getMethod (Value.str _ _) _ _); first | (with_reducible refine GM.join ?_) | (with_reducible refine GM.startswith ?_) | (with_reducible refine GM.endswith ?_) | (with_reducible refine GM.split ?_)))
local macro_rules | `(tactic| walk_at "z callWith") => `(tactic| first
  | (o_head (callWith _ (Value.builtin _) _ (backTo _ (starEach (_ :: _) _)) []); refine callWith_method1 ?_)
  | (o_head (callWith _ (Value.builtin _) _ (backTo _ (starEach [] _)) []); refine callWith_method0 ?_))
local macro_rules | `(tactic| walk_at "z storeName") => `(tactic| first
  | ((refine' zst ?X ?hv ?_; (case X => assumption); (case hv => walk_at "has"); intro _ _)))
local macro_rules | `(tactic| walk_at "z newTuple") => `(tactic| first
  | ((refine' znewTuple ?X ?hv ?_; (case X => assumption); (case hv => walk_at "hasall"); intro _ _ _ _ _ _)))
local macro_rules | `(tactic| walk_at "z") => `(tactic| first
  | (o_head (eval _ _); walk_at "z eval")
  | (o_head (evalPart _ _); walk_at "z evalPart")
  | (o_head (execs _ _); walk_at "z execs")
  | (o_head (exec _ _); walk_at "z exec")
  | (o_head (isTrue _ _ _); walk_at "z isTrue")
  | (o_head (spliced _); walk_at "z spliced")
  | (o_head (truthy _); walk_at "z truthy")
  | (o_head (call _ _); walk_at "z call")
  | (o_head (loadName _ _); walk_at "z loadName")
  | (o_head (binaryOp _ _ _); walk_at "z binaryOp")
  | (o_head (inplaceOp _ _ _); walk_at "z inplaceOp")
  | (o_head (compareOp _ _ _); walk_at "z compareOp")
  | (o_head (unaryOp _ _); walk_at "z unaryOp")
  | (o_head (getMethod _ _ _); walk_at "z getMethod")
  | (o_head (callWith _ _ _ _ _); walk_at "z callWith")
  | (o_head (storeName _ _ _); walk_at "z storeName")
  | (o_head (newTuple _); walk_at "z newTuple"))
local macro_rules | `(tactic| walk_at "zz") => `(tactic| ((try dsimp only [List.cons_append, List.nil_append]); repeat (walk_at "z"; (try dsimp only [List.cons_append, List.nil_append]))))
local macro_rules | `(tactic| walk_at "lk") => `(tactic| first | exact lk_nil | (refine lk_cons rfl ?_; walk_at "lk"))

section
variable {prog : Program} {w : World} {A : Around} {E : Value → Shared → Prop} {s : Shared} {g : GH} {Q : Value → Shared → Prop}

theorem sgn_at : ∀ n : Fin 65, ((Str.ofString "ABCDEFGHIJKLMNOPQRSTUVWXYZabcdefghijklmnopqrstuvwxyz0123456789*?=").cps.toList)[n.val]? = some (sgn n.val) := by decide +kernel
theorem spec_sign {n : Nat} {t : Tok} (G : Gl hd.heap_1 w s.heap) (ok : Ok 2 A) (hg : g.le s.heap.get?) (hn : n ≤ 64) (R : Ret s g (.s (S [sgn n])) Q) :
    wpAny (model prog w) A (call (.ref 212) [.int n t]) Q E s := by
  refine call_fz g [("figure", .int n t)] [("figure", .i n)] G hg (.cons (.i _ _) .nil) (by k_is) (by k_is) ok.room (BindsTo.of_eq rfl) (locs rfl) (by simp only [List.map_cons, List.map_nil]; decide) ?_ rfl rfl rfl (by decide)
  intro h₁ tk G X
  walk_at "z"
  walk_at "z"
  walk_at "z"
  walk_at "z"
  walk_at "z"
  refine zitemS (x := (Str.ofString "ABCDEFGHIJKLMNOPQRSTUVWXYZabcdefghijklmnopqrstuvwxyz0123456789*?=").cps.toList) (c := sgn n) (by omega) (by omega) (by simpa using sgn_at ⟨n, by omega⟩) ?_
  intro t' tk'
  exact R.done X (.s _ _) rfl
end
section
variable {prog : Program} {w : World} {A : Around} {E : Value → Shared → Prop} {s : Shared} {g : GH} {Q : Value → Shared → Prop}

def mvD (n : Nat) (star : D) : D := if n = 62 then star else if n = 63 then sd [46, 46] else sd [sgn n]
theorem spec_move {n : Nat} {t : Tok} {star : D} {sv : Value} (G : Gl hd.heap_1 w s.heap) (ok : Ok 3 A) (hg : g.le s.heap.get?) (hn : n ≤ 64) (hs : Has g sv star) (R : Ret s g (mvD n star) Q) :
    wpAny (model prog w) A (call (.ref 238) [.int n t, sv]) Q E s := by
  refine call_fz g [("figure", .int n t), ("star", sv)] [("figure", .i n), ("star", star)] G hg (.cons (.i _ _) (.cons hs .nil)) (by k_is) (by k_is) ok.room (BindsTo.of_eq rfl) (locs rfl) (by simp only [List.map_cons, List.map_nil]; decide) ?_ rfl rfl rfl (by decide)
  intro h₁ tk G X
  walk_at "zz"
  unfold mvD at R
  by_cases h1 : n = 62
  · rw [if_pos h1] at R
    refine ite_t (by simp; omega) ?_
    walk_at "zz"
    exact R.done X (by assumption) rfl
  · refine ite_f (by simp; omega) ?_
    rw [if_neg h1] at R
    walk_at "zz"
    by_cases h2 : n = 63
    · rw [if_pos h2] at R
      refine ite_t (by simp; omega) ?_
      walk_at "zz"
      exact R.done X (.s _ _) rfl
    · refine ite_f (by simp; omega) ?_
      rw [if_neg h2] at R
      walk_at "zz"
      refine ⟨⟨_, _, _, _, _, _, X⟩, ?_⟩
      refine spec_sign (X.gl G) (Ok.deeper ok) X.sub hn (zretL X fun v g' h' tk le X hv => ?_)
      exact R.done X hv rfl
end
section
variable {prog : Program} {w : World} {A : Around} {E : Value → Shared → Prop} {s : Shared} {g : GH} {Q : Value → Shared → Prop}

abbrev dI (l : List Nat) : D := .l (l.map fun (n : Nat) => D.i n)
abbrev dS (l : List (List Nat)) : D := .l (l.map sd)

def pathOf (names : List (List Nat)) : List Nat := 47 :: glue [47] names
theorem spec_text {names : List (List Nat)} {nv : Value} (G : Gl hd.heap_1 w s.heap) (ok : Ok 2 A) (hg : g.le s.heap.get?) (hn : Has g nv (dS names)) (hsz : (names.map List.length).sum + names.length ≤ 10000) (hsz2 : (glue [47] names).length ≤ 10000) (R : Ret s g (sd (pathOf names)) Q) :
    wpAny (model prog w) A (call (.ref 278) [nv]) Q E s := by
  refine call_fz g [("names", nv)] [("names", dS names)] G hg (.cons hn .nil) (by k_is) (by k_is) ok.room (BindsTo.of_eq rfl) (locs rfl) (by simp only [List.map_cons, List.map_nil]; decide) ?_ rfl rfl rfl (by decide)
  intro h₁ tk G X
  walk_at "zz"
  refine zjoin X (by assumption) (by simp; omega) ?_
  intro _ _
  walk_at "zz"
  · exact R.done X (.s _ _) rfl
  · simp; omega

def step (p : List (List Nat)) (f : Nat) : List (List Nat) := if f = 62 then [] else if f = 63 then p.dropLast else p ++ [[sgn f]]
def walk (p : List (List Nat)) (fs : List Nat) : List (List Nat) := fs.foldl step p
theorem walk_len (fs : List Nat) : ∀ p : List (List Nat), (walk p fs).length ≤ p.length + fs.length := by
  induction fs with
  | nil => intro p; exact Nat.le_refl _
  | cons f r ih =>
    intro p
    have := ih (step p f)
    have h2 : (step p f).length ≤ p.length + 1 := by
      unfold step; split
      · simp
      · split <;> simp; omega
    show (walk (step p f) r).length ≤ _
    rw [List.length_cons]; omega
theorem spec_walk {fs : List Nat} {place : List (List Nat)} {fv pv : Value} (G : Gl hd.heap_1 w s.heap) (ok : Ok 3 A) (hg : g.le s.heap.get?) (hf : ∀ f ∈ fs, f ≤ 64) (hF : Has g fv (dI fs)) (hP : Has g pv (dS place)) (hl : fs.length + place.length ≤ 1000) (R : Ret s g (dS (walk place fs)) Q) :
    wpAny (model prog w) A (call (.ref 252) [fv, pv]) Q E s := by
  refine call_fz g [("figures", fv), ("place", pv)] [("figures", dI fs), ("place", dS place)] G hg (.cons hF (.cons hP .nil)) (by k_is) (by k_is) ok.room (BindsTo.of_eq rfl) (locs rfl) (by simp only [List.map_cons, List.map_nil]; decide) ?_ rfl rfl rfl (by decide)
  intro h₁ tk G X
  walk_at "zz"
  have W : ∀ (n : Nat), (walk place (fs.take n)).length ≤ 1000 := fun n => Nat.le_trans (walk_len _ _) (by rw [List.length_take]; omega)
  refine zfor (σ := List (List Nat)) (fun _ => []) (fun c => [("place", dS c)]) (fun i c => c = walk place (fs.take i)) (fun _ => False) place X (srcList ok.hd X.sub (by assumption)) rfl (by walk_at "lk") rfl ?_ ?_
  · rintro i d c g' fx' s₁ hd rfl le X ⟨h2, tk2, rfl⟩
    rw [List.getElem?_map] at hd
    obtain ⟨f, hfi, rfl⟩ := Option.map_eq_some_iff.mp hd
    have hf' := hf f (List.mem_of_getElem? hfi)
    have Wi := W i
    have e : walk place (fs.take (i + 1)) = step (walk place (fs.take i)) f := by
      unfold walk; rw [take_succ_of hfi, List.foldl_append]; rfl
    generalize walk place (fs.take i) = c at *
    walk_at "zz"
    by_cases h1 : f = 62
    · refine ite_t (by simp; omega) ?_
      walk_at "zz"
      walk_at "nl"
      walk_at "zz"
      rename Fz _ _ _ _ _ _ _ _ => X
      refine ⟨[], _, ⟨_, _, rfl⟩, by walk_at "le", X.less (lessOf (by walk_at "lk")), ?_⟩
      rw [e, h1]; rfl
    · refine ite_f (by simp; omega) ?_
      walk_at "zz"
      by_cases h2 : f = 63
      · refine ite_t (by simp; omega) ?_
        walk_at "zz"
        refine zsliceX X ?_
        walk_at "zz"
        refine ⟨_, _, _, _, _, _, _, rfl, X, by assumption, by simp; omega, .none, .int _ _, ?_⟩
        intro _ _ _ _ _ hv
        rw [pk_init, ← List.map_dropLast] at hv
        walk_at "zz"
        rename Fz _ _ _ _ _ _ _ _ => X
        refine ⟨_, _, ⟨_, _, rfl⟩, by walk_at "le", X.less (lessOf (by walk_at "lk")), ?_⟩
        rw [e, h2]; rfl
      · refine ite_f (by simp; omega) ?_
        walk_at "zz"
        refine ⟨⟨_, _, _, _, _, _, X⟩, ?_⟩
        refine spec_sign (X.gl G) (Ok.le (Ok.deeper ok) (by decide)) X.sub hf' (zretL X fun v g' h' tk le X hv => ?_)
        walk_at "zz"
        walk_at "nl"
        rename Fz _ _ _ _ _ _ _ _ => X
        refine zadd X (by walk_at "has") (by walk_at "has") (by simp; omega) ?_
        intro _ _ _ _ _ hv
        replace hv := Has.snoc hv
        walk_at "zz"
        rename Fz _ _ _ _ _ _ _ _ => X
        refine ⟨c ++ [[sgn f]], _, ⟨_, _, rfl⟩, by walk_at "le", X.less (lessOf (by walk_at "lk")), ?_⟩
        rw [e]; unfold step; rw [if_neg h1, if_neg h2]
  · rintro c g' s₁ (rfl | hB) le X ⟨h2, tk2, rfl⟩
    · walk_at "zz"
      rw [List.length_map, List.take_length] at *
      exact R.done X (by assumption) rfl
    · exact hB.elim
end
section
variable {prog : Program} {w : World} {A : Around} {E : Value → Shared → Prop} {s : Shared} {g : GH} {Q : Value → Shared → Prop}

def pTest (fs : List Nat) (k : Nat) : Bool := !decide ((fs.drop k).take 2 = [62, 62])
def partsR (star : D) (fs : List Nat) (n : Nat) : List D := ((List.range n).filter (pTest fs)).map fun k => mvD (fs.getD k 0) star
theorem partsR_succ (star : D) (fs : List Nat) (n : Nat) : partsR star fs (n + 1) = if pTest fs n = true then partsR star fs n ++ [mvD (fs.getD n 0) star] else partsR star fs n := by
  unfold partsR
  rw [List.range_succ, List.filter_append, List.map_append]
  cases h : pTest fs n <;> simp [h]
theorem partsR_len (star : D) (fs : List Nat) (n : Nat) : (partsR star fs n).length ≤ n := by
  unfold partsR
  rw [List.length_map]
  exact Nat.le_trans (List.length_filter_le _ _) (by simp)
theorem spec_parts {fs : List Nat} {star : D} {fv sv : Value} (G : Gl hd.heap_1 w s.heap) (ok : Ok 4 A) (hg : g.le s.heap.get?) (hf : ∀ f ∈ fs, f ≤ 64) (hF : Has g fv (dI fs)) (hS : Has g sv star) (hl : fs.length ≤ 1000) (R : Ret s g (.l (partsR star fs fs.length)) Q) :
    wpAny (model prog w) A (call (.ref 245) [fv, sv]) Q E s := by
  refine call_fz g [("figures", fv), ("star", sv)] [("figures", dI fs), ("star", star)] G hg (.cons hF (.cons hS .nil)) (by k_is) (by k_is) ok.room (BindsTo.of_eq rfl) (locs rfl) (by simp only [List.map_cons, List.map_nil]; decide) ?_ rfl rfl rfl (by decide)
  intro h₁ tk G X
  walk_at "zz"
  refine znewListM X .nil ?_
  intro q h2 X
  walk_at "zz"
  rename Fz _ _ _ _ _ _ _ _ => X
  refine zlen X (by walk_at "has") (by simp; omega) ?_
  walk_at "zz"
  refine zrange1 X ?_
  intro r g' h' tk' u v le X hr
  rw [List.length_map] at hr
  refine zfor (σ := List D) (fun c => [(q, .lst c)]) (fun c => [("parts", .r q), ("figures", dI fs), ("star", star)]) (fun i c => c = partsR star fs i) (fun _ => False) [] X (srcR1 ok.hd hr (by omega)) rfl (by walk_at "lk") rfl ?_ ?_
  · rintro i d c g' fx' s₁ hd rfl le2 X ⟨h2, tk2, rfl⟩
    obtain ⟨hi, rfl⟩ := rangeAt hd
    have hlen := partsR_len star fs i
    have hsucc := partsR_succ star fs i
    generalize partsR star fs i = c at *
    have hfi : fs[i]? = some fs[i] := List.getElem?_eq_getElem hi
    have hget : fs.getD i 0 = fs[i] := by simp [hi]
    walk_at "zz"
    refine zsliceX X ?_
    walk_at "zz"
    refine ⟨_, _, _, _, _, _, _, rfl, X, by walk_at "has", by simp; omega, .int _ _, .int _ _, ?_⟩
    intro a3 g3 h3 le3 X hc
    have es : pk (some (i : Int)) (some ((i : Int) + 2)) (fs.map fun (n : Nat) => D.i n) = ((fs.drop i).take 2).map fun (n : Nat) => D.i n := by
      have := pk_mid (fs.map fun (n : Nat) => D.i (n : Int)) i (i + 2)
      rw [← List.map_drop, ← List.map_take, Nat.add_sub_cancel_left] at this
      simpa using this
    rw [es] at hc
    walk_at "zz"
    walk_at "nl"
    rename Fz _ _ _ _ _ _ _ _ => X
    refine zneL (r := decide ((fs.drop i).take 2 = [62, 62])) X (by walk_at "has") (by walk_at "has") ?_ (Ok.deeper ok).c ?_
    · have := EqL.ints (((fs.drop i).take 2).map fun (n : Nat) => (n : Int)) [62, 62]
      rw [List.map_map] at this
      have e2 : decide (((fs.drop i).take 2).map (fun (n : Nat) => (n : Int)) = [62, 62]) = decide ((fs.drop i).take 2 = [62, 62]) := by
        apply decide_eq_decide.mpr
        constructor
        · intro h
          have h' : ((fs.drop i).take 2).map (fun (n : Nat) => (n : Int)) = [62, 62].map (fun (n : Nat) => (n : Int)) := h
          exact List.map_inj_right (fun a b h => by omega) |>.mp h'
        · intro h; rw [h]; rfl
      rw [e2] at this; exact this
    walk_at "zz"
    rcases Bool.eq_false_or_eq_true (pTest fs i) with hb | hb
    · rw [if_pos hb] at hsucc
      have hb' : (!decide ((fs.drop i).take 2 = [62, 62])) = true := hb
      refine ite_t hb' ?_
      walk_at "zz"
      refine zgmAppend X (.head _) ?_
      walk_at "zz"
      refine zitem X (by walk_at "has") (by omega) (by omega) (d := .i (fs[i] : Nat)) (by simp [hi]) fun v hv => ?_
      walk_at "un"
      walk_at "zz"
      refine ⟨⟨_, _, _, _, _, _, X⟩, ?_⟩
      refine spec_move (X.gl G) (Ok.deeper ok) X.sub (hf _ (List.getElem_mem hi)) (by walk_at "has") (zretL X fun v g' h' tk le X hv => ?_)
      walk_at "zz"
      refine zappend X (.head _) hv (by omega) rfl fun h' X => ?_
      rw [hget] at hsucc
      simp only [List.map_cons, List.map_nil, if_true] at X
      walk_at "zz"
      exact turnN _ X (by walk_at "le") rfl (by walk_at "lk") ⟨_, _, rfl⟩ hsucc.symm
    · rw [if_neg (by rw [hb]; decide)] at hsucc
      have hb' : ¬ (!decide ((fs.drop i).take 2 = [62, 62])) = true := by
        have hb2 : (!decide ((fs.drop i).take 2 = [62, 62])) = false := hb
        rw [hb2]; decide
      refine ite_f hb' ?_
      walk_at "zz"
      exact turnN _ X (by walk_at "le") rfl (by walk_at "lk") ⟨_, _, rfl⟩ hsucc.symm
  · rintro c g' s₁ (rfl | hB) le X ⟨h2, tk2, rfl⟩
    · walk_at "zz"
      obtain ⟨g2, le2, hq, Y⟩ := X.freeze (.head _)
      rw [List.length_map, List.length_range] at hq
      exact R.done Y hq rfl
    · exact hB.elim
end
section
variable {prog : Program} {w : World} {A : Around} {E : Value → Shared → Prop} {s : Shared} {g : GH} {Q : Value → Shared → Prop}

def after : List Nat → List Nat
  | [] => []
  | f :: r => if 62 ∈ r then after r else if f = 62 then r else f :: r
theorem after_none : ∀ {fs : List Nat}, 62 ∉ fs → after fs = fs
  | [], _ => rfl
  | f :: r, h => by
    have h1 : ¬ 62 ∈ r := fun x => h (.tail _ x)
    have h2 : ¬ f = 62 := fun x => h (by rw [x]; exact .head _)
    simp [after, h1, h2]
theorem after_drop : ∀ {fs : List Nat}, 62 ∈ fs → after (fs.drop (fs.idxOf 62 + 1)) = after fs
  | f :: r, h => by
    by_cases hf : f = 62
    · subst hf
      by_cases hr : 62 ∈ r
      · simp [after, hr]
      · simp [after, after_none hr]
    · have hr : 62 ∈ r := by
        cases h with
        | head => exact absurd rfl hf
        | tail _ h => exact h
      have e : (f :: r).idxOf 62 = r.idxOf 62 + 1 := by
        have hb : (f == 62) = false := by simpa using hf
        rw [List.idxOf_cons, hb]; rfl
      rw [e]
      show after (r.drop (r.idxOf 62 + 1)) = _
      rw [after_drop hr]
      simp [after, hr]
def mvN (f : Nat) : List Nat := if f = 62 then [] else if f = 63 then [46, 46] else [sgn f]
theorem mvD_empty (f : Nat) : mvD f (sd []) = sd (mvN f) := by
  unfold mvD mvN; split
  · rfl
  · split <;> rfl
def unN : D → Nat
  | .i n => n.toNat
  | _ => 0
theorem spec_behind {fs : List Nat} {fv : Value} (G : Gl hd.heap_1 w s.heap) (ok : Ok 4 A) (hg : g.le s.heap.get?) (hf : ∀ f ∈ fs, f ≤ 64) (hF : Has g fv (dI fs)) (hl : fs.length ≤ 1000) (R : Ret s g (dS ((after fs).map mvN)) Q) :
    wpAny (model prog w) A (call (.ref 290) [fv]) Q E s := by
  refine call_fz g [("figures", fv)] [("figures", dI fs)] G hg (.cons hF .nil) (by k_is) (by k_is) ok.room (BindsTo.of_eq rfl) (locs rfl) (by simp only [List.map_cons, List.map_nil]; decide) ?_ rfl rfl rfl (by decide)
  intro h₁ tk G X
  walk_at "zz"
  refine zWhile (σ := List Nat) (fun _ => []) (fun c => [("figures", dI c)]) (fun n c => after c = after fs ∧ c.length = n ∧ n ≤ fs.length ∧ ∀ f ∈ c, f ∈ fs) fs.length fs X rfl (by walk_at "lk") ⟨rfl, rfl, Nat.le_refl _, fun _ h => h⟩ ?_
  rintro n c g' s₁ ⟨hc1, rfl, hc3, hc4⟩ le X ⟨h2, tk2, rfl⟩
  walk_at "zz"
  refine zin (k := 62) X (by walk_at "has") ?_
  walk_at "zz"
  by_cases hin : 62 ∈ c
  · refine ite_t (by simpa using hin) ?_
    walk_at "zz"
    refine zsliceX X ?_
    walk_at "zz"
    refine zgmList F.slot_list_index F.type_list_index X (by walk_at "has") ?_
    walk_at "zz"
    refine zindex (k := 62) X (by walk_at "has") hin (by omega) ?_
    walk_at "zz"
    refine ⟨_, _, _, _, _, _, _, rfl, X, by walk_at "has", by simp; omega, .int _ _, .none, ?_⟩
    intro a3 g3 h3 le3 X hc
    have es : pk (some ((c.idxOf 62 : Nat) + 1 : Int)) none (c.map fun (n : Nat) => D.i n) = (c.drop (c.idxOf 62 + 1)).map fun (n : Nat) => D.i n := by
      have := pk_from (c.map fun (n : Nat) => D.i (n : Int)) (c.idxOf 62 + 1)
      rw [← List.map_drop] at this
      simpa using this
    rw [es] at hc
    walk_at "zz"
    rename Fz _ _ _ _ _ _ _ _ => X
    have hpos : 0 < c.length := List.length_pos_of_mem hin
    refine wturnN (c.drop (c.idxOf 62 + 1)).length (c.drop (c.idxOf 62 + 1)) X (by walk_at "le") (by simp; omega) rfl (by walk_at "lk") ⟨_, _, rfl⟩ ⟨(after_drop hin).trans hc1, rfl, ?_, fun f h => hc4 f (List.mem_of_mem_drop h)⟩
    simp; omega
  · refine ite_f (by simpa using hin) ?_
    walk_at "zz"
    refine zmap (cl := []) (fun d => mvD (unN d) (sd [])) X (by with_unfolding_all rfl) (by decide) rfl (by decide) (by decide) ?_
    walk_at "zz"
    refine ⟨_, _, _, _, X, srcList ok.hd X.sub (by walk_at "has"), by simp; omega, ?_, ?_⟩
    · intro i d C g' fx' mu' s₂ hd le X hm
      obtain ⟨f, hfi, rfl⟩ := mapAt hd
      walk_at "zz"
      refine ⟨⟨_, _, _, _, _, _, X⟩, ?_⟩
      refine spec_move (X.gl G) (Ok.deeper ok) X.sub (hf f (hc4 f (List.mem_of_getElem? hfi))) (.s _ _) (zretL X fun v g' h' tk le X hv => ?_)
      exact Elt.mk X (by walk_at "le") hv ⟨_, _, rfl⟩
    · intro a g' h' tk le X hv
      rw [List.map_map] at hv
      refine R.done X (d := dS ((after fs).map mvN)) ?_ rfl
      rw [← hc1, after_none hin]
      have e : (c.map mvN).map sd = c.map ((fun d => mvD (unN d) (sd [])) ∘ fun (n : Nat) => D.i n) := by
        rw [List.map_map]
        exact List.map_congr_left fun f _ => (mvD_empty f).symm
      show Has _ _ (.l ((c.map mvN).map sd))
      rw [e]; exact hv
end
section
variable {prog : Program} {w : World} {A : Around} {E : Value → Shared → Prop} {s : Shared} {g : GH} {Q : Value → Shared → Prop}

def valOf (hand : List Nat) : Nat := (hand ++ List.replicate (3 - hand.length) 0).foldl (fun v o => v * 256 + o) 0
def figs (hand : List Nat) : List Nat := ((List.range (hand.length + 1)).map fun k => valOf hand / 64 ^ (3 - k) % 64) ++ List.replicate (3 - hand.length) 64
theorem spec_figures {hand : List Nat} {hv : Value} (G : Gl hd.heap_1 w s.heap) (ok : Ok 4 A) (hg : g.le s.heap.get?) (hH : Has g hv (dI hand)) (hl : hand.length ≤ 3) (R : Ret s g (dI (figs hand)) Q) :
    wpAny (model prog w) A (call (.ref 231) [hv]) Q E s := by
  refine call_fzC g [("hand", hv)] [("hand", dI hand)] (fun L => [(L + 1, .cell none)]) G hg (by k_is) (by k_is) ok.room (by rfl) (fun n x hx => by cases hx with | head => exact .inl rfl | tail _ h => cases h) ?_ ?_ (by intro L; simp) ?_ rfl rfl rfl
  · intro L p hp
    cases hp with
    | head => exact ⟨_, rfl, hH⟩
    | tail _ h => cases h
  · intro L p hp
    cases hp with
    | head => exact ⟨"value", rfl, rfl⟩
    | tail _ h => cases h
  intro h₁ tk G X
  walk_at "zz"
  refine zstC X (q := s.heap.objs.size + 1) (by rfl) (.head _) (.i _ _) rfl fun h2 X => ?_
  simp only [List.map_cons, List.map_nil, if_true] at X
  walk_at "zz"
  walk_at "nl"
  walk_at "zz"
  rename Fz _ _ _ _ _ _ _ _ => X
  refine zlen X (by walk_at "has") (by simp; omega) ?_
  walk_at "zz"
  refine zmul1 X (by walk_at "has") (by simp; omega) (by simp; omega) ?_
  intro a1 g1 h1 le1 X hv1
  walk_at "zz"
  refine zadd X (by walk_at "has") hv1 (by simp; omega) ?_
  intro a2 g2 h2 le2 X hv2
  walk_at "zz"
  have e0 : List.map (fun (n : Nat) => D.i (n : Int)) hand ++ List.replicate ((3 : Int) - (List.length (List.map (fun (n : Nat) => D.i (n : Int)) hand) : Nat)).toNat (D.i 0) = (hand ++ List.replicate (3 - hand.length) 0).map (fun (n : Nat) => D.i (n : Int)) := by
    rw [List.map_append, List.map_replicate, List.length_map]
    congr 2
    omega
  rw [e0] at hv2
  have hlen3 : (hand ++ List.replicate (3 - hand.length) 0).length ≤ 3 := by simp; omega
  refine zfor (σ := Nat) (fun c => [(s.heap.objs.size + 1, .cell (some (.i c)))]) (fun _ => [("hand", dI hand)]) (fun i c => c = ((hand ++ List.replicate (3 - hand.length) 0).take i).foldl (fun v o => v * 256 + o) 0) (fun _ => False) 0 X (srcList ok.hd X.sub hv2) rfl (by walk_at "lk") rfl ?_ ?_
  · rintro i d c g' fx' s₁ hd hc le X ⟨h2, tk2, rfl⟩
    obtain ⟨o, ho, rfl⟩ := mapAt hd
    walk_at "zz"
    refine zstC X (q := s.heap.objs.size + 1) (by rfl) (.head _) (.i _ _) rfl fun h2 X => ?_
    simp only [List.map_cons, List.map_nil, if_true] at X
    walk_at "zz"
    have ec : ((c : Int) * 256 + (o : Int)) = ((c * 256 + o : Nat) : Int) := by omega
    rw [ec] at X
    refine turnN (c * 256 + o) X (by walk_at "le") rfl (by walk_at "lk") ⟨_, _, rfl⟩ ?_
    rw [take_succ_of ho, List.foldl_append, ← hc]; rfl
  · rintro c g' s₁ (hc | hB) le X ⟨h2, tk2, rfl⟩
    · have hc : c = valOf hand := by
        rw [hc, List.length_map, List.take_length]; rfl
      subst hc
      walk_at "zz"
      refine zmapA (cl := [("value", s.heap.objs.size + 1)]) (fun d => D.i ((valOf hand / 64 ^ (3 - unN d) % 64 : Nat) : Int)) X (by with_unfolding_all rfl) (by decide) rfl (by decide) (by decide) ?_ (by with_unfolding_all rfl) rfl rfl
      walk_at "zz"
      refine zlen X (by walk_at "has") (by simp; omega) ?_
      walk_at "zz"
      refine zrange1 X ?_
      intro r g' h' tk' u v le X hr
      have er : ((List.map (fun (n : Nat) => D.i (n : Int)) hand).length : Int) + 1 = ((hand.length + 1 : Nat) : Int) := by simp
      rw [er] at hr
      refine ⟨_, _, _, _, X, srcR1 ok.hd hr (by omega), by simp; omega, ?_, ?_⟩
      · intro i d C g' fx' mu' s₂ hd le X hm
        obtain ⟨hi, rfl⟩ := rangeAt hd
        walk_at "zz"
        refine zpow 64 (3 - i) rfl (by omega) (by omega) (by omega) fun _ _ => ?_
        walk_at "zz"
        have hp : 64 ^ (3 - i) ≤ 64 ^ 3 := Nat.pow_le_pow_right (by decide) (by omega)
        refine zfd (valOf hand) (64 ^ (3 - i)) rfl rfl (Nat.pow_pos (by decide)) (by omega) fun _ _ => ?_
        walk_at "zz"
        refine zfm (valOf hand / 64 ^ (3 - i)) 64 rfl rfl (by decide) (by decide) fun _ _ => ?_
        exact Elt.mk X (by walk_at "le") (.i _ _) ⟨_, _, rfl⟩
      · intro a g' h' tk le X
        walk_at "zz"
        walk_at "nl"
        walk_at "zz"
        rename Fz _ _ _ _ _ _ _ _ => X
        refine zlen X (by walk_at "has") (by simp; omega) ?_
        walk_at "zz"
        refine zmul1 X (by walk_at "has") (by simp; omega) (by simp; omega) ?_
        intro a1 g1 h1 le1 X hv1
        walk_at "zz"
        refine zadd X (by walk_at "has") hv1 (by simp; omega) ?_
        intro a2 g2 h2 le2 X hv2
        walk_at "zz"
        refine R.done X (d := dI (figs hand)) ?_ rfl
        have en : ((3 : Int) - ((List.map (fun (n : Nat) => D.i (n : Int)) hand).length : Nat)).toNat = 3 - hand.length := by rw [List.length_map]; omega
        rw [en] at hv2
        simp only [List.map_map] at hv2
        show Has _ _ (D.l ((figs hand).map fun (n : Nat) => D.i (n : Int)))
        simp only [figs, List.map_append, List.map_map, List.map_replicate]
        exact hv2
    · exact hB.elim
end
section
variable {prog : Program} {w : World} {A : Around} {E : Value → Shared → Prop} {s : Shared} {g : GH} {Q : Value → Shared → Prop}

theorem table15 : ∀ n : Fin 15, ∃ m : Fin 64, ([0, 26, 63, 0, 26, 63, 1, 62, 63, 0, 61, 63, 25, 26, 52] : List Nat)[n.val]? = some m.val := by decide
theorem spec_drawn {n : Int} {t : Tok} (G : Gl hd.heap_1 w s.heap) (ok : Ok 4 A) (hg : g.le s.heap.get?) (R : ∀ a b c : Nat, a < 256 → b < 256 → c < 256 → Ret s g (dI [a, b, c]) Q) :
    wpAny (model prog w) A (call (.ref 219) [.int n t]) Q E s := by
  refine call_fz g [("number", .int n t)] [("number", .i n)] G hg (.cons (.i _ _) .nil) (by k_is) (by k_is) ok.room (BindsTo.of_eq rfl) (locs rfl) (by simp only [List.map_cons, List.map_nil]; decide) ?_ rfl rfl rfl (by decide)
  intro h₁ tk G X
  walk_at "zz"
  refine zpow 10 9 rfl rfl (by decide) (by decide) fun _ _ => ?_
  walk_at "zz"
  refine zmodI (10 ^ 9) rfl (by decide) fun left _ _ hleft => ?_
  walk_at "zz"
  rename Fz _ _ _ _ _ _ _ _ => X
  refine zrange1 X ?_
  intro r g' h' tk' u v le X hr
  refine zfor (σ := Nat) (fun _ => []) (fun c => [("value", .i c), ("left", .i left)]) (fun i c => c < 64 ^ i) (fun _ => False) 0 X (srcR1 (n := 4) ok.hd hr (by omega)) rfl (by walk_at "lk") (by decide) ?_ ?_
  · rintro i d c g' fx' s₁ hd hc le X ⟨h2, tk2, rfl⟩
    obtain ⟨hi, rfl⟩ := rangeAt hd
    walk_at "zz"
    refine zpow 16 i rfl rfl (by decide) (by omega) fun _ _ => ?_
    walk_at "zz"
    have hp : 16 ^ i ≤ 16 ^ 4 := Nat.pow_le_pow_right (by decide) (by omega)
    refine zfd left (16 ^ i) rfl rfl (Nat.pow_pos (by decide)) (by omega) fun _ _ => ?_
    walk_at "zz"
    refine zmodI 16 rfl (by decide) fun kd _ _ hkd => ?_
    walk_at "zz"
    have fin : ∀ (f : Nat), f < 64 → c * 64 + f < 64 ^ (i + 1) := fun f hf => by
      rw [Nat.pow_succ]
      have : (c + 1) * 64 ≤ 64 ^ i * 64 := Nat.mul_le_mul_right 64 hc
      omega
    by_cases hk : kd = 15
    · refine ite_t (by rw [hk]; decide) ?_
      walk_at "zz"
      refine zfd left 65536 rfl rfl (by decide) (by decide) fun _ _ => ?_
      walk_at "zz"
      refine zmodI 64 rfl (by decide) fun f _ _ hf => ?_
      walk_at "zz"
      have ec : ((c : Int) * 64 + (f : Int)) = ((c * 64 + f : Nat) : Int) := by omega
      rename Fz _ _ _ _ _ _ _ _ => X
      rw [ec] at X
      exact turnN (c * 64 + f) X (by walk_at "le") rfl (by walk_at "lk") ⟨_, _, rfl⟩ (fin f hf)
    · refine ite_f (by simp; omega) ?_
      walk_at "zz"
      walk_at "nl"
      walk_at "zz"
      have hlt : kd < 15 := by omega
      obtain ⟨f, hf⟩ := table15 ⟨kd, hlt⟩
      rename Fz _ _ _ _ _ _ _ _ => X
      refine zitem (d := .i (f.val : Nat)) X (by walk_at "has") (by omega) (by omega) ?_ fun v hv => ?_
      · have := congrArg (Option.map fun (n : Nat) => D.i (n : Int)) hf
        rw [← List.getElem?_map] at this
        exact this
      walk_at "un"
      walk_at "zz"
      have ec : ((c : Int) * 64 + (f.val : Int)) = ((c * 64 + f.val : Nat) : Int) := by omega
      rename Fz _ _ _ _ _ _ _ _ => X
      rw [ec] at X
      exact turnN (c * 64 + f.val) X (by walk_at "le") rfl (by walk_at "lk") ⟨_, _, rfl⟩ (fin f.val f.isLt)
  · rintro c g' s₁ (hc | hB) le X ⟨h2, tk2, rfl⟩
    · have hc' : c < 64 ^ 4 := hc
      walk_at "zz"
      refine zfd c 65536 rfl rfl (by decide) (by decide) fun _ _ => ?_
      walk_at "zz"
      refine zfd c 256 rfl rfl (by decide) (by decide) fun _ _ => ?_
      walk_at "zz"
      refine zfm (c / 256) 256 rfl rfl (by decide) (by decide) fun _ _ => ?_
      walk_at "zz"
      refine zfm c 256 rfl rfl (by decide) (by decide) fun _ _ => ?_
      walk_at "zz"
      walk_at "nl"
      rename Fz _ _ _ _ _ _ _ _ => X
      exact (R (c / 65536) (c / 256 % 256) (c % 256) (by omega) (Nat.mod_lt _ (by decide)) (Nat.mod_lt _ (by decide))).done X (by assumption) rfl
    · exact hB.elim

theorem spec_octets {ns : List Int} {sv : Value} (G : Gl hd.heap_1 w s.heap) (ok : Ok 5 A) (hg : g.le s.heap.get?) (hS : Has g sv (.l (ns.map .i))) (hl : ns.length ≤ 63) (R : ∀ os : List Nat, os ≠ [] → os.length ≤ 15 → (∀ o ∈ os, o < 256) → Ret s g (dI os) Q) :
    wpAny (model prog w) A (call (.ref 226) [sv]) Q E s := by
  refine call_fz g [("script", sv)] [("script", .l (ns.map .i))] G hg (.cons hS .nil) (by k_is) (by k_is) ok.room (BindsTo.of_eq rfl) (locs rfl) (by simp only [List.map_cons, List.map_nil]; decide) ?_ rfl rfl rfl (by decide)
  intro h₁ tk G X
  walk_at "zz"
  walk_at "nl"
  walk_at "zz"
  rename Fz _ _ _ _ _ _ _ _ => X
  refine wpAny_mono (Q := fun v s' => ∃ g' ms h' tk', s' = { s with heap := h', toks := tk' } ∧ Fz s.heap g s.heap.get? g' [] [("octets", .l []), ("script", .l (ns.map .i))] s.heap.objs.size h' ∧ Has g' v (.l (ms.map .i)) ∧ ms ≠ [] ∧ ms.length ≤ 5) (E := fun _ _ => False) ?_ (fun v s' hv => ?_) fun _ _ e => e.elim
  · refine BoolOp_or ?_
    refine zsliceX X ?_
    walk_at "zz"
    refine ⟨_, _, _, _, _, _, _, rfl, X, by walk_at "has", by simp; omega, .none, .int _ _, ?_⟩
    intro a3 g3 h3 le3 X hc
    have es : pk none (some (5 : Int)) (ns.map D.i) = (ns.take 5).map .i := by
      rw [List.map_take]; exact pk_upto (ns.map D.i) 5
    rw [es] at hc
    refine ztruthy X hc (by simp; omega) ?_
    walk_at "zz"
    by_cases hne : ns.take 5 = []
    · refine ite_f (by rw [hne]; decide) ?_
      refine BoolOp_one ?_
      walk_at "zz"
      refine znewList X (.cons (.i _ _) (.cons (.i _ _) (.cons (.i _ _) .nil))) fun a4 g4 h4 le4 X hv => ?_
      exact ⟨g4, [375, 4642, 24614], _, _, rfl, X, hv, by decide, by decide⟩
    · refine ite_t (by simpa using hne) ?_
      exact ⟨g3, ns.take 5, _, _, rfl, X, hc, hne, by simp; omega⟩
  obtain ⟨g', ms, h', tk', rfl, X, hv, hne, hms⟩ := hv
  obtain ⟨a, rfl⟩ := hv.refL
  refine zfor (σ := List Nat) (fun _ => []) (fun c => [("octets", dI c), ("script", .l (ns.map .i))]) (fun i c => c.length = 3 * i ∧ ∀ o ∈ c, o < 256) (fun _ => False) [] X (srcList ok.hd X.sub hv) rfl (by walk_at "lk") ⟨rfl, fun _ h => nomatch h⟩ ?_ ?_
  · rintro i d c g' fx' s₁ hd ⟨hc, hc2⟩ le X ⟨h2, tk2, rfl⟩
    obtain ⟨n, hn, rfl⟩ := mapAt hd
    have hi : i < ms.length := (List.getElem?_eq_some_iff.mp hn).1
    walk_at "zz"
    refine ⟨⟨_, _, _, _, _, _, X⟩, ?_⟩
    refine spec_drawn (X.gl G) (Ok.deeper ok) X.sub fun p q r hp hq hr => zretL X fun v g' h' tk le X hv => ?_
    walk_at "un"
    walk_at "zz"
    refine zadd X (by walk_at "has") (by walk_at "has") (by simp; omega) fun a4 g4 h4 le4 X hv => ?_
    replace hv := Has.cat hv
    walk_at "zz"
    rename Fz _ _ _ _ _ _ _ _ => X
    refine turnN (c ++ [p, q, r]) X (by walk_at "le") rfl (by walk_at "lk") ⟨_, _, rfl⟩ ⟨by simp; omega, fun o ho => ?_⟩
    rcases List.mem_append.mp ho with h | h
    · exact hc2 o h
    · simp only [List.mem_cons, List.not_mem_nil, or_false] at h
      rcases h with rfl | rfl | rfl <;> assumption
  · rintro c g' s₁ (⟨hc, hc2⟩ | hB) le X ⟨h2, tk2, rfl⟩
    · rw [List.length_map] at hc
      have hpos : 0 < ms.length := List.length_pos_iff.mpr hne
      walk_at "zz"
      refine zsliceX X ?_
      walk_at "zz"
      refine zlen X (by walk_at "has") (by simp; omega) ?_
      walk_at "zz"
      refine zsum ok.hd X (by walk_at "has") fun n t' g' h' tk le X => ?_
      walk_at "zz"
      refine zmodI 3 rfl (by decide) fun m _ _ hm => ?_
      walk_at "zz"
      refine ⟨_, _, _, _, _, _, _, rfl, X, by walk_at "has", by simp; omega, .none, .int _ _, ?_⟩
      intro a3 g3 h3 le3 X hcc
      have es : pk none (some (((List.map (fun (n : Nat) => D.i (n : Int)) c).length : Int) - (m : Int))) (c.map fun (n : Nat) => D.i n) = (c.take (c.length - m)).map fun (n : Nat) => D.i n := by
        have := pk_upto (c.map fun (n : Nat) => D.i (n : Int)) (c.length - m)
        rw [← List.map_take] at this
        rw [← this]
        congr 2
        rw [List.length_map]; omega
      rw [es] at hcc
      refine (R (c.take (c.length - m)) ?_ ?_ fun o ho => hc2 o (List.mem_of_mem_take ho)).done X hcc rfl
      · intro h0
        have := congrArg List.length h0
        simp at this
        omega
      · rw [List.length_take]; omega
    · exact hB.elim
end
section
variable {prog : Program} {w : World} {A : Around} {E : Value → Shared → Prop} {s : Shared} {g : GH} {Q : Value → Shared → Prop}

theorem spec_fspath {x : Str} {t : Tok} (G : Gl hd.heap_1 w s.heap) (ok : Ok 2 A) (hg : g.le s.heap.get?) (R : Ret s g (.s x) Q) :
    wpAny (model prog w) A (call (.ref 111) [.str x t]) Q E s := by
  refine call_fz g [("path", .str x t)] [("path", .s x)] G hg (.cons (.s _ _) .nil) (by k_is) (by k_is) ok.room (BindsTo.of_eq rfl) (locs rfl) (by simp only [List.map_cons, List.map_nil]; decide) ?_ rfl rfl rfl (by decide)
  intro h₁ tk G X
  walk_at "zz"
  refine ztypeS ?_
  walk_at "zz"
  rename Fz _ _ _ _ _ _ _ _ => X
  refine zissub X (by walk_at "has") meta_str sub_str_str ?_
  walk_at "zz"
  refine ite_t rfl ?_
  walk_at "zz"
  exact R.done X (.s _ _) rfl
theorem spec_getsep {x : Str} {t : Tok} (G : Gl hd.heap_1 w s.heap) (ok : Ok 2 A) (hg : g.le s.heap.get?) (R : Ret s g (sd [47]) Q) :
    wpAny (model prog w) A (call (.ref 125) [.str x t]) Q E s := by
  refine call_fz g [("path", .str x t)] [("path", .s x)] G hg (.cons (.s _ _) .nil) (by k_is) (by k_is) ok.room (BindsTo.of_eq rfl) (locs rfl) (by simp only [List.map_cons, List.map_nil]; decide) ?_ rfl rfl rfl (by decide)
  intro h₁ tk G X
  walk_at "zz"
  refine IsiPair.str_bytes ?_
  walk_at "zz"
  refine ite_f (by decide) ?_
  walk_at "zz"
  exact R.done X (.s _ _) rfl
theorem spec_splitroot {x : List Nat} {t : Tok} (G : Gl hd.heap_1 w s.heap) (ok : Ok 3 A) (hg : g.le s.heap.get?) (hx : x.head? ≠ some 47) (hsz : x.length ≤ 10000) (R : Ret s g (.t [sd [], sd [47], sd x]) Q) :
    wpAny (model prog w) A (call (.ref 139) [.str (S (47 :: x)) t]) Q E s := by
  refine call_fz g [("p", .str (S (47 :: x)) t)] [("p", sd (47 :: x))] G hg (.cons (.s _ _) .nil) (by k_is) (by k_is) ok.room (BindsTo.of_eq rfl) (locs rfl) (by simp only [List.map_cons, List.map_nil]; decide) ?_ rfl rfl rfl (by decide)
  intro h₁ tk G X
  walk_at "zz"
  refine ⟨⟨_, _, _, _, _, _, X⟩, ?_⟩
  refine spec_fspath (X.gl G) (Ok.le (Ok.deeper ok) (by decide)) X.sub (zretL X fun v g' h' tk le X hv => ?_)
  walk_at "un"
  walk_at "zz"
  refine IsiPair.str_bytes ?_
  walk_at "zz"
  refine ite_f (by decide) ?_
  walk_at "zz"
  rename Fz _ _ _ _ _ _ _ _ => X
  refine zsliceSX X ?_
  walk_at "zz"
  refine ⟨47 :: x, _, none, some (1, _), [47], _, _, _, rfl, rfl, rfl, X, by simp; omega, pk_upto (47 :: x) 1, ?_⟩
  intro t' g' h' tk le X
  walk_at "zz"
  refine ite_f (by decide) ?_
  walk_at "zz"
  refine zsliceSX X ?_
  walk_at "zz"
  refine ⟨47 :: x, _, some (1, _), some (2, _), x.take 1, _, _, _, rfl, rfl, rfl, X, by simp; omega, (pk_mid (47 :: x) 1 2), ?_⟩
  intro t' g' h' tk le X
  walk_at "zz"
  have hne : ¬ x.take 1 = [47] := by
    intro e
    cases x with
    | nil => cases e
    | cons a r => simp at e; exact hx (by rw [e]; rfl)
  refine ite_t (by simp [hne]) ?_
  refine ite_t rfl ?_
  walk_at "zz"
  refine zsliceSX X ?_
  walk_at "zz"
  refine ⟨47 :: x, _, some (1, _), none, x, _, _, _, rfl, rfl, rfl, X, by simp; omega, (pk_from (47 :: x) 1), ?_⟩
  intro t' g' h' tk le X
  walk_at "zz"
  rename Fz _ _ _ _ _ _ _ _ => X
  exact R.done X (by assumption) rfl
end
section
variable {prog : Program} {w : World} {A : Around} {E : Value → Shared → Prop} {s : Shared} {g : GH} {Q : Value → Shared → Prop}

def nstep (acc : List (List Nat)) (n : List Nat) : List (List Nat) := if n = [] then acc else if n = [46, 46] then acc.dropLast else acc ++ [n]
def norm (names : List (List Nat)) : List (List Nat) := names.foldl nstep []
structure Nm (n : List Nat) : Prop where
  ne : n ≠ []
  dot : n ≠ [46]
  sl : 47 ∉ n
  len : n.length ≤ 2
theorem glue_len : ∀ {xs : List (List Nat)}, (∀ x ∈ xs, x.length ≤ 2) → (glue [47] xs).length ≤ 3 * xs.length
  | [], _ => Nat.zero_le _
  | [x], h => by have := h x (.head _); show x.length ≤ _; simp; omega
  | x :: y :: r, h => by
    have h1 := h x (.head _)
    have h2 := glue_len (xs := y :: r) fun z hz => h z (.tail _ hz)
    show (x ++ [47] ++ glue [47] (y :: r)).length ≤ _
    simp only [List.length_append, List.length_cons, List.length_nil] at h2 ⊢
    omega
theorem sum_len2 : ∀ {xs : List (List Nat)}, (∀ x ∈ xs, x.length ≤ 2) → (xs.map List.length).sum ≤ 2 * xs.length
  | [], _ => Nat.le_refl _
  | x :: r, h => by
    have h1 := h x (.head _)
    have h2 := sum_len2 (xs := r) fun z hz => h z (.tail _ hz)
    simp only [List.map_cons, List.sum_cons, List.length_cons]
    omega
theorem glue_head {xs : List (List Nat)} (h : ∀ x ∈ xs, x ≠ [] ∧ 47 ∉ x) : (glue [47] xs).head? ≠ some 47 := by
  cases xs with
  | nil => exact fun e => nomatch e
  | cons x r =>
    obtain ⟨h1, h2⟩ := h x (.head _)
    cases x with
    | nil => exact absurd rfl h1
    | cons a x' =>
      have : (glue [47] ((a :: x') :: r)).head? = some a := by cases r <;> rfl
      rw [this]
      intro e
      have : a = 47 := by simpa using e
      exact h2 (by rw [this]; exact .head _)
theorem nstep_inv {acc : List (List Nat)} {n : List Nat} (h : ∀ x ∈ acc, x.length ≤ 2 ∧ x ≠ [46, 46]) (hn : n.length ≤ 2) : ∀ x ∈ nstep acc n, x.length ≤ 2 ∧ x ≠ [46, 46] := by
  unfold nstep
  split
  · exact h
  · split
    · exact fun x hx => h x (List.dropLast_subset _ hx)
    · rename_i h2
      intro x hx
      rcases List.mem_append.mp hx with hx | hx
      · exact h x hx
      · rw [List.mem_singleton.mp hx]; exact ⟨hn, h2⟩
theorem nstep_len (acc : List (List Nat)) (n : List Nat) : (nstep acc n).length ≤ acc.length + 1 := by
  unfold nstep
  split
  · omega
  · split
    · rw [List.length_dropLast]; omega
    · simp
def cut (names : List (List Nat)) : List (List Nat) := if names = [] then [[]] else names
theorem cut_glue (names : List (List Nat)) : glue [47] (cut names) = glue [47] names := by
  unfold cut; split
  · rename_i h; subst h; rfl
  · rfl
theorem cut_norm (names : List (List Nat)) : (cut names).foldl nstep [] = norm names := by
  unfold cut; split
  · rename_i h; subst h; rfl
  · rfl
theorem spec_normpath {names : List (List Nat)} {t : Tok} (G : Gl hd.heap_1 w s.heap) (ok : Ok 5 A) (hg : g.le s.heap.get?) (hn : ∀ n ∈ names, Nm n) (hsz : names.length ≤ 100) (R : Ret s g (sd (pathOf (norm names))) Q) :
    wpAny (model prog w) A (call (.ref 146) [.str (S (pathOf names)) t]) Q E s := by
  refine call_fz g [("path", .str (S (pathOf names)) t)] [("path", sd (pathOf names))] G hg (.cons (.s _ _) .nil) (by k_is) (by k_is) ok.room (BindsTo.of_eq rfl) (locs rfl) (by simp only [List.map_cons, List.map_nil]; decide) ?_ rfl rfl rfl (by decide)
  intro h₁ tk G X
  have hgl := glue_len (xs := names) fun x hx => (hn x hx).len
  walk_at "zz"
  refine ⟨⟨_, _, _, _, _, _, X⟩, ?_⟩
  refine spec_fspath (X.gl G) (Ok.le (Ok.deeper ok) (by decide)) X.sub (zretL X fun v g' h' tk le X hv => ?_)
  walk_at "un"
  walk_at "zz"
  refine IsiPair.str_bytes ?_
  walk_at "zz"
  refine ite_f (by decide) ?_
  walk_at "zz"
  refine ite_f (by simp [pathOf]) ?_
  walk_at "zz"
  rename Fz _ _ _ _ _ _ _ _ => X
  refine ⟨⟨_, _, _, _, _, _, X⟩, ?_⟩
  refine spec_splitroot (x := glue [47] names) (X.gl G) (Ok.le (Ok.deeper ok) (by decide)) X.sub (glue_head fun x hx => ⟨(hn x hx).ne, (hn x hx).sl⟩) (by omega) (zretL X fun v g' h' tk le X hv => ?_)
  walk_at "un"
  refine zassignT ok.hd X (by walk_at "has") (by with_unfolding_all rfl) (by with_unfolding_all rfl) fun vs g' h' hvs le X => ?_
  obtain ⟨v1, ws, rfl, hv1, hws⟩ := hvs.uncons
  obtain ⟨v2, ws, rfl, hv2, hws⟩ := hws.uncons
  obtain ⟨v3, ws, rfl, hv3, hws⟩ := hws.uncons
  cases hws.unnil
  refine aio_cons (wpAny_assign_Name ?_)
  walk_at "zz"
  refine aio_cons (wpAny_assign_Name ?_)
  walk_at "zz"
  refine aio_cons (wpAny_assign_Name ?_)
  walk_at "zz"
  refine aio_nil ?_
  walk_at "zz"
  have hcut : ∀ p ∈ cut names, 47 ∉ p ∧ p.length ≤ 2 ∧ p ≠ [46] := by
    unfold cut; split
    · intro p hp; rw [List.mem_singleton.mp hp]; exact ⟨(fun h => nomatch h), by decide, (fun h => nomatch h)⟩
    · exact fun p hp => ⟨(hn p hp).sl, (hn p hp).len, (hn p hp).dot⟩
  have hcl : (cut names).length ≤ 101 := by
    unfold cut; split
    · decide
    · omega
  rename Fz _ _ _ _ _ _ _ _ => X
  have hcne : cut names ≠ [] := by
    unfold cut; split
    · exact fun h => nomatch h
    · assumption
  refine zsplitE (cut_glue names) X hcne (fun p hp => (hcut p hp).1) (by omega) fun a g' h' k le X hv => ?_
  walk_at "zz"
  rename Fz _ _ _ _ _ _ _ _ => X
  refine znewListM X .nil ?_
  intro q h2 X
  walk_at "zz"
  rename Fz _ _ _ _ _ _ _ _ => X
  refine zfor (σ := List (List Nat)) (fun c => [(q, .lst (c.map sd))]) (fun c => [("new_comps", .r q), ("initial_slashes", sd [47]), ("sep", sd [47]), ("dot", sd [46]), ("dotdot", sd [46, 46])]) (fun i c => c = ((cut names).take i).foldl nstep [] ∧ c.length ≤ i ∧ ∀ x ∈ c, x.length ≤ 2 ∧ x ≠ [46, 46]) (fun _ => False) [] X (srcList ok.hd X.sub (by walk_at "has")) rfl (by walk_at "lk") ⟨rfl, Nat.le_refl _, fun _ h => nomatch h⟩ ?_ ?_
  · rintro i d c g' fx' s₁ hd ⟨hc, hcl2, hc3⟩ le X ⟨h2, tk2, rfl⟩
    obtain ⟨n, hni, rfl⟩ := mapAt hd
    have hi : i < (cut names).length := (List.getElem?_eq_some_iff.mp hni).1
    obtain ⟨hn1, hn2, hn3⟩ := hcut n (List.mem_of_getElem? hni)
    have e : ((cut names).take (i + 1)).foldl nstep [] = nstep c n := by
      rw [take_succ_of hni, List.foldl_append, ← hc]; rfl
    have inv := nstep_inv hc3 hn2
    have hlen := nstep_len c n
    walk_at "zz"
    by_cases hne : n = []
    · refine ite_t (by rw [hne]; rfl) ?_
      refine ite_t rfl ?_
      walk_at "zz"
      have e2 : nstep c n = c := by unfold nstep; rw [if_pos hne]
      rw [e2] at e inv
      exact turnC c X (by walk_at "le") rfl (by walk_at "lk") ⟨_, _, rfl⟩ ⟨e.symm, by omega, inv⟩
    refine ite_f (by simp [hne]) ?_
    walk_at "zz"
    refine ite_f (by simp [hn3]) ?_
    walk_at "zz"
    refine ite_f (by decide) ?_
    walk_at "zz"
    by_cases hdd : n = [46, 46]
    · refine ite_f (by simp [hdd]) ?_
      walk_at "zz"
      refine ite_f (by decide) ?_
      refine ite_f (by decide) ?_
      walk_at "zz"
      have e2 : nstep c n = c.dropLast := by unfold nstep; rw [if_neg hne, if_pos hdd]
      rw [e2] at e inv hlen
      refine ztruthyM X (.head _) (by simp; omega) ?_
      rcases List.eq_nil_or_concat c with hc0 | ⟨c', l, hc0⟩
      · refine ite_f (by rw [hc0]; decide) ?_
        refine ite_f (by decide) ?_
        walk_at "zz"
        refine ite_f (by decide) ?_
        walk_at "zz"
        refine ztruthyM X (.head _) (by simp; omega) ?_
        refine ite_f (by rw [hc0]; decide) ?_
        walk_at "zz"
        refine turnN [] X (by walk_at "le") (by rw [hc0]) (by walk_at "lk") ⟨_, _, rfl⟩ ⟨?_, Nat.zero_le _, fun _ h => nomatch h⟩
        rw [e, hc0]; rfl
      · have hl : l ≠ [46, 46] := (hc3 l (by rw [hc0]; simp)).2
        rw [List.concat_eq_append] at hc0
        have htr : (!(List.map sd c).isEmpty) = true := by rw [hc0]; simp
        refine ite_t htr ?_
        walk_at "zz"
        refine zlastM (d := sd l) X (.head _) (by rw [hc0]; simp) fun v hv => ?_
        walk_at "un"
        walk_at "zz"
        refine ite_f (by simp [hl]) ?_
        refine ite_f (by decide) ?_
        walk_at "zz"
        refine ite_f (by decide) ?_
        walk_at "zz"
        refine ztruthyM X (.head _) (by simp; omega) ?_
        refine ite_t htr ?_
        walk_at "zz"
        refine zgmPop X (.head _) ?_
        have X' := X
        rw [hc0, List.map_append] at X'
        refine zpop (ds := c'.map sd) (d := sd l) X' (.head _) (by rw [hc0] at hcl2; simp at hcl2 ⊢; omega) rfl fun v h' hv X => ?_
        simp only [List.map_cons, List.map_nil, if_true] at X
        walk_at "un"
        walk_at "zz"
        have e3 : c.dropLast = c' := by rw [hc0]; simp
        rw [e3] at e inv hlen
        exact turnN c' X (by walk_at "le") rfl (by walk_at "lk") ⟨_, _, rfl⟩ ⟨e.symm, by omega, inv⟩
      all_goals (first | omega | decide)
    · refine ite_t (by simp [hdd]) ?_
      refine ite_t rfl ?_
      walk_at "zz"
      refine zgmAppend X (.head _) ?_
      walk_at "zz"
      have e2 : nstep c n = c ++ [n] := by unfold nstep; rw [if_neg hne, if_neg hdd]
      rw [e2] at e inv hlen
      refine zappend X (.head _) (by walk_at "has") (by simp; omega) rfl fun h' X => ?_
      simp only [List.map_cons, List.map_nil, if_true] at X
      walk_at "zz"
      exact turnN (c ++ [n]) X (by walk_at "le") (by rw [List.map_append]; rfl) (by walk_at "lk") ⟨_, _, rfl⟩ ⟨e.symm, by omega, inv⟩
    all_goals (first | omega | decide)
  · rintro c g' s₁ (⟨hc, hcl2, hc3⟩ | hB) le X ⟨h2, tk2, rfl⟩
    · rw [List.length_map, List.take_length, cut_norm] at hc
      subst hc
      walk_at "zz"
      rw [List.length_map] at hcl2
      have hs1 := sum_len2 fun x hx => (hc3 x hx).1
      have hs2 := glue_len fun x hx => (hc3 x hx).1
      rename Fz _ _ _ _ _ _ _ _ => X
      obtain ⟨g2, le2, hq, Y⟩ := X.freeze (.head _)
      refine zjoin Y hq (by simp; omega) fun t' k => ?_
      walk_at "zz"
      refine BoolOp_or ?_
      walk_at "zz"
      refine ite_t (by simp) ?_
      · exact R.done (by assumption) (.s _ _) rfl
      all_goals (simp only [List.length_append, List.length_cons, List.length_nil, List.length_map] at *; omega)
    · exact hB.elim
  all_goals (simp [pathOf]; omega)
end
section
variable {prog : Program} {w : World} {A : Around} {E : Value → Shared → Prop} {s : Shared} {g : GH} {Q : Value → Shared → Prop}

def joinT (a b : List Nat) : List Nat := if b.head? = some 47 ∨ a = [] then b else if a.getLast? = some 47 then a ++ b else a ++ (47 :: b)
theorem spec_join {a b : List Nat} {t u : Tok} (G : Gl hd.heap_1 w s.heap) (ok : Ok 4 A) (hg : g.le s.heap.get?) (hsz : a.length + b.length ≤ 1000) (R : Ret s g (sd (joinT a b)) Q) :
    wpAny (model prog w) A (call (.ref 132) [.str (S a) t, .str (S b) u]) Q E s := by
  refine call_fzV g [.str (S b) u] [sd b] (fun v => [("a", .str (S a) t), ("p", v)]) [("a", sd a), ("p", .t [sd b])] G hg (.cons (.s _ _) .nil) (fun g' v le hv => .cons (.s _ _) (.cons hv .nil)) (by k_is) (by k_is) ok.room rfl (by show 1 ≤ sizeLine; decide) (fun v => locs rfl) (fun v => by simp only [List.map_cons, List.map_nil]; decide) ?_ rfl rfl rfl (by decide)
  intro h₁ tk L g1 le1 G X
  walk_at "zz"
  refine ⟨⟨_, _, _, _, _, _, X⟩, ?_⟩
  refine spec_fspath (X.gl G) (Ok.le (Ok.deeper ok) (by decide)) X.sub (zretL X fun v g' h' tk le X hv => ?_)
  walk_at "un"
  walk_at "zz"
  rename Fz _ _ _ _ _ _ _ _ => X
  refine ⟨⟨_, _, _, _, _, _, X⟩, ?_⟩
  refine spec_getsep (X.gl G) (Ok.le (Ok.deeper ok) (by decide)) X.sub (zretL X fun v g' h' tk le X hv => ?_)
  walk_at "un"
  walk_at "zz"
  rename Fz _ _ _ _ _ _ _ _ => X
  refine zfor (σ := List Nat) (fun _ => []) (fun c => [("path", sd c), ("sep", sd [47])]) (fun i c => c = if i = 0 then a else joinT a b) (fun _ => False) a X (srcTuple ok.hd X.sub (by walk_at "has")) rfl (by walk_at "lk") rfl ?_ ?_
  · rintro i d c g' fx' s₁ hd rfl le X ⟨h2, tk2, rfl⟩
    obtain ⟨rfl, rfl⟩ : i = 0 ∧ d = sd b := by
      cases i with
      | zero => exact ⟨rfl, (Option.some.inj hd).symm⟩
      | succ i => cases hd
    rw [if_pos rfl] at X
    walk_at "zz"
    refine ⟨⟨_, _, _, _, _, _, X⟩, ?_⟩
    refine spec_fspath (X.gl G) (Ok.le (Ok.deeper ok) (by decide)) X.sub (zretL X fun v g' h' tk le X hv => ?_)
    walk_at "un"
    walk_at "zz"
    have fin : ∀ (y : List Nat), y = joinT a b → y = if 0 + 1 = 0 then a else joinT a b := fun y e => by rw [if_neg (by decide)]; exact e
    by_cases hs : b.head? = some 47
    · refine ite_t (by simp [hs]) ?_
      refine ite_t rfl ?_
      walk_at "zz"
      rename Fz _ _ _ _ _ _ _ _ => X
      exact turnN b X (by walk_at "le") rfl (by walk_at "lk") ⟨_, _, rfl⟩ (fin _ (by unfold joinT; rw [if_pos (.inl hs)]))
    refine ite_f (by simpa using hs) ?_
    walk_at "zz"
    by_cases ha : a = []
    · refine ite_t (by rw [ha]; rfl) ?_
      refine ite_t rfl ?_
      walk_at "zz"
      · rename Fz _ _ _ _ _ _ _ _ => X
        exact turnN b X (by walk_at "le") rfl (by walk_at "lk") ⟨_, _, rfl⟩ (fin _ (by unfold joinT; rw [if_pos (.inr ha)]))
      all_goals omega
    refine ite_f (by simp [ha]) ?_
    walk_at "zz"
    refine ite_f (by decide) ?_
    walk_at "zz"
    have hno : ¬ (b.head? = some 47 ∨ a = []) := by rintro (h | h); exact hs h; exact ha h
    by_cases he : a.getLast? = some 47
    · refine ite_t (by simp [he]) ?_
      walk_at "zz"
      · rename Fz _ _ _ _ _ _ _ _ => X
        exact turnN (a ++ b) X (by walk_at "le") rfl (by walk_at "lk") ⟨_, _, rfl⟩ (fin _ (by unfold joinT; rw [if_neg hno, if_pos he]))
      all_goals (first | omega | (simp; omega))
    · refine ite_f (by simpa using he) ?_
      walk_at "zz"
      · rename Fz _ _ _ _ _ _ _ _ => X
        exact turnN (a ++ ([47] ++ b)) X (by walk_at "le") rfl (by walk_at "lk") ⟨_, _, rfl⟩ (fin _ (by unfold joinT; rw [if_neg hno, if_neg he]; rfl))
      all_goals (first | omega | (simp; omega))
    all_goals (first | omega | (simp; omega))
  · rintro c g' s₁ (rfl | hB) le X ⟨h2, tk2, rfl⟩
    · rw [show (if [sd b].length = 0 then a else joinT a b) = joinT a b from rfl] at X
      walk_at "zz"
      exact R.done X (.s _ _) rfl
    · exact hB.elim
end
section
variable {prog : Program} {w : World} {A : Around} {E : Value → Shared → Prop} {s : Shared} {g : GH} {Q : Value → Shared → Prop}

theorem spec_buffer {b : Array UInt8} {t : Tok} (G : Gl hd.heap_1 w s.heap) (ok : Ok 2 A) (hg : g.le s.heap.get?) (R : Ret s g (.by b) Q) :
    wpAny (model prog w) A (call (.ref 182) [.bytes b t]) Q E s := by
  refine call_fz g [("data", .bytes b t)] [("data", .by b)] G hg (.cons (.by _ _) .nil) (by k_is) (by k_is) ok.room (BindsTo.of_eq rfl) (locs rfl) (by simp only [List.map_cons, List.map_nil]; decide) ?_ rfl rfl rfl (by decide)
  intro h₁ tk G X
  walk_at "zz"
  refine ztypeB ?_
  walk_at "zz"
  refine wpAny_is_self (by decide) ?_
  walk_at "zz"
  refine ite_t rfl ?_
  walk_at "zz"
  exact R.done (by assumption) (.by _ _) rfl
theorem spec_truth (G : Gl hd.heap_1 w s.heap) (ok : Ok 2 A) (hg : g.le s.heap.get?) (R : Ret s g (.bo false) Q) :
    wpAny (model prog w) A (call (.ref 189) [.bool false]) Q E s := by
  refine call_fz g [("x", .bool false)] [("x", .bo false)] G hg (.cons (.bo _) .nil) (by k_is) (by k_is) ok.room (BindsTo.of_eq rfl) (locs rfl) (by simp only [List.map_cons, List.map_nil]; decide) ?_ rfl rfl rfl (by decide)
  intro h₁ tk G X
  walk_at "zz"
  refine call_type_of (Tx := "bool") rfl (by decide) ?_
  walk_at "zz"
  refine wpAny_is_plain (by decide) ?_
  walk_at "zz"
  refine ite_f (by decide) ?_
  walk_at "zz"
  refine wpAny_is_self (by decide) ?_
  walk_at "zz"
  refine ite_t rfl ?_
  refine ite_t rfl ?_
  walk_at "zz"
  refine ite_f (by decide) ?_
  walk_at "zz"
  exact R.done (by assumption) (.bo _) rfl

def b64c (n : Nat) : Nat := if n < 26 then 65 + n else if n < 52 then 71 + n else if n < 62 then n - 4 else if n = 62 then 43 else 47
def emit (lc : Nat) : Nat → List Nat → List Nat × Nat
  | lb, out => if h : 6 ≤ lb then emit lc (lb - 6) (out ++ [b64c (lc / 2 ^ (lb - 6) % 64)]) else (out, lb)
termination_by lb => lb
def stepB (st : List Nat × Nat × Nat) (b : Nat) : List Nat × Nat × Nat :=
  ((emit ((st.2.2 * 256 + b) % 65536) (st.2.1 + 8) st.1).1, (emit ((st.2.2 * 256 + b) % 65536) (st.2.1 + 8) st.1).2, (st.2.2 * 256 + b) % 65536)
def finB (st : List Nat × Nat × Nat) : List Nat :=
  if st.2.1 = 2 then st.1 ++ [b64c (st.2.2 % 4 * 16), 61, 61] else if st.2.1 = 4 then st.1 ++ [b64c (st.2.2 % 16 * 4), 61] else st.1
def b64 (os : List Nat) : List Nat := finB (os.foldl stepB ([], 0, 0))
theorem emit_lt {lc lb : Nat} {out : List Nat} (h : ¬ 6 ≤ lb) : emit lc lb out = (out, lb) := by rw [emit, dif_neg h]
theorem emit_ge {lc lb : Nat} {out : List Nat} (h : 6 ≤ lb) : emit lc lb out = emit lc (lb - 6) (out ++ [b64c (lc / 2 ^ (lb - 6) % 64)]) := by rw [emit, dif_pos h]
theorem emit_inv (lc : Nat) : ∀ (n lb : Nat) (out : List Nat), lb ≤ n → (emit lc lb out).2 < 6 ∧ (emit lc lb out).1.length * 6 + (emit lc lb out).2 = out.length * 6 + lb
  | 0, lb, out, h => by rw [emit_lt (by omega)]; exact ⟨by show lb < 6; omega, rfl⟩
  | n + 1, lb, out, h => by
    by_cases h6 : 6 ≤ lb
    · rw [emit_ge h6]
      obtain ⟨h1, h2⟩ := emit_inv lc n (lb - 6) (out ++ [b64c (lc / 2 ^ (lb - 6) % 64)]) (by omega)
      refine ⟨h1, h2.trans ?_⟩
      rw [List.length_append]
      simp only [List.length_cons, List.length_nil]
      omega
    · rw [emit_lt h6]; exact ⟨by show lb < 6; omega, rfl⟩
theorem b64_at : ∀ n : Fin 64, ([65, 66, 67, 68, 69, 70, 71, 72, 73, 74, 75, 76, 77, 78, 79, 80, 81, 82, 83, 84, 85, 86, 87, 88, 89, 90, 97, 98, 99, 100, 101, 102, 103, 104, 105, 106, 107, 108, 109, 110, 111, 112, 113, 114, 115, 116, 117, 118, 119, 120, 121, 122, 48, 49, 50, 51, 52, 53, 54, 55, 56, 57, 43, 47] : List UInt8)[n.val]? = some (b64c n.val).toUInt8 := by decide +kernel
theorem b64c_lt (n : Nat) : b64c n < 256 := by
  unfold b64c
  split
  · omega
  · split
    · omega
    · split
      · omega
      · split <;> decide
theorem b64_item {n : Nat} (hn : n < 64) : ([65, 66, 67, 68, 69, 70, 71, 72, 73, 74, 75, 76, 77, 78, 79, 80, 81, 82, 83, 84, 85, 86, 87, 88, 89, 90, 97, 98, 99, 100, 101, 102, 103, 104, 105, 106, 107, 108, 109, 110, 111, 112, 113, 114, 115, 116, 117, 118, 119, 120, 121, 122, 48, 49, 50, 51, 52, 53, 54, 55, 56, 57, 43, 47] : List UInt8)[((n : Nat) : Int).toNat]? = some (b64c n).toUInt8 := b64_at ⟨n, hn⟩
theorem u8_nat {n : Nat} (h : n < 256) : ((n.toUInt8).toNat : Int) = (n : Int) := by
  have : n.toUInt8.toNat = n % 256 := rfl
  rw [this, Nat.mod_eq_of_lt h]
theorem spec_b2a {os : List Nat} {t : Tok} (G : Gl hd.heap_1 w s.heap) (ok : Ok 3 A) (hg : g.le s.heap.get?) (ho : ∀ o ∈ os, o < 256) (hl : os.length ≤ 100) (R : Ret s g (.by ((b64 os).map (·.toUInt8)).toArray) Q) :
    wpAny (model prog w) A (call (.ref 197) [.bytes (os.map (·.toUInt8)).toArray t] [("newline", .bool false)]) Q E s := by
  refine call_fz g [("data", .bytes (os.map (·.toUInt8)).toArray t), ("newline", .bool false)] [("data", .by (os.map (·.toUInt8)).toArray), ("newline", .bo false)] G hg (.cons (.by _ _) (.cons (.bo _) .nil)) (by k_is) (by k_is) ok.room (BindsTo.of_eq rfl) (locs rfl) (by simp only [List.map_cons, List.map_nil]; decide) ?_ rfl rfl rfl (by decide)
  intro h₁ tk G X
  walk_at "zz"
  refine ⟨⟨_, _, _, _, _, _, X⟩, ?_⟩
  refine spec_buffer (X.gl G) (Ok.le (Ok.deeper ok) (by decide)) X.sub (zretL X fun v g' h' tk le X hv => ?_)
  walk_at "un"
  walk_at "zz"
  rename Fz _ _ _ _ _ _ _ _ => X
  refine ⟨⟨_, _, _, _, _, _, X⟩, ?_⟩
  refine spec_truth (X.gl G) (Ok.le (Ok.deeper ok) (by decide)) X.sub (zretL X fun v g' h' tk le X hv => ?_)
  walk_at "un"
  walk_at "zz"
  rename Fz _ _ _ _ _ _ _ _ => X
  refine znewListM X .nil ?_
  intro q h2 X
  walk_at "zz"
  rename Fz _ _ _ _ _ _ _ _ => X
  refine zfor (σ := List Nat × Nat × Nat) (fun c => [(q, .lst (c.1.map fun (n : Nat) => D.i n))]) (fun c => [("leftbits", .i c.2.1), ("leftchar", .i c.2.2), ("out", .r q), ("newline", .bo false)]) (fun i c => c = (os.take i).foldl stepB ([], 0, 0) ∧ c.2.1 < 6 ∧ c.1.length * 6 + c.2.1 = 8 * i ∧ c.2.2 < 65536 ∧ ∀ x ∈ c.1, x < 256) (fun _ => False) ([], 0, 0) X (srcBytes ok.hd) rfl (by walk_at "lk") ⟨rfl, by decide, rfl, by decide, fun _ h => nomatch h⟩ ?_ ?_
  · rintro i d ⟨out, lb, lc⟩ g' fx' s₁ hd ⟨hc, hlb, hlen, hlc, hout⟩ le X ⟨h2, tk2, rfl⟩
    obtain ⟨c8, hc8, rfl⟩ := mapAt hd
    have hos : ∃ o, os[i]? = some o ∧ c8 = o.toUInt8 := by
      have h' : (os.map (·.toUInt8))[i]? = some c8 := by simpa using hc8
      rw [List.getElem?_map] at h'
      obtain ⟨o, ho', e⟩ := Option.map_eq_some_iff.mp h'
      exact ⟨o, ho', e.symm⟩
    obtain ⟨o, hoi, rfl⟩ := hos
    have hi : i < os.length := (List.getElem?_eq_some_iff.mp hoi).1
    have ho2 := ho o (List.mem_of_getElem? hoi)
    rw [u8_nat ho2] at X
    have e : (os.take (i + 1)).foldl stepB ([], 0, 0) = stepB (out, lb, lc) o := by
      rw [take_succ_of hoi, List.foldl_append, ← hc]; rfl
    dsimp only at X hlb hlen hlc hout
    walk_at "zz"
    refine zshl lc 8 rfl rfl (by omega) (by decide) fun _ _ => ?_
    walk_at "zz"
    refine zor8 lc o rfl rfl ho2 fun _ _ => ?_
    walk_at "zz"
    refine zand16 (lc * 256 + o) rfl fun _ _ => ?_
    walk_at "zz"
    rename Fz _ _ _ _ _ _ _ _ => X
    have hlc' : (lc * 256 + o) % 65536 < 65536 := Nat.mod_lt _ (by decide)
    obtain ⟨ie1, ie2⟩ := emit_inv ((lc * 256 + o) % 65536) (lb + 8) (lb + 8) out (Nat.le_refl _)
    have hs : stepB (out, lb, lc) o = ((emit ((lc * 256 + o) % 65536) (lb + 8) out).1, (emit ((lc * 256 + o) % 65536) (lb + 8) out).2, (lc * 256 + o) % 65536) := rfl
    generalize (lc * 256 + o) % 65536 = nc at *
    have eb : ((lb : Int) + 8) = ((lb + 8 : Nat) : Int) := by omega
    rw [eb] at X
    refine zWhile (σ := List Nat × Nat) (fun c => [(q, .lst (c.1.map fun (n : Nat) => D.i n))]) (fun c => [("leftbits", .i c.2), ("leftchar", .i nc), ("out", .r q), ("newline", .bo false)]) (fun n c => c.2 = n ∧ emit nc c.2 c.1 = emit nc (lb + 8) out ∧ c.1.length ≤ 1000 ∧ ∀ x ∈ c.1, x < 256) (lb + 8) (out, lb + 8) X rfl (by walk_at "lk") ⟨rfl, rfl, by show out.length ≤ 1000; omega, hout⟩ ?_
    rintro n ⟨out2, lb2⟩ g2 s₂ ⟨rfl, he, hl2, ho3⟩ le2 X ⟨h3, tk3, rfl⟩
    dsimp only at X he hl2 ho3
    walk_at "zz"
    by_cases h6 : 6 ≤ lb2
    · refine ite_t (by simp; omega) ?_
      walk_at "zz"
      refine zgmAppend X (.head _) ?_
      walk_at "zz"
      refine zshr nc (lb2 - 6) rfl (by omega) fun _ _ => ?_
      walk_at "zz"
      refine zand6 (nc / 2 ^ (lb2 - 6)) rfl fun _ _ => ?_
      refine zitemB (by omega) (b64_item (Nat.mod_lt _ (by decide))) (by decide) fun _ _ => ?_
      walk_at "zz"
      rw [u8_nat (b64c_lt _)]
      refine zappend X (.head _) (.i _ _) (by simp; omega) rfl fun h' X => ?_
      simp only [List.map_cons, List.map_nil, if_true] at X
      walk_at "zz"
      rename Fz _ _ _ _ _ _ _ _ => X
      have eb2 : ((lb2 : Int) - 6) = ((lb2 - 6 : Nat) : Int) := by omega
      rw [eb2] at X
      rw [emit_ge h6] at he
      refine wturnN (lb2 - 6) (out2 ++ [b64c (nc / 2 ^ (lb2 - 6) % 64)], lb2 - 6) X (by walk_at "le") (by omega) (by dsimp only; rw [List.map_append]; rfl) (by walk_at "lk") ⟨_, _, rfl⟩ ⟨rfl, he, ?_, fun x hx => ?_⟩
      · obtain ⟨k1, k2⟩ := emit_inv nc (lb2 - 6) (lb2 - 6) (out2 ++ [b64c (nc / 2 ^ (lb2 - 6) % 64)]) (Nat.le_refl _)
        show (out2 ++ [b64c (nc / 2 ^ (lb2 - 6) % 64)]).length ≤ 1000
        rw [he] at k2
        omega
      · rcases List.mem_append.mp hx with h | h
        · exact ho3 x h
        · rw [List.mem_singleton.mp h]; exact b64c_lt _
    · refine ite_f (by simp; omega) ?_
      walk_at "zz"
      rw [emit_lt h6] at he
      rw [← he] at ie1 ie2 hs
      dsimp only at ie1 ie2 hs
      refine turnN (out2, lb2, nc) X (by walk_at "le") rfl (by walk_at "lk") ⟨_, _, rfl⟩ ⟨?_, ie1, ?_, hlc', ho3⟩
      · rw [e, hs]
      · show out2.length * 6 + lb2 = 8 * (i + 1); omega
  · rintro ⟨out, lb, lc⟩ g' s₁ (⟨hc, hlb, hlen, hlc, hout⟩ | hB) le X ⟨h2, tk2, rfl⟩
    · have hc' : (out, lb, lc) = os.foldl stepB ([], 0, 0) := by
        rw [hc, List.length_map]
        congr 1
        rw [List.take_of_length_le]; simp
      have hb : b64 os = finB (out, lb, lc) := by unfold b64; rw [← hc']
      dsimp only at X hlb hlen hlc hout
      have hlen2 : out.length ≤ 200 := by
        simp at hlen; omega
      try dsimp only
      walk_at "z"
      refine wpAny_mono (Q := fun f s' => f = .next ∧ ∃ h' tk', s' = { s with heap := h', toks := tk' } ∧ Fz s.heap g s.heap.get? g' [(q, .lst ((finB (out, lb, lc)).map fun (n : Nat) => D.i n))] [("leftbits", .i lb), ("leftchar", .i lc), ("out", .r q), ("newline", .bo false)] s.heap.objs.size h') (E := fun _ _ => False) ?_ (fun f s' hf => ?_) fun _ _ e => e.elim
      · walk_at "zz"
        by_cases h2 : lb = 2
        · refine ite_t (by simp; omega) ?_
          have ef : finB (out, lb, lc) = out ++ [b64c (lc % 4 * 16)] ++ [61] ++ [61] := by unfold finB; rw [if_pos h2]; simp
          walk_at "zz"
          refine zgmAppend X (.head _) ?_
          walk_at "zz"
          refine zand2 lc rfl fun _ _ => ?_
          walk_at "zz"
          have hd4 := Nat.mod_lt lc (show 0 < 4 by decide)
          refine zshl (lc % 4) 4 rfl rfl (by omega) (by decide) fun _ _ => ?_
          refine zitemB (by omega) (b64_item (n := lc % 4 * 2 ^ 4) (by omega)) (by decide) fun _ _ => ?_
          walk_at "zz"
          rw [u8_nat (b64c_lt _)]
          refine zappend X (.head _) (.i _ _) (by simp; omega) rfl fun h' X => ?_
          simp only [List.map_cons, List.map_nil, if_true] at X
          walk_at "zz"
          refine zgmAppend X (.head _) ?_
          walk_at "zz"
          refine zappend X (.head _) (.i _ _) (by simp; omega) rfl fun h' X => ?_
          simp only [List.map_cons, List.map_nil, if_true] at X
          walk_at "zz"
          refine zgmAppend X (.head _) ?_
          walk_at "zz"
          refine zappend X (.head _) (.i _ _) (by simp; omega) rfl fun h' X => ?_
          simp only [List.map_cons, List.map_nil, if_true] at X
          walk_at "zz"
          refine ⟨rfl, _, _, rfl, ?_⟩
          rw [ef, List.map_append, List.map_append, List.map_append]
          exact X
        · refine ite_f (by simp; omega) ?_
          walk_at "zz"
          by_cases h4 : lb = 4
          · refine ite_t (by simp; omega) ?_
            have ef : finB (out, lb, lc) = out ++ [b64c (lc % 16 * 4)] ++ [61] := by unfold finB; rw [if_neg h2, if_pos h4]; simp
            walk_at "zz"
            refine zgmAppend X (.head _) ?_
            walk_at "zz"
            refine zand4 lc rfl fun _ _ => ?_
            walk_at "zz"
            have hd4 := Nat.mod_lt lc (show 0 < 16 by decide)
            refine zshl (lc % 16) 2 rfl rfl (by omega) (by decide) fun _ _ => ?_
            refine zitemB (by omega) (b64_item (n := lc % 16 * 2 ^ 2) (by omega)) (by decide) fun _ _ => ?_
            walk_at "zz"
            rw [u8_nat (b64c_lt _)]
            refine zappend X (.head _) (.i _ _) (by simp; omega) rfl fun h' X => ?_
            simp only [List.map_cons, List.map_nil, if_true] at X
            walk_at "zz"
            refine zgmAppend X (.head _) ?_
            walk_at "zz"
            refine zappend X (.head _) (.i _ _) (by simp; omega) rfl fun h' X => ?_
            simp only [List.map_cons, List.map_nil, if_true] at X
            walk_at "zz"
            refine ⟨rfl, _, _, rfl, ?_⟩
            rw [ef, List.map_append, List.map_append]
            exact X
          · refine ite_f (by simp; omega) ?_
            have ef : finB (out, lb, lc) = out := by unfold finB; rw [if_neg h2, if_neg h4]
            walk_at "zz"
            refine ⟨rfl, _, _, rfl, ?_⟩
            rw [ef]
            exact X
      obtain ⟨rfl, h', tk', rfl, X⟩ := hf
      have hfin : (finB (out, lb, lc)).length ≤ 300 ∧ ∀ x ∈ finB (out, lb, lc), x < 256 := by
        unfold finB
        split
        · refine ⟨by simp; omega, fun x hx => ?_⟩
          rcases List.mem_append.mp hx with h | h
          · exact hout x h
          · simp only [List.mem_cons, List.not_mem_nil, or_false] at h
            rcases h with rfl | rfl | rfl
            · exact b64c_lt _
            · decide
            · decide
        · split
          · refine ⟨by simp; omega, fun x hx => ?_⟩
            rcases List.mem_append.mp hx with h | h
            · exact hout x h
            · simp only [List.mem_cons, List.not_mem_nil, or_false] at h
              rcases h with rfl | rfl
              · exact b64c_lt _
              · decide
          · exact ⟨by show out.length ≤ 300; omega, hout⟩
      rw [← hb] at X hfin
      walk_at "zz"
      refine ite_f (by decide) ?_
      walk_at "zz"
      obtain ⟨g2, le2, hq, Y⟩ := X.freeze (.head _)
      refine zbytes ok.hd Y hq hfin.2 (by omega) fun t g3 h3 k le3 Z => ?_
      walk_at "zz"
      exact R.done Z (.by _ _) rfl
    · exact hB.elim
end
section
variable {prog : Program} {w : World} {A : Around} {E : Value → Shared → Prop} {s : Shared} {g : GH} {Q : Value → Shared → Prop}

theorem ite_wp {α : Type} {M : Model} {A : Around} {a b : Sem α} {Q : α → Shared → Prop} {E : Value → Shared → Prop} {s : Shared} (h : wpAny M A b Q E s) : wpAny M A (if false = true then a else b) Q E s := h
def u8s (l : List Nat) : Array UInt8 := (l.map (·.toUInt8)).toArray
theorem mk_size2 : (mkTable #[43, 47] #[42, 63]).size = 256 := by decide +kernel
theorem mk_size : (mkTable #[43, 47] #[42, 63]).size ≤ sizeLine := by rw [mk_size2]; decide
theorem stub_bytes : Manifest.isStub "bytes" = false := by decide +kernel
theorem meta_bytes : typeOf (.type "bytes") = pure (.type "type") := by kernel_rfl
theorem b64_len {os : List Nat} (ho : ∀ o ∈ os, o < 256) (hl : os.length ≤ 100) : (b64 os).length ≤ 1000 := by
  have key : ∀ (l : List Nat) (st : List Nat × Nat × Nat), st.2.1 < 6 → ((l.foldl stepB st).1.length * 6 + (l.foldl stepB st).2.1 = st.1.length * 6 + st.2.1 + 8 * l.length) := by
    intro l
    induction l with
    | nil => intro st _; rfl
    | cons b r ih =>
      intro st h
      obtain ⟨h1, h2⟩ := emit_inv ((st.2.2 * 256 + b) % 65536) (st.2.1 + 8) (st.2.1 + 8) st.1 (Nat.le_refl _)
      have := ih (stepB st b) h1
      rw [List.foldl_cons, this, List.length_cons]
      show (emit _ _ _).1.length * 6 + (emit _ _ _).2 + 8 * r.length = _
      omega
  have := key os ([], 0, 0) (by decide)
  unfold b64 finB
  simp only [List.length_nil] at this
  split
  · rw [List.length_append]; simp; omega
  · split
    · rw [List.length_append]; simp; omega
    · omega
theorem spec_b64encode {os : List Nat} {t u : Tok} (G : Gl hd.heap_1 w s.heap) (ok : Ok 4 A) (hg : g.le s.heap.get?) (ho : ∀ o ∈ os, o < 256) (hl : os.length ≤ 100) (R : Ret s g (.by (trans (u8s (b64 os)) (mkTable #[43, 47] #[42, 63]))) Q) :
    wpAny (model prog w) A (call (.ref 205) [.bytes (u8s os) t, .bytes #[42, 63] u]) Q E s := by
  refine call_fz g [("s", .bytes (u8s os) t), ("altchars", .bytes #[42, 63] u)] [("s", .by (u8s os)), ("altchars", .by #[42, 63])] G hg (.cons (.by _ _) (.cons (.by _ _) .nil)) (by k_is) (by k_is) ok.room (BindsTo.of_defaults (T := 198) rfl (G.k 198 _ (by k_is)) rfl rfl rfl) (locs rfl) (by simp only [List.map_cons, List.map_nil]; decide) ?_ rfl rfl rfl (by decide)
  intro h₁ tk G X
  have hz : (u8s (b64 os)).size ≤ sizeLine := by
    unfold u8s
    simp only [List.size_toArray, List.length_map]
    exact Nat.le_trans (b64_len ho hl) (by decide)
  walk_at "zz"
  refine wpAny_Call_Name_kw ?_
  walk_at "zz"
  refine callWith_KW G (by k_is) rfl ?_
  refine spliced_cons ?_
  refine ite_wp ?_
  walk_at "zz"
  refine spliced_nil ?_
  refine wpAny_evalAll_cons ?_
  walk_at "zz"
  refine wpAny_bind ?_
  walk_at "zz"
  refine wpAny_bind (wpAny_standAt (wpAny_pure ?_))
  refine wpAny_evalAll_nil ?_
  refine ⟨⟨_, _, _, _, _, _, X⟩, ?_⟩
  refine spec_b2a (X.gl G) (Ok.deeper ok) X.sub ho hl (zretL X fun v g' h' tk le X hv => ?_)
  walk_at "un"
  walk_at "zz"
  refine isNot_none ?_
  walk_at "zz"
  refine ite_t rfl ?_
  walk_at "zz"
  refine wpAny_Assert_holds ?_
  walk_at "zz"
  have hl2 : (#[42, 63] : Array UInt8).size ≤ 1099511627776 := by decide
  with_reducible refine len_bytes hl2 ?_
  walk_at "zz"
  refine ⟨rfl, ?_⟩
  walk_at "zz"
  with_reducible refine zgmTranslate ?_
  walk_at "zz"
  rename Fz _ _ _ _ _ _ _ _ => X
  obtain ⟨m, F, _⟩ := X.fr
  refine method_type F G.k meta_bytes stub_bytes (by k_is) (by decide +kernel) ?_
  walk_at "zz"
  refine zmaketrans rfl mk_size fun _ _ => ?_
  walk_at "zz"
  refine ztranslate mk_size2 hz fun _ _ => ?_
  walk_at "zz"
  exact R.done X (.by _ _) rfl
end
section
variable {prog : Program} {w : World} {A : Around} {E : Value → Shared → Prop} {s : Shared} {g : GH} {Q : Value → Shared → Prop}

def specials : List Int := [40, 41, 91, 93, 123, 125, 63, 42, 43, 45, 124, 94, 36, 92, 46, 38, 126, 35, 32, 9, 10, 13, 11, 12]
theorem spec_escape {c : Nat} {t : Tok} (G : Gl hd.heap_1 w s.heap) (ok : Ok 2 A) (hg : g.le s.heap.get?) (hc : c < 128) (hs : ((c : Nat) : Int) ∉ specials) (R : Ret s g (sd [c]) Q) :
    wpAny (model prog w) A (call (.ref 168) [.str (S [c]) t]) Q E s := by
  refine call_fz g [("pattern", .str (S [c]) t)] [("pattern", sd [c])] G hg (.cons (.s _ _) .nil) (by k_is) (by k_is) ok.room (BindsTo.of_eq rfl) (locs rfl) (by simp only [List.map_cons, List.map_nil]; decide) ?_ rfl rfl rfl (by decide)
  intro h₁ tk G X
  walk_at "zz"
  refine IsiPair.str_str ?_
  walk_at "zz"
  refine ite_t rfl ?_
  walk_at "zz"
  with_reducible refine zgmTransS ?_
  walk_at "zz"
  have hob := (X.gl G).k 158 _ (by k_is)
  refine ztrans1 ok.hd hc (by decide) (mapOf_ints hob specials (by decide +kernel)) (findBy_none (ks := specials) (by decide +kernel) hs) fun t' h' k hk => ?_
  exact R.done (X.ext hk) (.s _ _) rfl
end
section
variable {prog : Program} {w : World} {A : Around} {E : Value → Shared → Prop} {s : Shared} {g : GH} {Q : Value → Shared → Prop}

def okSign (c : Nat) : Prop := c < 128 ∧ c ≠ 91 ∧ (c = 42 ∨ c = 63 ∨ ((c : Nat) : Int) ∉ specials)
def trStep (star : D) (acc : List D × Bool) (c : Nat) : List D × Bool :=
  if c = 42 then (if acc.2 then acc else (acc.1 ++ [star], true)) else if c = 63 then (acc.1 ++ [sd [46, 46]], false) else (acc.1 ++ [sd [c]], false)
def trParts (star : D) (cs : List Nat) : List D := (cs.foldl (trStep star) ([], false)).1
def TrInv (a : Addr) (st : List D × Bool) : Prop :=
  (st.2 = true → st.1.getLast? = some (.r a)) ∧ (st.2 = false → st.1 = [] ∨ ∃ x, st.1.getLast? = some (sd x))
theorem trInv0 (a : Addr) : TrInv a ([], false) := ⟨(fun h => nomatch h), fun _ => .inl rfl⟩
theorem trInv1 {a : Addr} {st : List D × Bool} (h : TrInv a st) (c : Nat) : TrInv a (trStep (.r a) st c) := by
  unfold trStep
  split
  · cases hb : st.2 with
    | true => simp only [if_true]; exact h
    | false => simp only [Bool.false_eq_true, if_false]; exact ⟨(fun _ => by simp), (fun h => nomatch h)⟩
  · split
    · exact ⟨(fun h => nomatch h), fun _ => .inr ⟨[46, 46], by simp⟩⟩
    · exact ⟨(fun h => nomatch h), fun _ => .inr ⟨[c], by simp⟩⟩
theorem trStep_len {st : List D × Bool} (s : D) (c : Nat) : (trStep s st c).1.length ≤ st.1.length + 1 := by
  unfold trStep
  split
  · split
    · omega
    · simp
  · split <;> simp
theorem spec_translate {cs : List Nat} {t u : Tok} {a : Addr} (G : Gl hd.heap_1 w s.heap) (ok : Ok 3 A) (hg : g.le s.heap.get?) (hcs : ∀ c ∈ cs, okSign c) (hl : cs.length ≤ 1000) (hst : ∃ o, g a = some o) (R : Ret s g (.l (trParts (.r a) cs)) Q) :
    wpAny (model prog w) A (call (.ref 175) [.str (S cs) t, .ref a, .str (S [46, 46]) u]) Q E s := by
  refine call_fz g [("pat", .str (S cs) t), ("STAR", .ref a), ("QUESTION_MARK", .str (S [46, 46]) u)] [("pat", sd cs), ("STAR", .r a), ("QUESTION_MARK", sd [46, 46])] G hg (.cons (.s _ _) (.cons (.r _) (.cons (.s _ _) .nil))) (by k_is) (by k_is) ok.room (BindsTo.of_eq rfl) (locs rfl) (by simp only [List.map_cons, List.map_nil]; decide) ?_ rfl rfl rfl (by decide)
  intro h₁ tk G X
  walk_at "zz"
  refine znewListM X .nil ?_
  intro q h2 X
  walk_at "zz"
  refine Attribute_Name_ ?_
  walk_at "zz"
  rename Fz _ _ _ _ _ _ _ _ => X
  refine zgetAppend X (.head _) fun b g3 h3 tk3 le3 X hgb => ?_
  walk_at "zz"
  refine Assign_Tuple_swapped (names := ["i", "n"]) ?_ (by with_unfolding_all rfl) (by with_unfolding_all rfl)
  walk_at "zz"
  refine PyProof.Rows.len_str (by rw [S_len]; omega) ?_
  walk_at "zz"
  rename Fz _ _ _ _ _ _ _ _ => X
  refine zunpack ok.hd X (by walk_at "has") rfl fun vs g' h' hvs le X => ?_
  obtain ⟨v1, ws, rfl, hv1, hws⟩ := hvs.uncons
  obtain ⟨v2, ws, rfl, hv2, hws⟩ := hws.uncons
  cases hws.unnil
  refine aio_cons (wpAny_bindName ?_)
  walk_at "zz"
  refine aio_cons (wpAny_bindName ?_)
  walk_at "zz"
  refine aio_nil ?_
  walk_at "zz"
  rename Fz _ _ _ _ _ _ _ _ => X
  refine zWhile (σ := (List D × Bool) × Nat) (fun c => [(q, .lst c.1.1)]) (fun c => [("i", .i c.2), ("n", .i cs.length), ("pat", sd cs), ("STAR", .r a), ("QUESTION_MARK", sd [46, 46]), ("add", .r b), ("res", .r q)])
    (fun n c => c.1 = (cs.take c.2).foldl (trStep (.r a)) ([], false) ∧ c.2 + n = cs.length ∧ TrInv a c.1 ∧ c.1.1.length ≤ c.2) cs.length (([], false), 0) X rfl (by rw [S_len] at *; walk_at "lk") ⟨rfl, Nat.zero_add _, trInv0 a, Nat.zero_le _⟩ ?_
  rintro n ⟨⟨acc, fl⟩, i⟩ g4 s₂ ⟨hacc, hin, hinv, hlen⟩ le2 X ⟨h5, tk5, rfl⟩
  dsimp only at X hacc hin hlen
  walk_at "zz"
  by_cases hlt : i < cs.length
  · refine ite_t (by simp; omega) ?_
    walk_at "zz"
    refine zitemS (x := cs) (c := cs[i]) (by omega) (by omega) (by simp [hlt]) ?_
    intro t' tk'
    walk_at "zz"
    have hi? : cs[i]? = some cs[i] := List.getElem?_eq_getElem hlt
    obtain ⟨hc1, hc2, hc3⟩ := hcs _ (List.getElem_mem hlt)
    have hstep : (cs.take (i + 1)).foldl (trStep (.r a)) ([], false) = trStep (.r a) (acc, fl) cs[i] := by
      rw [take_succ_of hi?, List.foldl_append, ← hacc]; rfl
    have hinv' := trInv1 hinv cs[i]
    have hlen' := trStep_len (st := (acc, fl)) (.r a) cs[i]
    have ei : ((i : Int) + 1) = ((i + 1 : Nat) : Int) := by omega
    rename Fz _ _ _ _ _ _ _ _ => X
    rw [ei] at X
    have hle4 : g3.le g4 := by walk_at "le"
    have hgb4 := hle4 _ _ hgb
    by_cases h42 : cs[i] = 42
    · refine ite_t (by simp [h42]) ?_
      walk_at "zz"
      refine ztruthyM X (.head _) (by omega) ?_
      rcases Bool.eq_false_or_eq_true fl with hf | hf
      · have hlast : acc.getLast? = some (.r a) := hinv.1 hf
        have hne : acc ≠ [] := by rintro rfl; cases hlast
        have he : trStep (.r a) (acc, fl) cs[i] = (acc, fl) := by unfold trStep; rw [if_pos h42]; exact if_pos hf
        refine ite_f (by cases acc with | nil => exact absurd rfl hne | cons d r => simp) ?_
        walk_at "zz"
        refine zlastM (d := .r a) X (.head _) hlast fun v hv => ?_
        walk_at "un"
        walk_at "zz"
        refine wpAny_isNot_ref_self ?_
        walk_at "zz"
        refine ite_f (by decide) ?_
        walk_at "zz"
        refine ite_f (by decide) ?_
        walk_at "zz"
        refine wturnN (cs.length - (i + 1)) (trStep (.r a) (acc, fl) cs[i], i + 1) X (by walk_at "le") (by omega) (by rw [he]) (by walk_at "lk") ⟨_, _, rfl⟩ ⟨hstep.symm, by show i + 1 + (cs.length - (i + 1)) = cs.length; omega, hinv', ?_⟩
        show (trStep (.r a) (acc, fl) cs[i]).1.length ≤ i + 1
        exact Nat.le_trans hlen' (Nat.succ_le_succ hlen)

      · have he : trStep (.r a) (acc, fl) cs[i] = (acc ++ [.r a], true) := by unfold trStep; rw [if_pos h42]; exact if_neg (by rw [hf]; simp)
        rcases hinv.2 hf with h0 | ⟨x, hlast⟩
        · refine ite_t (by rw [show acc = [] from h0]; decide) ?_
          refine ite_t rfl ?_
          walk_at "zz"
          refine wpAny_Call_NameR ?_
          walk_at "zz"
          refine callWith_B (id := "list.append") (a := q) ?_
          walk_at "zz"
          refine ⟨X.sub b _ hgb4, ?_⟩
          refine zappendB (X.sub b _ hgb4) X (.head _) (by walk_at "has") (by omega) rfl fun h' X => ?_
          simp only [List.map_cons, List.map_nil, if_true] at X
          walk_at "zz"
          refine wturnN (cs.length - (i + 1)) (trStep (.r a) (acc, fl) cs[i], i + 1) X (by walk_at "le") (by omega) (by rw [he]) (by walk_at "lk") ⟨_, _, rfl⟩ ⟨hstep.symm, by show i + 1 + (cs.length - (i + 1)) = cs.length; omega, hinv', ?_⟩
          show (trStep (.r a) (acc, fl) cs[i]).1.length ≤ i + 1
          exact Nat.le_trans hlen' (Nat.succ_le_succ hlen)
        · have hlast' : acc.getLast? = some (sd x) := hlast
          have hne : acc ≠ [] := by rintro rfl; cases hlast'
          refine ite_f (by cases acc with | nil => exact absurd rfl hne | cons d r => simp) ?_
          walk_at "zz"
          refine zlastM (d := sd x) X (.head _) hlast' fun v hv => ?_
          walk_at "un"
          walk_at "zz"
          refine wpAny_isNot_other rfl (fun e => nomatch e) ?_
          walk_at "zz"
          refine ite_t rfl ?_
          refine ite_t rfl ?_
          walk_at "zz"
          refine wpAny_Call_NameR ?_
          walk_at "zz"
          refine callWith_B (id := "list.append") (a := q) ?_
          walk_at "zz"
          refine ⟨X.sub b _ hgb4, ?_⟩
          refine zappendB (X.sub b _ hgb4) X (.head _) (by walk_at "has") (by omega) rfl fun h' X => ?_
          simp only [List.map_cons, List.map_nil, if_true] at X
          walk_at "zz"
          refine wturnN (cs.length - (i + 1)) (trStep (.r a) (acc, fl) cs[i], i + 1) X (by walk_at "le") (by omega) (by rw [he]) (by walk_at "lk") ⟨_, _, rfl⟩ ⟨hstep.symm, by show i + 1 + (cs.length - (i + 1)) = cs.length; omega, hinv', ?_⟩
          show (trStep (.r a) (acc, fl) cs[i]).1.length ≤ i + 1
          exact Nat.le_trans hlen' (Nat.succ_le_succ hlen)
    refine ite_f (by simp [h42]) ?_
    walk_at "zz"
    by_cases h63 : cs[i] = 63
    · refine ite_t (by simp [h63]) ?_
      walk_at "zz"
      have he : trStep (.r a) (acc, fl) cs[i] = (acc ++ [sd [46, 46]], false) := by unfold trStep; rw [if_neg h42, if_pos h63]
      refine wpAny_Call_NameR ?_
      walk_at "zz"
      refine callWith_B (id := "list.append") (a := q) ?_
      walk_at "zz"
      refine ⟨X.sub b _ hgb4, ?_⟩
      refine zappendB (X.sub b _ hgb4) X (.head _) (by walk_at "has") (by omega) rfl fun h' X => ?_
      simp only [List.map_cons, List.map_nil, if_true] at X
      walk_at "zz"
      refine wturnN (cs.length - (i + 1)) (trStep (.r a) (acc, fl) cs[i], i + 1) X (by walk_at "le") (by omega) (by rw [he]) (by walk_at "lk") ⟨_, _, rfl⟩ ⟨hstep.symm, by show i + 1 + (cs.length - (i + 1)) = cs.length; omega, hinv', ?_⟩
      show (trStep (.r a) (acc, fl) cs[i]).1.length ≤ i + 1
      exact Nat.le_trans hlen' (Nat.succ_le_succ hlen)
    refine ite_f (by simp [h63]) ?_
    walk_at "zz"
    refine ite_f (by simp [hc2]) ?_
    walk_at "zz"
    have he : trStep (.r a) (acc, fl) cs[i] = (acc ++ [sd [cs[i]]], false) := by unfold trStep; rw [if_neg h42, if_neg h63]
    refine wpAny_Call_NameR ?_
    walk_at "zz"
    refine callWith_B (id := "list.append") (a := q) ?_
    walk_at "zz"
    refine ⟨⟨_, _, _, _, _, _, X⟩, ?_⟩
    refine spec_escape (X.gl G) (Ok.le (Ok.deeper ok) (by decide)) X.sub hc1 (by rcases hc3 with h | h | h; exact absurd h h42; exact absurd h h63; exact h) (zretL X fun v g' h' tk le X hv => ?_)
    walk_at "un"
    walk_at "zz"
    have hgb5 := le _ _ hgb4
    refine ⟨X.sub b _ hgb5, ?_⟩
    refine zappendB (X.sub b _ hgb5) X (.head _) (by walk_at "has") (by omega) rfl fun h' X => ?_
    simp only [List.map_cons, List.map_nil, if_true] at X
    walk_at "zz"
    refine wturnN (cs.length - (i + 1)) (trStep (.r a) (acc, fl) cs[i], i + 1) X (by walk_at "le") (by omega) (by rw [he]) (by walk_at "lk") ⟨_, _, rfl⟩ ⟨hstep.symm, by show i + 1 + (cs.length - (i + 1)) = cs.length; omega, hinv', ?_⟩
    show (trStep (.r a) (acc, fl) cs[i]).1.length ≤ i + 1
    exact Nat.le_trans hlen' (Nat.succ_le_succ hlen)
  · refine ite_f (by simp; omega) ?_
    walk_at "zz"
    refine wpAny_Assert_holds ?_
    walk_at "zz"
    have hi0 : i = cs.length := by omega
    refine ⟨by simp; omega, ?_⟩
    walk_at "zz"
    obtain ⟨g5, le5, hq, Y⟩ := X.freeze (.head _)
    refine R.done Y ?_ rfl
    have : acc = trParts (.r a) cs := by
      unfold trParts
      have h' := congrArg Prod.fst hacc
      rw [hi0, List.take_length] at h'
      exact h'
    rw [← this]; exact hq
end
section
variable {prog : Program} {w : World} {A : Around} {E : Value → Shared → Prop} {s : Shared} {g : GH} {Q : Value → Shared → Prop}

theorem figs_le (h : List Nat) : ∀ f ∈ figs h, f ≤ 64 := by
  intro f hf
  unfold figs at hf
  rcases List.mem_append.mp hf with h1 | h1
  · obtain ⟨k, _, rfl⟩ := List.mem_map.mp h1
    exact Nat.le_of_lt (Nat.mod_lt _ (by decide))
  · rw [List.eq_of_mem_replicate h1]; exact Nat.le_refl _
theorem figs_len {h : List Nat} (hl : h.length ≤ 3) : (figs h).length = 4 := by
  unfold figs; simp; omega
def placeAt (hs : List (List Nat)) (i : Nat) : List (List Nat) := (hs.take i).foldl (fun p h => walk p (figs h)) []
def places (hs : List (List Nat)) : List (List (List Nat)) := (List.range hs.length).map fun i => placeAt hs (i + 1)
theorem placeAt_succ {hs : List (List Nat)} {i : Nat} {h : List Nat} (hi : hs[i]? = some h) : placeAt hs (i + 1) = walk (placeAt hs i) (figs h) := by
  unfold placeAt; rw [take_succ_of hi, List.foldl_append]; rfl
theorem placeAt_len {hs : List (List Nat)} (hh : ∀ h ∈ hs, h.length ≤ 3) : ∀ i, (placeAt hs i).length ≤ 4 * i
  | 0 => by unfold placeAt; simp
  | i + 1 => by
    cases hi : hs[i]? with
    | none =>
      have h2 := List.getElem?_eq_none_iff.mp hi
      have h3 := placeAt_len hh i
      unfold placeAt at h3 ⊢
      rw [List.take_of_length_le (by omega)] at h3 ⊢
      omega
    | some h =>
      rw [placeAt_succ hi]
      have h1 := walk_len (figs h) (placeAt hs i)
      have h2 := placeAt_len hh i
      rw [figs_len (hh h (List.mem_of_getElem? hi))] at h1
      omega
theorem spec_places {hs : List (List Nat)} {hv : Value} (G : Gl hd.heap_1 w s.heap) (ok : Ok 5 A) (hg : g.le s.heap.get?) (hh : ∀ h ∈ hs, h.length ≤ 3) (hl : hs.length ≤ 20) (hH : Has g hv (.l (hs.map dI))) (R : Ret s g (.l ((places hs).map dS)) Q) :
    wpAny (model prog w) A (call (.ref 264) [hv]) Q E s := by
  refine call_fz g [("hands", hv)] [("hands", .l (hs.map dI))] G hg (.cons hH .nil) (by k_is) (by k_is) ok.room (BindsTo.of_eq rfl) (locs rfl) (by simp only [List.map_cons, List.map_nil]; decide) ?_ rfl rfl rfl (by decide)
  intro h₁ tk G X
  walk_at "zz"
  refine znewListM X .nil ?_
  intro q h2 X
  walk_at "zz"
  walk_at "nl"
  walk_at "zz"
  rename Fz _ _ _ _ _ _ _ _ => X
  refine zfor (σ := List (List Nat) × List (List (List Nat))) (fun c => [(q, .lst (c.2.map dS))]) (fun c => [("place", dS c.1), ("places", .r q)]) (fun i c => c.1 = placeAt hs i ∧ c.2 = (List.range i).map fun i => placeAt hs (i + 1)) (fun _ => False) ([], []) X (srcList ok.hd X.sub (by walk_at "has")) rfl (by walk_at "lk") ⟨rfl, rfl⟩ ?_ ?_
  · rintro i d ⟨p, ps⟩ g' fx' s₁ hd ⟨hp, hps⟩ le X ⟨h2, tk2, rfl⟩
    obtain ⟨h, hhi, rfl⟩ := mapAt hd
    have hi : i < hs.length := (List.getElem?_eq_some_iff.mp hhi).1
    have hlen := placeAt_len hh i
    have hh3 := hh h (List.mem_of_getElem? hhi)
    have hsucc := placeAt_succ hhi
    dsimp only at X hp hps
    rw [← hp] at hsucc hlen
    walk_at "zz"
    refine ⟨⟨_, _, _, _, _, _, X⟩, ?_⟩
    refine spec_figures (X.gl G) (Ok.deeper ok) X.sub (by walk_at "has") hh3 (zretL X fun v g' h' tk le X hv => ?_)
    walk_at "un"
    walk_at "zz"
    refine ⟨⟨_, _, _, _, _, _, X⟩, ?_⟩
    refine spec_walk (X.gl G) (Ok.le (Ok.deeper ok) (by decide)) X.sub (figs_le h) (by walk_at "has") (by walk_at "has") (by rw [figs_len hh3]; omega) (zretL X fun v g' h' tk le X hv => ?_)
    walk_at "zz"
    rename Fz _ _ _ _ _ _ _ _ => X
    refine zgmAppend X (.head _) ?_
    walk_at "zz"
    refine zappend X (.head _) (by walk_at "has") (by rw [hps]; simp; omega) rfl fun h' X => ?_
    simp only [List.map_cons, List.map_nil, if_true] at X
    walk_at "zz"
    refine turnN (walk p (figs h), ps ++ [walk p (figs h)]) X (by walk_at "le") (by rw [List.map_append]; rfl) (by walk_at "lk") ⟨_, _, rfl⟩ ⟨hsucc.symm, ?_⟩
    show ps ++ [walk p (figs h)] = _
    rw [List.range_succ, List.map_append, ← hps, ← hsucc]; rfl
  · rintro ⟨p, ps⟩ g' s₁ (⟨hp, hps⟩ | hB) le X ⟨h2, tk2, rfl⟩
    · walk_at "zz"
      obtain ⟨g2, le2, hq, Y⟩ := X.freeze (.head _)
      rw [List.length_map] at hps
      refine R.done Y ?_ rfl
      have : ps = places hs := hps
      rw [← this]; exact hq
    · exact hB.elim
end
section
variable {prog : Program} {w : World} {A : Around} {E : Value → Shared → Prop} {s : Shared} {g : GH} {Q : Value → Shared → Prop}

theorem EqL.sds (xs ys : List (List Nat)) : EqL (xs.map sd) (ys.map sd) (decide (xs = ys)) := by
  have h := EqL.strs (xs.map S) (ys.map S)
  rw [List.map_map, List.map_map] at h
  have e : decide (xs.map S = ys.map S) = decide (xs = ys) := by
    apply decide_eq_decide.mpr
    exact ⟨fun h => (List.map_inj_right (fun a b h => S_inj h)).mp h, fun h => by rw [h]⟩
  rw [e] at h; exact h
def lcp : List (List Nat) → List (List Nat) → List (List Nat)
  | x :: a, y :: p => if x = y then x :: lcp a p else []
  | _, _ => []
theorem lcp_pre : ∀ {c p : List (List Nat)}, p.take c.length = c → lcp c p = c
  | [], p, _ => by cases p <;> rfl
  | x :: c, [], h => by simp at h
  | x :: c, y :: p, h => by
    simp only [List.length_cons, List.take_succ_cons, List.cons.injEq] at h
    unfold lcp
    rw [if_pos h.1.symm, lcp_pre h.2]
theorem lcp_drop : ∀ {c p : List (List Nat)}, p.take c.length ≠ c → lcp c.dropLast p = lcp c p
  | [], p, h => absurd (by simp) h
  | [x], [], h => rfl
  | [x], y :: p, h => by
    have hxy : ¬ x = y := fun e => h (by simp [e])
    show lcp [] (y :: p) = lcp [x] (y :: p)
    unfold lcp; rw [if_neg hxy]
  | x :: x2 :: c, [], h => rfl
  | x :: x2 :: c, y :: p, h => by
    show lcp (x :: (x2 :: c).dropLast) (y :: p) = lcp (x :: x2 :: c) (y :: p)
    by_cases hxy : x = y
    · have h2 : p.take (x2 :: c).length ≠ (x2 :: c) := fun e => h (by
        rw [List.length_cons, List.take_succ_cons, e, hxy])
      rw [lcp, lcp, if_pos hxy, if_pos hxy, lcp_drop h2]
    · rw [lcp, lcp, if_neg hxy, if_neg hxy]
theorem lcp_len : ∀ (c p : List (List Nat)), (lcp c p).length ≤ c.length
  | [], p => by cases p <;> exact Nat.le_refl _
  | x :: c, [] => Nat.zero_le _
  | x :: c, y :: p => by
    rw [lcp]; split
    · have := lcp_len c p; simp; omega
    · exact Nat.zero_le _
def alike (ps : List (List (List Nat))) : List (List Nat) := ps.foldl lcp (ps.headD [])
theorem spec_alike {ps : List (List (List Nat))} {pv : Value} (G : Gl hd.heap_1 w s.heap) (ok : Ok 3 A) (hg : g.le s.heap.get?) (hne : ps ≠ []) (hl : ps.length ≤ 20) (hp : ∀ p ∈ ps, p.length ≤ 1000) (hP : Has g pv (.l (ps.map dS))) (R : Ret s g (dS (alike ps)) Q) :
    wpAny (model prog w) A (call (.ref 285) [pv]) Q E s := by
  refine call_fz g [("places", pv)] [("places", .l (ps.map dS))] G hg (.cons hP .nil) (by k_is) (by k_is) ok.room (BindsTo.of_eq rfl) (locs rfl) (by simp only [List.map_cons, List.map_nil]; decide) ?_ rfl rfl rfl (by decide)
  intro h₁ tk G X
  have h0 : (ps.map dS)[0]? = some (dS (ps.headD [])) := by
    cases ps with
    | nil => exact absurd rfl hne
    | cons p r => rfl
  have hhd : (ps.headD []).length ≤ 1000 := by
    cases ps with
    | nil => exact absurd rfl hne
    | cons p r => exact hp p (.head _)
  walk_at "zz"
  refine zitem (d := dS (ps.headD [])) X (by walk_at "has") (by omega) (by omega) h0 fun v hv => ?_
  walk_at "un"
  walk_at "zz"
  rename Fz _ _ _ _ _ _ _ _ => X
  refine zfor (σ := List (List Nat)) (fun _ => []) (fun c => [("alike", dS c)]) (fun i c => c = (ps.take i).foldl lcp (ps.headD []) ∧ c.length ≤ 1000) (fun _ => False) (ps.headD []) X (srcList ok.hd X.sub (by walk_at "has")) rfl (by walk_at "lk") ⟨rfl, hhd⟩ ?_ ?_
  · rintro i d c g' fx' s₁ hd ⟨hc, hcl⟩ le X ⟨h2, tk2, rfl⟩
    obtain ⟨p, hpi, rfl⟩ := mapAt hd
    have hpl := hp p (List.mem_of_getElem? hpi)
    have e : (ps.take (i + 1)).foldl lcp (ps.headD []) = lcp c p := by
      rw [take_succ_of hpi, List.foldl_append, ← hc]; rfl
    walk_at "zz"
    refine zWhile (σ := List (List Nat)) (fun _ => []) (fun c2 => [("alike", dS c2), ("place", dS p)]) (fun n c2 => c2.length = n ∧ lcp c2 p = lcp c p ∧ c2.length ≤ 1000) c.length c X rfl (by walk_at "lk") ⟨rfl, rfl, hcl⟩ ?_
    rintro n c2 g4 s₂ ⟨rfl, hl2, hc2⟩ le2 X ⟨h5, tk5, rfl⟩
    walk_at "zz"
    refine zsliceX X ?_
    walk_at "zz"
    refine zlen X (by walk_at "has") (by simp; omega) ?_
    walk_at "zz"
    refine ⟨_, _, _, _, _, _, _, rfl, X, by walk_at "has", by simp; omega, .none, .int _ _, ?_⟩
    intro a3 g3 h3 le3 X hcc
    have es : pk none (some ((List.map sd c2).length : Int)) (p.map sd) = (p.take c2.length).map sd := by
      rw [List.length_map, List.map_take]; exact pk_upto (p.map sd) c2.length
    rw [es] at hcc
    walk_at "zz"
    refine zneL (r := decide (p.take c2.length = c2)) X hcc (by walk_at "has") (EqL.sds _ _) ok.deeper.c ?_
    walk_at "zz"
    by_cases hcp : p.take c2.length = c2
    · refine ite_f (by simp [hcp]) ?_
      walk_at "zz"
      refine turnN c2 X (by walk_at "le") rfl (by walk_at "lk") ⟨_, _, rfl⟩ ⟨?_, hc2⟩
      rw [e, ← hl2, lcp_pre hcp]
    · refine ite_t (by simp [hcp]) ?_
      walk_at "zz"
      refine zsliceX X ?_
      walk_at "zz"
      refine ⟨_, _, _, _, _, _, _, rfl, X, by walk_at "has", by simp; omega, .none, .int _ _, ?_⟩
      intro a5 g5 h5 le5 X hcc
      rw [pk_init, ← List.map_dropLast] at hcc
      walk_at "zz"
      rename Fz _ _ _ _ _ _ _ _ => X
      have hpos : 0 < c2.length := by
        cases c2 with
        | nil => exact absurd rfl hcp
        | cons x r => exact Nat.succ_pos _
      exact wturnN c2.dropLast.length c2.dropLast X (by walk_at "le") (by rw [List.length_dropLast]; omega) rfl (by walk_at "lk") ⟨_, _, rfl⟩ ⟨rfl, (lcp_drop hcp).trans hl2, by rw [List.length_dropLast]; omega⟩
  · rintro c g' s₁ (⟨hc, hcl⟩ | hB) le X ⟨h2, tk2, rfl⟩
    · walk_at "zz"
      rw [List.length_map, List.take_length] at hc
      refine R.done X ?_ rfl
      unfold alike
      rw [← hc]; assumption
    · exact hB.elim
end
section
variable {prog : Program} {w : World} {A : Around} {E : Value → Shared → Prop} {s : Shared} {g : GH} {Q : Value → Shared → Prop}

theorem zjoinE {h₀ : Heap} {g₀ fx gi : GH} {mu : List (Addr × MV)} {ls : List (Str × D)} {L : Addr} {sep : List Nat} {a : Addr} {t : Tok} {xs : List (List Nat)} (y : List Nat) {Q : Value → Shared → Prop} (X : Fz h₀ g₀ fx gi mu ls L s.heap) (ha : Has gi (.ref a) (.l (xs.map sd))) (hok : (xs.map List.length).sum + xs.length * sep.length ≤ 16777216) (e : glue sep xs = y)
    (h : ∀ t' k, Q (.str (S y) t') { s with toks := k }) : wpAny (model prog w) A (call (.builtin "str.join") [.str (S sep) t, .ref a]) Q E s := by
  subst e; exact zjoin X ha hok h
theorem glue_one : ∀ l : List Nat, glue [] (l.map fun c => [c]) = l
  | [] => rfl
  | [x] => rfl
  | x :: y :: r => by
    show [x] ++ [] ++ glue [] ((y :: r).map fun c => [c]) = _
    rw [glue_one (y :: r)]; rfl
theorem ok_sgn : ∀ n : Fin 65, okSign (sgn n.val) := by unfold okSign; decide +kernel
/-- a part as join gets it -/
def ptN (f : Nat) : List Nat := if f = 62 then [47] else if f = 63 then [46, 46] else [sgn f]
def ptsN (fs : List Nat) (n : Nat) : List (List Nat) := ((List.range n).filter (pTest fs)).map fun k => ptN (fs.getD k 0)
def ledP (fs : List Nat) (path : List Nat) : List Nat := (ptsN fs fs.length).foldl joinT path
theorem ptN_len (f : Nat) : (ptN f).length ≤ 2 := by
  unfold ptN; split
  · decide
  · split <;> exact Nat.le_of_ble_eq_true rfl
theorem parts_same (a : Addr) (fs : List Nat) : ∀ d ∈ partsR (.r a) fs fs.length, EqD d d true := by
  intro d hd
  obtain ⟨k, _, rfl⟩ := List.mem_map.mp hd
  unfold mvD
  split
  · exact .rr a
  · split <;> exact EqD.sameS _
theorem spec_led {os fs : List Nat} {path : List Nat} {ov fv : Value} {t : Tok} (G : Gl hd.heap_1 w s.heap) (ok : Ok 6 A) (hg : g.le s.heap.get?) (ho : ∀ o ∈ os, o < 256) (hol : os.length ≤ 100) (hf : ∀ f ∈ fs, f ≤ 64) (hfl : fs.length ≤ 100) (hpl : path.length ≤ 300)
    (h64 : trans (u8s (b64 os)) (mkTable #[43, 47] #[42, 63]) = u8s (fs.map sgn)) (htr : ∀ d, trParts d (fs.map sgn) = partsR d fs fs.length)
    (hO : Has g ov (dI os)) (hF : Has g fv (dI fs)) (R : Ret s g (sd (ledP fs path)) Q) :
    wpAny (model prog w) A (call (.ref 257) [ov, fv, .str (S path) t]) Q E s := by
  refine call_fz g [("octets", ov), ("figures", fv), ("path", .str (S path) t)] [("octets", dI os), ("figures", dI fs), ("path", sd path)] G hg (.cons hO (.cons hF (.cons (.s _ _) .nil))) (by k_is) (by k_is) ok.room (BindsTo.of_eq rfl) (locs rfl) (by simp only [List.map_cons, List.map_nil]; decide) ?_ rfl rfl rfl (by decide)
  intro h₁ tk G X
  walk_at "zz"
  refine znewList X (.cons (.s _ _) .nil) fun a g0 h0 le0 X hstar => ?_
  refine zst X (.r a) fun h0 X => ?_
  walk_at "zz"
  refine zbytes ok.hd X (by walk_at "has") ho (by omega) fun t g' h' k le X => ?_
  walk_at "zz"
  refine ⟨⟨_, _, _, _, _, _, X⟩, ?_⟩
  refine spec_b64encode (X.gl G) (Ok.le (Ok.deeper ok) (by decide)) X.sub ho hol (zretL X fun v g' h' tk le X hv => ?_)
  rw [h64] at hv
  walk_at "un"
  walk_at "zz"
  rename Fz _ _ _ _ _ _ _ _ => X
  refine zmap (cl := []) (fun d => sd [unN d]) X (by with_unfolding_all rfl) (by decide) rfl (by decide) (by decide) ?_
  walk_at "zz"
  refine ⟨_, _, _, _, X, srcBytes ok.hd, by unfold u8s; simp; omega, ?_, ?_⟩
  · intro i d C g' fx' mu' s₂ hd le X hm
    obtain ⟨c8, hc8, rfl⟩ := mapAt hd
    walk_at "zz"
    refine chr_of_range (by omega) (by have := c8.toNat_lt; omega) ?_
    exact Elt.mk X (by walk_at "le") (.s _ _) ⟨_, _, rfl⟩
  intro a1 g1 h1 tk1 le1 X hv
  have hu : (((u8s (fs.map sgn)).toList.map fun c => D.i ((c.toNat : Nat) : Int)).map fun d => sd [unN d]) = ((fs.map fun f => [sgn f]).map sd) := by
    unfold u8s
    rw [List.map_map, List.toList_toArray, List.map_map, List.map_map, List.map_map]
    refine List.map_congr_left fun f hfm => ?_
    show sd [((sgn f).toUInt8).toNat] = sd [sgn f]
    have : (sgn f).toUInt8.toNat = sgn f := by
      have hs : sgn f < 256 := by unfold sgn; have := hf f hfm; split <;> (try split) <;> (try split) <;> (try split) <;> (try split) <;> omega
      exact Nat.mod_eq_of_lt hs
    rw [this]
  rw [hu] at hv
  walk_at "zz"
  have hg1 : glue [] (fs.map fun f => [sgn f]) = fs.map sgn := by
    have := glue_one (fs.map sgn)
    rw [List.map_map] at this; exact this
  have hsum : ((fs.map fun f => [sgn f]).map List.length).sum ≤ 2 * (fs.map fun f => [sgn f]).length := sum_len2 (by
    intro x hx; obtain ⟨f, _, rfl⟩ := List.mem_map.mp hx; exact Nat.le_succ 1)
  rw [List.length_map] at hsum
  refine zjoinE (fs.map sgn) X hv (by simp only [List.length_map, List.length_nil]; omega) hg1 fun t' k => ?_
  walk_at "zz"
  rename Fz _ _ _ _ _ _ _ _ => X
  refine ⟨⟨_, _, _, _, _, _, X⟩, ?_⟩
  have hstar1 : Has _ (.ref a) (.l [sd [42]]) := hstar.mono (by walk_at "le" : g0.le g1)
  refine spec_translate (X.gl G) (Ok.le (Ok.deeper ok) (by decide)) X.sub (fun c hc => ?_) (by simp; omega) ?_ (zretL X fun v g' h' tk le X hv => ?_)
  · obtain ⟨f, hfm, rfl⟩ := List.mem_map.mp hc
    exact ok_sgn ⟨f, by have := hf f hfm; omega⟩
  · obtain ⟨_, _, _, e, h, _⟩ := hstar1.list
    cases e; exact ⟨_, h⟩
  rw [htr] at hv
  walk_at "un"
  walk_at "zz"
  refine call_isinstance (isinstance_true (Tx := "bytes") F.isi_meta_bytes F.sub_bytes_bytes) ⟨rfl, ?_⟩
  try dsimp only [wants]
  walk_at "zz"
  refine ite_f (by decide) ?_
  walk_at "zz"
  rename Fz _ _ _ _ _ _ _ _ => X
  refine zmap (cl := []) (fun d => sd [sgn (unN d)]) X (by with_unfolding_all rfl) (by decide) rfl (by decide) (by decide) ?_
  walk_at "zz"
  refine ⟨_, _, _, _, X, srcList ok.hd X.sub (by walk_at "has"), by simp; omega, ?_, ?_⟩
  · intro i d C g' fx' mu' s₂ hd le X hm
    obtain ⟨f, hfi, rfl⟩ := mapAt hd
    walk_at "zz"
    refine ⟨⟨_, _, _, _, _, _, X⟩, ?_⟩
    refine spec_sign (X.gl G) (Ok.le (Ok.deeper ok) (by decide)) X.sub (hf f (List.mem_of_getElem? hfi)) (zretL X fun v g' h' tk le X hv => ?_)
    exact Elt.mk X (by walk_at "le") hv ⟨_, _, rfl⟩
  intro a2 g2 h2 tk2 le2 X hv2
  have hu2 : ((fs.map fun (n : Nat) => D.i (n : Int)).map fun d => sd [sgn (unN d)]) = ((fs.map fun f => [sgn f]).map sd) := by
    rw [List.map_map, List.map_map]; rfl
  rw [hu2] at hv2
  walk_at "zz"
  refine zjoinE (fs.map sgn) X hv2 (by simp only [List.length_map, List.length_nil]; omega) hg1 fun t' k => ?_
  walk_at "zz"
  refine ite_f (by simp) ?_
  walk_at "zz"
  refine ite_f (by decide) ?_
  walk_at "zz"
  refine ⟨⟨_, _, _, _, _, _, X⟩, ?_⟩
  refine spec_parts (star := .r a) (X.gl G) (Ok.le (Ok.deeper ok) (by decide)) X.sub hf (by walk_at "has") (.r a) (by omega) (zretL X fun v g' h' tk le X hv => ?_)
  walk_at "un"
  walk_at "zz"
  refine zneL X (by walk_at "has") (by walk_at "has") (EqL.same _ (parts_same a fs)) ok.deeper.c ?_
  walk_at "zz"
  refine ite_f (by decide) ?_
  walk_at "zz"
  walk_at "nl"
  rename Fz _ _ _ _ _ _ _ _ => X
  walk_at "zz"
  refine zneL (ds := [sd [42]]) (es := [sd [42]]) X (hstar.mono (by walk_at "le")) (by walk_at "has") (EqL.same _ (fun d hd => by rw [List.mem_singleton.mp hd]; exact EqD.sameS _)) ok.deeper.c ?_
  walk_at "zz"
  refine ite_f (by decide) ?_
  walk_at "zz"
  refine ite_f (by decide) ?_
  walk_at "zz"
  refine zfor (σ := List Nat) (fun _ => []) (fun c => [("path", sd c), ("star", .r a)]) (fun i c => c = ((ptsN fs fs.length).take i).foldl joinT path ∧ c.length ≤ 300 + 3 * i) (fun _ => False) path X (srcList ok.hd X.sub (by walk_at "has")) rfl (by walk_at "lk") ⟨rfl, by omega⟩ ?_ ?_
  · rintro i d c g' fx' s₁ hd ⟨hc, hcl⟩ le X ⟨h2, tk2, rfl⟩
    obtain ⟨k, hk, rfl⟩ := mapAt hd
    have hi : i < fs.length := by
      have h1 := (List.getElem?_eq_some_iff.mp hk).1
      exact Nat.lt_of_lt_of_le h1 (Nat.le_trans (List.length_filter_le _ _) (by simp))
    have hpt : (ptsN fs fs.length)[i]? = some (ptN (fs.getD k 0)) := by unfold ptsN; rw [List.getElem?_map, hk]; rfl
    have e : ((ptsN fs fs.length).take (i + 1)).foldl joinT path = joinT c (ptN (fs.getD k 0)) := by
      rw [take_succ_of hpt, List.foldl_append, ← hc]; rfl
    have hpl2 := ptN_len (fs.getD k 0)
    have hjl : (joinT c (ptN (fs.getD k 0))).length ≤ 300 + 3 * (i + 1) := by
      unfold joinT; split
      · omega
      · split
        · rw [List.length_append]; omega
        · rw [List.length_append, List.length_cons]; omega
    by_cases h62 : fs.getD k 0 = 62
    · have em : mvD (fs.getD k 0) (.r a) = .r a := by unfold mvD; rw [if_pos h62]
      have ept : ptN (fs.getD k 0) = [47] := by unfold ptN; rw [if_pos h62]
      rw [em] at X
      walk_at "zz"
      refine wpAny_is_ref_self ?_
      walk_at "zz"
      refine ite_t rfl ?_
      walk_at "zz"
      refine ⟨⟨_, _, _, _, _, _, X⟩, ?_⟩
      refine spec_join (b := [47]) (X.gl G) (Ok.le (Ok.deeper ok) (by decide)) X.sub (by simp only [List.length_cons, List.length_nil]; omega) (zretL X fun v g' h' tk le X hv => ?_)
      walk_at "un"
      walk_at "zz"
      rename Fz _ _ _ _ _ _ _ _ => X
      refine turnN (joinT c [47]) X (by walk_at "le") rfl (by walk_at "lk") ⟨_, _, rfl⟩ ⟨?_, ?_⟩
      · rw [e, ept]
      · rw [ept] at hjl; exact hjl
    · by_cases h63 : fs.getD k 0 = 63
      · have em : mvD (fs.getD k 0) (.r a) = sd [46, 46] := by unfold mvD; rw [if_neg h62, if_pos h63]
        have ept : ptN (fs.getD k 0) = [46, 46] := by unfold ptN; rw [if_neg h62, if_pos h63]
        rw [em] at X
        walk_at "zz"
        refine wpAny_is_other rfl (fun e => nomatch e) ?_
        walk_at "zz"
        refine ite_f (by decide) ?_
        walk_at "zz"
        refine ⟨⟨_, _, _, _, _, _, X⟩, ?_⟩
        refine spec_join (b := [46, 46]) (X.gl G) (Ok.le (Ok.deeper ok) (by decide)) X.sub (by simp only [List.length_cons, List.length_nil]; omega) (zretL X fun v g' h' tk le X hv => ?_)
        walk_at "un"
        walk_at "zz"
        rename Fz _ _ _ _ _ _ _ _ => X
        refine turnN (joinT c [46, 46]) X (by walk_at "le") rfl (by walk_at "lk") ⟨_, _, rfl⟩ ⟨?_, ?_⟩
        · rw [e, ept]
        · rw [ept] at hjl; exact hjl
      · have em : mvD (fs.getD k 0) (.r a) = sd [sgn (fs.getD k 0)] := by unfold mvD; rw [if_neg h62, if_neg h63]
        have ept : ptN (fs.getD k 0) = [sgn (fs.getD k 0)] := by unfold ptN; rw [if_neg h62, if_neg h63]
        rw [em] at X
        walk_at "zz"
        refine wpAny_is_other rfl (fun e => nomatch e) ?_
        walk_at "zz"
        refine ite_f (by decide) ?_
        walk_at "zz"
        refine ⟨⟨_, _, _, _, _, _, X⟩, ?_⟩
        refine spec_join (b := [sgn (fs.getD k 0)]) (X.gl G) (Ok.le (Ok.deeper ok) (by decide)) X.sub (by simp only [List.length_cons, List.length_nil]; omega) (zretL X fun v g' h' tk le X hv => ?_)
        walk_at "un"
        walk_at "zz"
        rename Fz _ _ _ _ _ _ _ _ => X
        refine turnN (joinT c [sgn (fs.getD k 0)]) X (by walk_at "le") rfl (by walk_at "lk") ⟨_, _, rfl⟩ ⟨?_, ?_⟩
        · rw [e, ept]
        · rw [ept] at hjl; exact hjl
  · rintro c g' s₁ (⟨hc, hcl⟩ | hB) le X ⟨h2, tk2, rfl⟩
    · walk_at "zz"
      refine R.done X ?_ rfl
      have : c = ledP fs path := by
        rw [hc]; unfold ledP partsR ptsN
        rw [List.length_map, List.take_of_length_le (by simp)]
      rw [← this]; exact .s _ _
    · exact hB.elim
end
/-! the parts -/
def pick : List Nat → List Nat
  | [] => []
  | f :: r => if f = 62 ∧ r.head? = some 62 then pick r else f :: pick r
theorem pick_cons (f : Nat) (r : List Nat) : pick (f :: r) = if f = 62 ∧ r.head? = some 62 then pick r else f :: pick r := rfl
theorem pTest_zero (f : Nat) (r : List Nat) : pTest (f :: r) 0 = !decide (f = 62 ∧ r.head? = some 62) := by
  unfold pTest
  congr 1
  apply decide_eq_decide.mpr
  cases r with
  | nil => simp
  | cons a r => simp
theorem pTest_succ (f : Nat) (r : List Nat) (k : Nat) : pTest (f :: r) (k + 1) = pTest r k := rfl
theorem pick_eq {β : Type} (φ : Nat → β) : ∀ fs : List Nat, ((List.range fs.length).filter (pTest fs)).map (fun k => φ (fs.getD k 0)) = (pick fs).map φ
  | [] => rfl
  | f :: r => by
    have ih := pick_eq φ r
    rw [List.length_cons, List.range_succ_eq_map, List.filter_cons, List.filter_map]
    have e : (pTest (f :: r)) ∘ Nat.succ = pTest r := by funext k; rfl
    rw [e, pTest_zero]
    rw [pick_cons]
    by_cases h : f = 62 ∧ r.head? = some 62
    · rw [if_pos h, decide_eq_true h, if_neg (by decide), List.map_map]
      exact ih
    · rw [if_neg h, decide_eq_false h, if_pos (by decide), List.map_cons, List.map_cons, List.map_map]
      congr 1
theorem partsR_pick (star : D) (fs : List Nat) : partsR star fs fs.length = (pick fs).map (mvD · star) := pick_eq (fun f => mvD f star) fs
theorem ptsN_pick (fs : List Nat) : ptsN fs fs.length = (pick fs).map ptN := pick_eq ptN fs

theorem sgn42 : ∀ n : Fin 65, (sgn n.val = 42 ↔ n.val = 62) ∧ (sgn n.val = 63 ↔ n.val = 63) ∧ sgn n.val ≠ 46 ∧ sgn n.val ≠ 47 := by decide +kernel
theorem sgnStar {f : Nat} (h : f ≤ 64) : sgn f = 42 ↔ f = 62 := (sgn42 ⟨f, by omega⟩).1
theorem sgnQuest {f : Nat} (h : f ≤ 64) : sgn f = 63 ↔ f = 63 := (sgn42 ⟨f, by omega⟩).2.1
theorem sgn_dot {f : Nat} (h : f ≤ 64) : sgn f ≠ 46 := (sgn42 ⟨f, by omega⟩).2.2.1
theorem sgn_sl {f : Nat} (h : f ≤ 64) : sgn f ≠ 47 := (sgn42 ⟨f, by omega⟩).2.2.2
def trR (star : D) : Bool → List Nat → List D
  | _, [] => []
  | b, f :: r => if f = 62 then (if b then trR star true r else star :: trR star true r) else mvD f star :: trR star false r
theorem trR_cons (star : D) (b : Bool) (f : Nat) (r : List Nat) : trR star b (f :: r) = if f = 62 then (if b then trR star true r else star :: trR star true r) else mvD f star :: trR star false r := by
  cases b <;> rfl
theorem trStep_fs (star : D) : ∀ (fs : List Nat) (acc : List D) (b : Bool), (∀ f ∈ fs, f ≤ 64) → ((fs.map sgn).foldl (trStep star) (acc, b)).1 = acc ++ trR star b fs
  | [], acc, b, _ => by simp [trR]
  | f :: r, acc, b, h => by
    have hf := h f (.head _)
    have ih := fun a c => trStep_fs star r a c fun x hx => h x (.tail _ hx)
    rw [List.map_cons, List.foldl_cons]
    rw [trR_cons]
    by_cases h62 : f = 62
    · rw [if_pos h62]
      have e : trStep star (acc, b) (sgn f) = if b then (acc, b) else (acc ++ [star], true) := by
        unfold trStep; rw [if_pos ((sgnStar hf).mpr h62)]
      rw [e]
      cases b with
      | true => simp only [if_true]; exact ih _ _
      | false => simp only [Bool.false_eq_true, if_false]; rw [ih]; simp
    · rw [if_neg h62]
      have hn : sgn f ≠ 42 := fun e => h62 ((sgnStar hf).mp e)
      by_cases h63 : f = 63
      · have e : trStep star (acc, b) (sgn f) = (acc ++ [sd [46, 46]], false) := by
          unfold trStep; rw [if_neg hn, if_pos ((sgnQuest hf).mpr h63)]
        have e2 : mvD f star = sd [46, 46] := by unfold mvD; rw [if_neg h62, if_pos h63]
        rw [e, ih, e2]; simp
      · have hn3 : sgn f ≠ 63 := fun e => h63 ((sgnQuest hf).mp e)
        have e : trStep star (acc, b) (sgn f) = (acc ++ [sd [sgn f]], false) := by
          unfold trStep; rw [if_neg hn, if_neg hn3]
        have e2 : mvD f star = sd [sgn f] := by unfold mvD; rw [if_neg h62, if_neg h63]
        rw [e, ih, e2]; simp
theorem trR_pick (star : D) : ∀ fs : List Nat, trR star false fs = (pick fs).map (mvD · star) ∧ (if fs.head? = some 62 then star :: trR star true fs else trR star true fs) = (pick fs).map (mvD · star)
  | [] => ⟨rfl, rfl⟩
  | f :: r => by
    obtain ⟨i1, i2⟩ := trR_pick star r
    by_cases h62 : f = 62
    · subst h62
      have e : ((pick (62 :: r)).map (mvD · star)) = star :: trR star true r := by
        rw [pick_cons]
        by_cases hr : r.head? = some 62
        · rw [if_pos ⟨rfl, hr⟩, ← i2, if_pos hr]
        · rw [if_neg (fun x => hr x.2), List.map_cons, ← i2, if_neg hr]
          rfl
      rw [e, trR_cons, trR_cons]
      exact ⟨rfl, rfl⟩
    · have e : ((pick (f :: r)).map (mvD · star)) = mvD f star :: (pick r).map (mvD · star) := by
        rw [pick_cons, if_neg (fun x => h62 x.1), List.map_cons]
      have hh : ¬ (f :: r).head? = some 62 := fun x => h62 (by simpa using x)
      rw [e, if_neg hh, ← i1]
      rw [trR_cons, trR_cons, if_neg h62, if_neg h62]
      exact ⟨rfl, rfl⟩
theorem parts_tr (fs : List Nat) (h : ∀ f ∈ fs, f ≤ 64) (d : D) : trParts d (fs.map sgn) = partsR d fs fs.length := by
  unfold trParts
  rw [trStep_fs d fs [] false h, List.nil_append, (trR_pick d fs).1, partsR_pick]

/-! paths -/
def lstep (p : List (List Nat)) (f : Nat) : List (List Nat) := if f = 62 then [] else p ++ [ptN f]
def ledN (p : List (List Nat)) (fs : List Nat) : List (List Nat) := fs.foldl lstep p
theorem ledN_pick : ∀ (fs : List Nat) (p : List (List Nat)), (pick fs).foldl lstep p = ledN p fs
  | [], _ => rfl
  | f :: r, p => by
    rw [pick_cons]
    by_cases h : f = 62 ∧ r.head? = some 62
    · rw [if_pos h, ledN_pick r p]
      obtain ⟨rfl, h2⟩ := h
      cases r with
      | nil => cases h2
      | cons a r =>
        have : a = 62 := by simpa using h2
        subst this
        rfl
    · rw [if_neg h, List.foldl_cons, ledN_pick r]; rfl
theorem ptN_nm {f : Nat} (h : f ≤ 64) (h62 : f ≠ 62) : Nm (ptN f) := by
  unfold ptN
  rw [if_neg h62]
  split
  · exact ⟨by decide, by decide, by decide, by decide⟩
  · exact ⟨(fun e => nomatch e), (fun e => sgn_dot h (by simpa using e)), (fun e => sgn_sl h (List.mem_singleton.mp e).symm), Nat.le_succ 1⟩
theorem lstep_nm {p : List (List Nat)} {f : Nat} (hp : ∀ n ∈ p, Nm n) (hf : f ≤ 64) : ∀ n ∈ lstep p f, Nm n := by
  unfold lstep
  by_cases h62 : f = 62
  · rw [if_pos h62]; exact fun n hn => nomatch hn
  · rw [if_neg h62]
    intro n hn
    rcases List.mem_append.mp hn with hn | hn
    · exact hp n hn
    · rw [List.mem_singleton.mp hn]; exact ptN_nm hf h62
theorem ledN_nm : ∀ (fs : List Nat) (p : List (List Nat)), (∀ n ∈ p, Nm n) → (∀ f ∈ fs, f ≤ 64) → ∀ n ∈ ledN p fs, Nm n
  | [], p, hp, _ => hp
  | f :: r, p, hp, hf => ledN_nm r _ (lstep_nm hp (hf f (.head _))) fun x hx => hf x (.tail _ hx)
theorem ledN_len : ∀ (fs : List Nat) (p : List (List Nat)), (ledN p fs).length ≤ p.length + fs.length
  | [], p => Nat.le_refl _
  | f :: r, p => by
    have := ledN_len r (lstep p f)
    have h2 : (lstep p f).length ≤ p.length + 1 := by
      unfold lstep; split
      · exact Nat.zero_le _
      · simp
    show (ledN (lstep p f) r).length ≤ _
    rw [List.length_cons]; omega
theorem glue_snoc : ∀ (p : List (List Nat)) (x : List Nat), p ≠ [] → glue [47] (p ++ [x]) = glue [47] p ++ 47 :: x
  | [], _, h => absurd rfl h
  | [a], x, _ => by show a ++ [47] ++ x = a ++ 47 :: x; simp
  | a :: b :: r, x, _ => by
    show a ++ [47] ++ glue [47] ((b :: r) ++ [x]) = (a ++ [47] ++ glue [47] (b :: r)) ++ 47 :: x
    rw [glue_snoc (b :: r) x (List.cons_ne_nil _ _)]; simp
theorem glue_last : ∀ (p : List (List Nat)), p ≠ [] → (∀ n ∈ p, Nm n) → (47 :: glue [47] p).getLast? ≠ some 47
  | [], h, _ => absurd rfl h
  | [a], _, h => by
    obtain ⟨h1, _, h3, _⟩ := h a (.head _)
    show (47 :: a).getLast? ≠ some 47
    intro e
    rcases List.eq_nil_or_concat a with rfl | ⟨a', l, rfl⟩
    · exact h1 rfl
    · rw [List.concat_eq_append, ← List.cons_append, List.getLast?_concat] at e
      have : l = 47 := by simpa using e
      exact h3 (by rw [this]; simp)
  | a :: b :: r, _, h => by
    have ih := glue_last (b :: r) (List.cons_ne_nil _ _) fun n hn => h n (.tail _ hn)
    intro e
    apply ih
    have e1 : (47 :: glue [47] (a :: b :: r)) = (47 :: a) ++ (47 :: glue [47] (b :: r)) := by
      show 47 :: (a ++ [47] ++ glue [47] (b :: r)) = _
      simp
    rw [e1, List.getLast?_append] at e
    cases hh : (47 :: glue [47] (b :: r)).getLast? with
    | none => simp at hh
    | some v => rw [hh] at e; simpa using e
theorem join_path {p : List (List Nat)} {x : List Nat} (hp : ∀ n ∈ p, Nm n) (hx : x.head? ≠ some 47) : joinT (pathOf p) x = pathOf (p ++ [x]) := by
  unfold joinT
  have hne : ¬ (x.head? = some 47 ∨ pathOf p = []) := by
    rintro (h | h)
    · exact hx h
    · cases h
  rw [if_neg hne]
  by_cases h0 : p = []
  · subst h0; rfl
  · rw [if_neg (show ¬ (pathOf p).getLast? = some 47 from glue_last p h0 hp)]
    unfold pathOf
    rw [glue_snoc p x h0]; rfl
theorem join_root (a : List Nat) : joinT a [47] = pathOf [] := by
  unfold joinT; rw [if_pos (.inl rfl)]; rfl
theorem led_step {p : List (List Nat)} {f : Nat} (hp : ∀ n ∈ p, Nm n) (hf : f ≤ 64) : joinT (pathOf p) (ptN f) = pathOf (lstep p f) := by
  unfold lstep
  by_cases h62 : f = 62
  · rw [if_pos h62]
    have : ptN f = [47] := by unfold ptN; rw [if_pos h62]
    rw [this]; exact join_root _
  · rw [if_neg h62]
    obtain ⟨h1, _, h3, _⟩ := ptN_nm hf h62
    refine join_path hp fun e => ?_
    cases hq : ptN f with
    | nil => exact h1 hq
    | cons a r =>
      rw [hq] at e h3
      have : a = 47 := by simpa using e
      exact h3 (by rw [this]; exact .head _)
theorem led_fold : ∀ (fs : List Nat) (p : List (List Nat)), (∀ n ∈ p, Nm n) → (∀ f ∈ fs, f ≤ 64) → (fs.map ptN).foldl joinT (pathOf p) = pathOf (fs.foldl lstep p)
  | [], _, _, _ => rfl
  | f :: r, p, hp, hf => by
    rw [List.map_cons, List.foldl_cons, List.foldl_cons, led_step hp (hf f (.head _))]
    exact led_fold r _ (lstep_nm hp (hf f (.head _))) fun x hx => hf x (.tail _ hx)
theorem pick_sub : ∀ (fs : List Nat), ∀ f ∈ pick fs, f ∈ fs
  | [], f, h => h
  | a :: r, f, h => by
    rw [pick_cons] at h
    split at h
    · exact .tail _ (pick_sub r f h)
    · rcases List.mem_cons.mp h with rfl | h
      · exact .head _
      · exact .tail _ (pick_sub r f h)
theorem ledP_path {p : List (List Nat)} {fs : List Nat} (hp : ∀ n ∈ p, Nm n) (hf : ∀ f ∈ fs, f ≤ 64) : ledP fs (pathOf p) = pathOf (ledN p fs) := by
  unfold ledP
  rw [ptsN_pick, led_fold _ _ hp fun f h => hf f (pick_sub fs f h), ledN_pick]
theorem norm_snoc (p : List (List Nat)) (x : List Nat) : norm (p ++ [x]) = nstep (norm p) x := by unfold norm; rw [List.foldl_append]; rfl
theorem norm_step (p : List (List Nat)) (f : Nat) : norm (lstep p f) = step (norm p) f := by
  unfold lstep step
  by_cases h62 : f = 62
  · rw [if_pos h62, if_pos h62]; rfl
  · rw [if_neg h62, if_neg h62, norm_snoc]
    unfold nstep ptN
    rw [if_neg h62]
    by_cases h63 : f = 63
    · rw [if_pos h63, if_pos h63]; rfl
    · rw [if_neg h63, if_neg h63, if_neg (List.cons_ne_nil _ _), if_neg (fun e => by simp at e)]
theorem norm_led : ∀ (fs : List Nat) (p : List (List Nat)), norm (ledN p fs) = walk (norm p) fs
  | [], _ => rfl
  | f :: r, p => by
    show norm (ledN (lstep p f) r) = walk (step (norm p) f) r
    rw [norm_led r, norm_step]
/-- a name of a place -/
def Sg (n : List Nat) : Prop := ∃ f, f ≤ 64 ∧ f ≠ 62 ∧ n = [sgn f]
theorem Sg.nm {n : List Nat} (h : Sg n) : Nm n := by
  obtain ⟨f, hf, _, rfl⟩ := h
  exact ⟨(fun e => nomatch e), (fun e => sgn_dot hf (by simpa using e)), (fun e => sgn_sl hf (List.mem_singleton.mp e).symm), Nat.le_succ 1⟩
theorem norm_sg : ∀ (p acc : List (List Nat)), (∀ n ∈ p, Sg n) → p.foldl nstep acc = acc ++ p
  | [], acc, _ => by simp
  | n :: r, acc, h => by
    obtain ⟨f, _, _, rfl⟩ := h n (.head _)
    rw [List.foldl_cons]
    have : nstep acc [sgn f] = acc ++ [[sgn f]] := by
      unfold nstep; rw [if_neg (List.cons_ne_nil _ _), if_neg (fun e => by simp at e)]
    rw [this, norm_sg r _ fun n hn => h n (.tail _ hn)]; simp
theorem norm_place {p : List (List Nat)} (h : ∀ n ∈ p, Sg n) : norm p = p := by
  unfold norm; rw [norm_sg p [] h]; rfl
theorem step_sg {p : List (List Nat)} {f : Nat} (hp : ∀ n ∈ p, Sg n) (hf : f ≤ 64) : ∀ n ∈ step p f, Sg n := by
  unfold step
  by_cases h62 : f = 62
  · rw [if_pos h62]; exact fun n hn => nomatch hn
  · rw [if_neg h62]
    split
    · exact fun n hn => hp n (List.dropLast_subset _ hn)
    · intro n hn
      rcases List.mem_append.mp hn with hn | hn
      · exact hp n hn
      · rw [List.mem_singleton.mp hn]; exact ⟨f, hf, h62, rfl⟩
theorem walk_sg : ∀ (fs : List Nat) (p : List (List Nat)), (∀ n ∈ p, Sg n) → (∀ f ∈ fs, f ≤ 64) → ∀ n ∈ walk p fs, Sg n
  | [], p, hp, _ => hp
  | f :: r, p, hp, hf => walk_sg r _ (step_sg hp (hf f (.head _))) fun x hx => hf x (.tail _ hx)
theorem place_sg (hs : List (List Nat)) (i : Nat) : ∀ n ∈ placeAt hs i, Sg n := by
  have key : ∀ (l : List (List Nat)) (p : List (List Nat)), (∀ n ∈ p, Sg n) → ∀ n ∈ l.foldl (fun p h => walk p (figs h)) p, Sg n := by
    intro l
    induction l with
    | nil => intro p hp; exact hp
    | cons h r ih => intro p hp; exact ih _ (walk_sg _ _ hp (figs_le h))
  exact key _ [] fun n hn => nomatch hn

/-! what lies behind the last star -/
theorem after_no : ∀ fs : List Nat, 62 ∉ after fs
  | [] => fun h => nomatch h
  | f :: r => by
    unfold after
    split
    · exact after_no r
    · rename_i h
      split
      · exact h
      · rename_i h2
        intro hm
        rcases List.mem_cons.mp hm with e | hm
        · exact h2 e.symm
        · exact h hm
theorem ptN_mvN {f : Nat} (h : f ≠ 62) : ptN f = mvN f := by unfold ptN mvN; rw [if_neg h, if_neg h]
theorem led_after : ∀ (fs : List Nat) (p : List (List Nat)), ledN p fs = if 62 ∈ fs then (after fs).map mvN else p ++ fs.map mvN
  | [], p => by simp [ledN]
  | f :: r, p => by
    show ledN (lstep p f) r = _
    rw [led_after r]
    by_cases hr : 62 ∈ r
    · rw [if_pos hr, if_pos (.tail _ hr)]
      have : after (f :: r) = after r := by unfold after; rw [if_pos hr]; cases r <;> rfl
      rw [this]
    · rw [if_neg hr]
      by_cases hf : f = 62
      · subst hf
        rw [if_pos (.head _)]
        have : after (62 :: r) = r := by unfold after; rw [if_neg hr, if_pos rfl]
        rw [this]
        unfold lstep; rw [if_pos rfl]; rfl
      · have hn : ¬ 62 ∈ f :: r := fun h => by
          rcases List.mem_cons.mp h with e | h
          · exact hf e.symm
          · exact hr h
        rw [if_neg hn]
        unfold lstep
        rw [if_neg hf, ptN_mvN hf]; simp
theorem led_behind (fs : List Nat) : ledN [] fs = (after fs).map mvN := by
  rw [led_after]
  by_cases h : 62 ∈ fs
  · rw [if_pos h]
  · rw [if_neg h, after_none h]; rfl
def handsOf (os : List Nat) : List (List Nat) := (List.range ((os.length + 2) / 3)).map fun i => (os.drop (3 * i)).take 3
def figA (os : List Nat) : List Nat := (handsOf os).flatMap figs
theorem hands_more (a b c : Nat) (r : List Nat) : handsOf (a :: b :: c :: r) = [a, b, c] :: handsOf r := by
  unfold handsOf
  have e : ((a :: b :: c :: r).length + 2) / 3 = (r.length + 2) / 3 + 1 := by simp only [List.length_cons]; omega
  rw [e, List.range_succ_eq_map, List.map_cons, List.map_map]
  congr 1
theorem figA_more (a b c : Nat) (r : List Nat) : figA (a :: b :: c :: r) = figs [a, b, c] ++ figA r := by
  unfold figA; rw [hands_more, List.flatMap_cons]
theorem hands_len (os : List Nat) : ∀ h ∈ handsOf os, h.length ≤ 3 := by
  intro h hm
  obtain ⟨i, _, rfl⟩ := List.mem_map.mp hm
  rw [List.length_take]; omega
theorem hands_mem (os : List Nat) : ∀ h ∈ handsOf os, ∀ o ∈ h, o ∈ os := by
  intro h hm o ho
  obtain ⟨i, _, rfl⟩ := List.mem_map.mp hm
  exact List.mem_of_mem_drop (List.mem_of_mem_take ho)
theorem figA_le (os : List Nat) : ∀ f ∈ figA os, f ≤ 64 := by
  intro f hf
  obtain ⟨h, _, hf⟩ := List.mem_flatMap.mp hf
  exact figs_le h f hf
theorem flat_len : ∀ (hs : List (List Nat)), (∀ h ∈ hs, h.length ≤ 3) → (hs.flatMap figs).length = 4 * hs.length
  | [], _ => rfl
  | h :: r, hh => by
    rw [List.flatMap_cons, List.length_append, figs_len (hh h (.head _)), flat_len r fun x hx => hh x (.tail _ hx), List.length_cons]; omega
theorem figA_len (os : List Nat) : (figA os).length = 4 * ((os.length + 2) / 3) := by
  unfold figA; rw [flat_len _ (hands_len os)]; unfold handsOf; simp
/-- a hand alone -/
theorem figA_hand {h : List Nat} (hne : h ≠ []) (hl : h.length ≤ 3) : figA h = figs h := by
  have e : handsOf h = [h] := by
    unfold handsOf
    have : (h.length + 2) / 3 = 1 := by have := List.length_pos_iff.mpr hne; omega
    rw [this]
    show [(h.drop (3 * 0)).take 3] = [h]
    rw [Nat.mul_zero, List.drop_zero, List.take_of_length_le hl]
  unfold figA; rw [e]; simp

def b64s (f : Nat) : Nat := if f = 64 then 61 else b64c f
theorem emit8 (nc : Nat) (out : List Nat) : emit nc 8 out = (out ++ [b64c (nc / 4 % 64)], 2) := by
  rw [emit_ge (by decide)]; exact emit_lt (by decide)
theorem emit10 (nc : Nat) (out : List Nat) : emit nc 10 out = (out ++ [b64c (nc / 16 % 64)], 4) := by
  rw [emit_ge (by decide)]; exact emit_lt (by decide)
theorem emit12 (nc : Nat) (out : List Nat) : emit nc 12 out = (out ++ [b64c (nc / 64 % 64)] ++ [b64c (nc / 1 % 64)], 0) := by
  rw [emit_ge (by decide), emit_ge (by decide)]; exact emit_lt (by decide)
theorem step0 (out : List Nat) (lc a : Nat) : stepB (out, 0, lc) a = (out ++ [b64c ((lc * 256 + a) % 65536 / 4 % 64)], 2, (lc * 256 + a) % 65536) := by
  show ((emit ((lc * 256 + a) % 65536) 8 out).1, (emit ((lc * 256 + a) % 65536) 8 out).2, _) = _
  rw [emit8]
theorem step2 (out : List Nat) (lc a : Nat) : stepB (out, 2, lc) a = (out ++ [b64c ((lc * 256 + a) % 65536 / 16 % 64)], 4, (lc * 256 + a) % 65536) := by
  show ((emit ((lc * 256 + a) % 65536) 10 out).1, (emit ((lc * 256 + a) % 65536) 10 out).2, _) = _
  rw [emit10]
theorem step4 (out : List Nat) (lc a : Nat) : stepB (out, 4, lc) a = (out ++ [b64c ((lc * 256 + a) % 65536 / 64 % 64)] ++ [b64c ((lc * 256 + a) % 65536 / 1 % 64)], 0, (lc * 256 + a) % 65536) := by
  show ((emit ((lc * 256 + a) % 65536) 12 out).1, (emit ((lc * 256 + a) % 65536) 12 out).2, _) = _
  rw [emit12]
theorem b64s_lt {f : Nat} (h : f < 64) : b64s f = b64c f := by unfold b64s; rw [if_neg (by omega)]
theorem figs3 (a b c : Nat) : figs [a, b, c] = [((a * 256 + b) * 256 + c) / 262144 % 64, ((a * 256 + b) * 256 + c) / 4096 % 64, ((a * 256 + b) * 256 + c) / 64 % 64, ((a * 256 + b) * 256 + c) / 1 % 64] := by
  have : valOf [a, b, c] = (a * 256 + b) * 256 + c := by
    show ((0 * 256 + a) * 256 + b) * 256 + c = _
    omega
  unfold figs; rw [this]; rfl
theorem figs2 (a b : Nat) : figs [a, b] = [((a * 256 + b) * 256) / 262144 % 64, ((a * 256 + b) * 256) / 4096 % 64, ((a * 256 + b) * 256) / 64 % 64, 64] := by
  have : valOf [a, b] = (a * 256 + b) * 256 := by
    show ((0 * 256 + a) * 256 + b) * 256 + 0 = _
    omega
  unfold figs; rw [this]; rfl
theorem figs1 (a : Nat) : figs [a] = [(a * 65536) / 262144 % 64, (a * 65536) / 4096 % 64, 64, 64] := by
  have : valOf [a] = a * 65536 := by
    show ((0 * 256 + a) * 256 + 0) * 256 + 0 = _
    omega
  unfold figs; rw [this]; rfl
theorem b64_fold : ∀ (n : Nat) (os : List Nat), os.length ≤ n → (∀ o ∈ os, o < 256) → ∀ (out : List Nat) (lc : Nat), finB (os.foldl stepB (out, 0, lc)) = out ++ (figA os).map b64s
  | _, [], _, _, out, lc => by
    show finB (out, 0, lc) = _
    unfold finB
    rw [if_neg (show ¬ (0 = 2) by decide), if_neg (show ¬ (0 = 4) by decide)]
    show out = out ++ []
    simp
  | _, [a], _, h, out, lc => by
    have ha := h a (.head _)
    rw [figA_hand (h := [a]) (List.cons_ne_nil _ _) (Nat.le_add_left 1 2), figs1]
    show finB (stepB (out, 0, lc) a) = _
    rw [step0]
    unfold finB
    rw [if_pos rfl]
    simp only [List.map_cons, List.map_nil]
    rw [b64s_lt (Nat.mod_lt _ (by decide)), b64s_lt (Nat.mod_lt _ (by decide))]
    have e1 : (lc * 256 + a) % 65536 / 4 % 64 = a * 65536 / 262144 % 64 := by omega
    have e2 : (lc * 256 + a) % 65536 % 4 * 16 = a * 65536 / 4096 % 64 := by omega
    rw [e1, e2]
    simp [b64s]
  | _, [a, b], _, h, out, lc => by
    have ha := h a (.head _)
    have hb := h b (.tail _ (.head _))
    rw [figA_hand (h := [a, b]) (List.cons_ne_nil _ _) (Nat.le_add_left 2 1), figs2]
    show finB (stepB (stepB (out, 0, lc) a) b) = _
    rw [step0, step2]
    unfold finB
    rw [if_neg (show ¬ (4 = 2) by decide), if_pos rfl]
    simp only [List.map_cons, List.map_nil]
    rw [b64s_lt (Nat.mod_lt _ (by decide)), b64s_lt (Nat.mod_lt _ (by decide)), b64s_lt (Nat.mod_lt _ (by decide))]
    have e1 : (lc * 256 + a) % 65536 / 4 % 64 = (a * 256 + b) * 256 / 262144 % 64 := by omega
    have e2 : ((lc * 256 + a) % 65536 * 256 + b) % 65536 / 16 % 64 = (a * 256 + b) * 256 / 4096 % 64 := by omega
    have e3 : ((lc * 256 + a) % 65536 * 256 + b) % 65536 % 16 * 4 = (a * 256 + b) * 256 / 64 % 64 := by omega
    rw [e1, e2, e3]
    simp [b64s]
  | n + 1, a :: b :: c :: r, hn, h, out, lc => by
    have ha := h a (.head _)
    have hb := h b (.tail _ (.head _))
    have hc := h c (.tail _ (.tail _ (.head _)))
    rw [figA_more, figs3, List.foldl_cons, List.foldl_cons, List.foldl_cons, step0, step2, step4]
    rw [b64_fold n r (by simp only [List.length_cons] at hn; omega) (fun o ho => h o (.tail _ (.tail _ (.tail _ ho))))]
    rw [List.map_append]
    simp only [List.map_cons, List.map_nil]
    rw [b64s_lt (Nat.mod_lt _ (by decide)), b64s_lt (Nat.mod_lt _ (by decide)), b64s_lt (Nat.mod_lt _ (by decide)), b64s_lt (Nat.mod_lt _ (by decide))]
    have e1 : (lc * 256 + a) % 65536 / 4 % 64 = ((a * 256 + b) * 256 + c) / 262144 % 64 := by omega
    have e2 : ((lc * 256 + a) % 65536 * 256 + b) % 65536 / 16 % 64 = ((a * 256 + b) * 256 + c) / 4096 % 64 := by omega
    have e3 : (((lc * 256 + a) % 65536 * 256 + b) % 65536 * 256 + c) % 65536 / 64 % 64 = ((a * 256 + b) * 256 + c) / 64 % 64 := by omega
    have e4 : (((lc * 256 + a) % 65536 * 256 + b) % 65536 * 256 + c) % 65536 / 1 % 64 = ((a * 256 + b) * 256 + c) / 1 % 64 := by omega
    rw [e1, e2, e3, e4]
    simp
theorem b64_figs {os : List Nat} (h : ∀ o ∈ os, o < 256) : b64 os = (figA os).map b64s := by
  unfold b64; rw [b64_fold os.length os (Nat.le_refl _) h]; rfl
theorem tab_sgn : ∀ n : Fin 65, (mkTable #[43, 47] #[42, 63]).getD ((b64s n.val).toUInt8).toNat ((b64s n.val).toUInt8) = (sgn n.val).toUInt8 := by decide +kernel
theorem trans_list (tab : Array UInt8) (l : List UInt8) : trans l.toArray tab = (l.map fun c => tab.getD c.toNat c).toArray := by
  unfold trans; simp
theorem b64_trans {os : List Nat} (h : ∀ o ∈ os, o < 256) : trans (u8s (b64 os)) (mkTable #[43, 47] #[42, 63]) = u8s ((figA os).map sgn) := by
  rw [b64_figs h]
  unfold u8s
  rw [trans_list, List.map_map, List.map_map, List.map_map]
  congr 1
  refine List.map_congr_left fun f hf => ?_
  exact tab_sgn ⟨f, by have := figA_le os f hf; omega⟩
theorem hand_trans {h : List Nat} (hne : h ≠ []) (hl : h.length ≤ 3) (ho : ∀ o ∈ h, o < 256) : trans (u8s (b64 h)) (mkTable #[43, 47] #[42, 63]) = u8s ((figs h).map sgn) := by
  have := b64_trans ho
  rw [figA_hand hne hl] at this; exact this
section
variable {prog : Program} {w : World} {A : Around} {E : Value → Shared → Prop} {s : Shared} {g : GH} {Q : Value → Shared → Prop}
def leastOf (ps : List (List (List Nat))) : List (List Nat) := ps.getD (argBest (lessAt ps) (ps.length - 1)) []
def mostOf (ps : List (List (List Nat))) : List (List Nat) := ps.getD (argBest (moreAt ps) (ps.length - 1)) []
def splitD : D → D
  | .s x => .l ((Txt.split x (S [47])).map .s)
  | d => d
theorem glue_path (p : List (List Nat)) : glue [47] ([] :: cut p) = pathOf p := by
  have h : cut p ≠ [] := by
    unfold cut; split
    · exact fun h => nomatch h
    · assumption
  unfold pathOf
  rw [← cut_glue p]
  cases hc : cut p with
  | nil => exact absurd hc h
  | cons a r => rfl
theorem split_path {p : List (List Nat)} (hp : ∀ n ∈ p, Nm n) : splitD (sd (pathOf p)) = .l (([] :: cut p).map sd) := by
  show D.l ((Txt.split (S (pathOf p)) (S [47])).map .s) = _
  rw [← glue_path p, split_glue 47 ([] :: cut p) (List.cons_ne_nil _ _) ?_, List.map_map]; rfl
  intro q hq
  rcases List.mem_cons.mp hq with rfl | hq
  · exact fun h => nomatch h
  · unfold cut at hq
    split at hq
    · rw [List.mem_singleton.mp hq]; exact fun h => nomatch h
    · exact (hp q hq).sl
def keepD : D → Bool
  | .s x => !decide (x = S []) && !decide (x = S [46])
  | _ => true
def keepL : D → D
  | .l xs => .l (xs.filter keepD)
  | d => d
theorem keepD_sd (q : List Nat) : keepD (sd q) = (!decide (q = []) && !decide (q = [46])) := by
  have h : ∀ a : List Nat, decide (S q = S a) = decide (q = a) := fun a => decide_eq_decide.mpr ⟨S_inj, fun h => by rw [h]⟩
  show (!decide (S q = S []) && !decide (S q = S [46])) = _
  rw [h, h]
theorem keep_cut {p : List (List Nat)} (hp : ∀ n ∈ p, Nm n) : (([] :: cut p).map sd).filter keepD = p.map sd := by
  have h0 : keepD (sd []) = false := by rw [keepD_sd]; rfl
  have h1 : ∀ q : List (List Nat), (∀ n ∈ q, Nm n) → (q.map sd).filter keepD = q.map sd := fun q hq => by
    rw [List.filter_eq_self]
    intro d hd
    obtain ⟨n, hn, rfl⟩ := List.mem_map.mp hd
    rw [keepD_sd, decide_eq_false (hq n hn).ne, decide_eq_false (hq n hn).dot]; rfl
  rw [List.map_cons, List.filter_cons_of_neg (by rw [h0]; decide)]
  unfold cut; split
  · rename_i h; subst h
    rw [List.map_cons, List.filter_cons_of_neg (by rw [h0]; decide)]; rfl
  · exact h1 p hp
theorem lexLt_more : ∀ (b : List (List Nat)) (x : List Nat) (r : List (List Nat)), lexLt b (b ++ x :: r) = true
  | [], _, _ => rfl
  | y :: b, x, r => by
    show lexLt (y :: b) (y :: (b ++ x :: r)) = true
    rw [lexLt_cons, if_pos rfl]; exact lexLt_more b x r
theorem lex_next {a b : List (List Nat)} (h : lexLt b a = false) {i : Nat} (hp : a.take i = b.take i) (hi : i < a.length) : i < b.length := by
  refine Nat.lt_of_not_le fun hb => ?_
  rw [List.take_of_length_le hb] at hp
  have e : a = b ++ a[i] :: a.drop (i + 1) := by
    rw [← hp, ← List.drop_eq_getElem_cons hi, List.take_append_drop]
  rw [e, lexLt_more] at h; cases h
theorem lcp_at : ∀ (i : Nat) (a b : List (List Nat)) (x y : List Nat), a.take i = b.take i → a[i]? = some x → b[i]? = some y → x ≠ y → lcp a b = a.take i
  | 0, a, b, x, y, _, ha, hb, hxy => by
    cases a with
    | nil => cases ha
    | cons a1 a =>
      cases b with
      | nil => cases hb
      | cons b1 b =>
        simp at ha hb
        subst ha; subst hb
        unfold lcp; rw [if_neg hxy]; rfl
  | i + 1, a, b, x, y, hp, ha, hb, hxy => by
    cases a with
    | nil => cases ha
    | cons a1 a =>
      cases b with
      | nil => cases hb
      | cons b1 b =>
        simp only [List.take_succ_cons, List.cons.injEq] at hp
        simp only [List.getElem?_cons_succ] at ha hb
        unfold lcp
        rw [if_pos hp.1, lcp_at i a b x y hp.2 ha hb hxy]; rfl
theorem lcp_sub : ∀ (a b : List (List Nat)), ∀ n ∈ lcp a b, n ∈ a
  | [], b, n, h => by cases b <;> exact h
  | x :: a, [], n, h => nomatch h
  | x :: a, y :: b, n, h => by
    unfold lcp at h
    split at h
    · rcases List.mem_cons.mp h with rfl | h
      · exact .head _
      · exact .tail _ (lcp_sub a b n h)
    · cases h
theorem most_least (ps : List (List (List Nat))) : lexLt (mostOf ps) (leastOf ps) = false := argBest_max ps _ _ (argBest_le _ _)
theorem least_mem {ps : List (List (List Nat))} (hne : ps ≠ []) : leastOf ps ∈ ps := by
  have h : argBest (lessAt ps) (ps.length - 1) < ps.length := Nat.lt_of_le_of_lt (argBest_le _ _) (Nat.sub_lt (List.length_pos_iff.mpr hne) (by decide))
  unfold leastOf
  rw [List.getD_eq_getElem?_getD, List.getElem?_eq_getElem h]
  exact List.getElem_mem h
theorem most_mem {ps : List (List (List Nat))} (hne : ps ≠ []) : mostOf ps ∈ ps := by
  have h : argBest (moreAt ps) (ps.length - 1) < ps.length := Nat.lt_of_le_of_lt (argBest_le _ _) (Nat.sub_lt (List.length_pos_iff.mpr hne) (by decide))
  unfold mostOf
  rw [List.getD_eq_getElem?_getD, List.getElem?_eq_getElem h]
  exact List.getElem_mem h
theorem ztruthyT {h₀ : Heap} {g₀ fx gi : GH} {mu : List (Addr × MV)} {ls : List (Str × D)} {L : Addr} {a : Addr} {ds : List D} {Q : Bool → Shared → Prop} (X : Fz h₀ g₀ fx gi mu ls L s.heap) (ha : Has gi (.ref a) (.t ds)) (hf : ds.length < 2 ^ 62)
    (h : Q (!ds.isEmpty) { s with toks := s.toks + 1 + 1 }) : wpAny (model prog w) A (truthy (.ref a)) Q E s := by
  obtain ⟨vs, n, xa⟩ := ha.objT X.sub
  have e : vs.toArray.size = ds.length := by rw [List.size_toArray, xa.all.1]
  have e2 : vs.toArray.isEmpty = ds.isEmpty := by
    cases vs with
    | nil => cases ds with
      | nil => rfl
      | cons d r => exact absurd xa.all.1 (by simp)
    | cons v r => cases ds with
      | nil => exact absurd xa.all.1 (by simp)
      | cons d r => rfl
  exact truthy_tuple xa.tup (by rw [e]; omega) (by rw [e2]; exact h)
/-- a map of fspath over a list of texts stands -/
def MapAt (h₁ : Heap) (m : Addr) (vs : List Value) (h' : Heap) : Prop :=
  m = h₁.objs.size + 2 ∧ h'.objs.size = h₁.objs.size + 3 ∧ ∃ a, a < h₁.objs.size ∧ MapSt h₁ m (h₁.objs.size + 1) h₁.objs.size a (.ref 111) vs.toArray 0 h'
section
variable {E : Value → Shared → Prop} {h₀ : Heap} {g₀ fx gi : GH} {mu : List (Addr × MV)} {ls : List (Str × D)} {L : Addr}
theorem zmapfs {a : Addr} {xs : List (List Nat)} (X : Fz h₀ g₀ fx gi mu ls L s.heap) (ha : Has gi (.ref a) (.l (xs.map sd)))
    (h : ∀ m vs h', HasAll gi vs (xs.map sd) → MapAt s.heap m vs h' → Q (.ref m) { s with heap := h' }) : wpAny (model prog w) A (call (.type "map") [.ref 111, .ref a]) Q E s := by
  obtain ⟨vs, n, xa⟩ := ha.obj X.sub
  exact call_map xa.ob fun h' M hz => h _ vs h' xa.all ⟨rfl, hz, a, Heap.lt_size xa.ob, M⟩
theorem ztuplefs {h₁ : Heap} {m : Addr} {vs : List Value} {xs : List (List Nat)} (ok : Ok 6 A) (G : Gl hd.heap_1 w h₀) (X : Fz h₀ g₀ fx gi mu ls L h₁) (hv : HasAll gi vs (xs.map sd)) (hl : xs.length ≤ 1000) (M : MapAt h₁ m vs s.heap)
    (h : ∀ q g' h' tk, gi.le g' → Fz h₀ g₀ fx g' mu ls L h' → Has g' (.ref q) (.t (xs.map sd)) → Q (.ref q) { s with heap := h', toks := tk }) : wpAny (model prog w) A (call (.type "tuple") [.ref m]) Q E s := by
  obtain ⟨rfl, hz, a, hlt, M⟩ := M
  have hlen : vs.length = xs.length := by have := hv.1; simpa using this
  have hsz : vs.toArray.size = xs.length := by simp [hlen]
  have W := walks_map (prog := prog) (w := w) (A := A.in1.in1.in1) ok.hd h₁ (h₁.objs.size + 2) (h₁.objs.size + 1) h₁.objs.size a (.ref 111) vs.toArray (fun i v => ∃ t, v = .str (S (xs.getD i [])) t) (Nat.le_add_right _ _) (Nat.le_succ _) (Nat.le_refl _) (Nat.ne_of_gt (Nat.lt_add_of_pos_right (by decide))) (Nat.succ_ne_self _) hlt ?_
  · refine call_tuple_map (hn := by rw [hsz]; exact Nat.le_trans hl (by decide)) W (fun i h Y => ⟨_, Y.mp, rfl⟩) M (fun b hb => ?_) (.head _) fun h' tk acc hk hacc => ?_
    · rw [hz]
      rcases List.mem_cons.mp hb with rfl | hb
      · exact Nat.lt_succ_self _
      · rcases List.mem_cons.mp hb with rfl | hb
        · exact Nat.add_lt_add_left (by decide) _
        · rcases List.mem_cons.mp hb with rfl | hb
          · exact Nat.lt_add_of_pos_right (by decide)
          · exact Nat.lt_of_lt_of_le (List.mem_range.mp hb) (Nat.le_add_right _ _)
    · have kk : ∀ b o, h₁.get? b = some o → (h'.push { cls := .type "tuple", data := .seq acc }).get? b = some o := fun b o e =>
        Heap.get?_push_of_some _ (hk b o (fun z => by rw [List.mem_singleton.mp z] at e; exact absurd (Heap.lt_size e) (Nat.lt_irrefl _)) (M.old b o e))
      have hnew := Heap.get?_push_size h' (o := { cls := .type "tuple", data := .seq acc }) rfl
      have hle : h₁.objs.size ≤ h'.objs.size := by
        have := hk (h₁.objs.size + 2) _ (by simp) M.mp
        have := Heap.lt_size this
        exact Nat.le_of_lt (Nat.lt_of_le_of_lt (Nat.le_add_right _ _) this)
      have hg : (grow gi h₁ (h'.push { cls := .type "tuple", data := .seq acc })) h'.objs.size = some { cls := .type "tuple", data := .seq acc } := by
        show (if h'.objs.size < h₁.objs.size then gi h'.objs.size else (h'.push { cls := .type "tuple", data := .seq acc }).get? h'.objs.size) = _
        rw [if_neg (Nat.not_lt.mpr hle)]; exact hnew
      have hg' : (grow gi h₁ (h'.push { cls := .type "tuple", data := .seq acc })) h'.objs.size = some { cls := .type "tuple", data := .seq acc.toList.toArray } := by simpa using hg
      refine h _ _ _ _ (grow_le X.sub) (X.ext kk) (Has.ofTup hg' ⟨?_, fun k v d e1 e2 => ?_⟩)
      · rw [Array.length_toList, hacc.1, hsz, List.length_map]
      · have e1' : acc[k]? = some v := by simpa using e1
        obtain ⟨t, rfl⟩ := hacc.2 k v e1'
        rw [List.getElem?_map] at e2
        obtain ⟨x, hx, rfl⟩ := Option.map_eq_some_iff.mp e2
        have : xs.getD k [] = x := by rw [List.getD_eq_getElem?_getD, hx]; rfl
        rw [this]; exact .s _ _
  · intro i v s' Q' E' hv' hk hQ'
    have hv2 : vs[i]? = some v := by simpa using hv'
    have hi : i < xs.length := hlen ▸ (List.getElem?_eq_some_iff.mp hv2).1
    obtain ⟨t, ht⟩ := (hv.2 i v (sd xs[i]) hv2 (by simp [hi])).unS
    subst ht
    have hx : xs.getD i [] = xs[i] := by simp [hi]
    refine spec_fspath (A := A.in1.in1.in1.in1) (Gl.keeps G fun b o e => hk b o (X.keep0 b o e)) (Ok.in1 (Ok.in1 (Ok.in1 (Ok.in1 ok)))) (g := gi) (fun b o e => hk b o (X.sub b o e)) ?_
    intro v h' tk k hv
    obtain ⟨t', rfl⟩ := hv.unS
    exact hQ' _ h' tk ⟨t', by rw [hx]⟩ k
end
theorem zassignSet {h₀ : Heap} {g₀ fx gi : GH} {mu : List (Addr × MV)} {ls : List (Str × D)} {L : Addr} {E : Value → Shared → Prop} {env : Env} {elts : List Expr} {k : Nat} {pos : Pos} {a : Addr} {Q : Unit → Shared → Prop} (hh : A.handled = none) (X : Fz h₀ g₀ fx gi mu ls L s.heap) (ha : gi a = some (setObj (!w.params.followText "set-order") true)) (hn : (assignEach elts env).length = 1) (hstar : (assignEach elts env).findIdx? (·.1) = none)
    (h : ∀ g' h', gi.le g' → Fz h₀ g₀ fx g' mu ls L h' → wpAny (model prog w) A (assignInOrder ((assignEach elts env).map (·.2)) [.bool true]) Q E { s with heap := h' }) :
    wpAny (model prog w) A (assign (.Tuple elts k pos) env (.ref a)) Q E s := by
  rw [arm_assign_Tuple]
  refine wpAny_bind (wpAny_standAt ?_)
  unfold unpack
  rw [hn, hstar]
  refine wpAny_bind (wpAny_holding (unpack_set hh (X.sub _ _ ha) fun h' k => ?_))
  exact h _ h' (grow_le X.sub) (X.ext k)
theorem spec_commonpath {ps : List (List (List Nat))} {pv : Value} (G : Gl hd.heap_1 w s.heap) (ok : Ok 9 A) (hg : g.le s.heap.get?) (hne : ps ≠ []) (hl : ps.length ≤ 20) (hp : ∀ p ∈ ps, p.length ≤ 100 ∧ ∀ n ∈ p, Nm n) (hP : Has g pv (.l ((ps.map pathOf).map sd))) (R : Ret s g (sd (pathOf (lcp (leastOf ps) (mostOf ps)))) Q) :
    wpAny (model prog w) A (call (.ref 151) [pv]) Q E s := by
  refine call_fzC g [("paths", pv)] [("paths", .l ((ps.map pathOf).map sd))] (fun L => [(L + 1, .cell none), (L + 2, .cell none)]) G hg (by k_is) (by k_is) ok.room (by rfl) (fun n x hx => by cases hx with | head => exact .inl rfl | tail _ h => cases h) ?_ ?_ (by intro L; simp) ?_ rfl rfl rfl
  · intro L p hp
    cases hp with
    | head => exact ⟨_, rfl, hP⟩
    | tail _ h => cases h
  · intro L p hp
    cases hp with
    | head => exact ⟨"sep", rfl, rfl⟩
    | tail _ h =>
      cases h with
      | head => exact ⟨"curdir", rfl, rfl⟩
      | tail _ h => cases h
  intro h₁ tk G X
  walk_at "zz"
  rename Fz _ _ _ _ _ _ _ _ => X
  rename Has _ _ _ => hv
  refine zmapfs X hv fun m vs h' hvs M => ?_
  walk_at "zz"
  refine ztuplefs (Ok.le (Ok.deeper ok) (by decide)) G X hvs (by simp; omega) M fun q g' h' tk le X hv => ?_
  walk_at "zz"
  have hpos : 0 < ps.length := List.length_pos_iff.mpr hne
  rename Fz _ _ _ _ _ _ _ _ => X
  refine ztruthyT X (by walk_at "has") (by simp; omega) ?_
  refine ite_f (by simp [hne]) ?_
  walk_at "zz"
  refine zitemT (d := sd (pathOf (ps.getD 0 []))) X (by walk_at "has") (by omega) (by omega) (by cases ps with | nil => exact absurd rfl hne | cons p r => rfl) fun v hv => ?_
  walk_at "un"
  walk_at "zz"
  refine IsiPair.str_bytes ?_
  walk_at "zz"
  refine ite_f (by decide) ?_
  walk_at "zz"
  refine zstC (v₀ := none) (d := sd [47]) (mu' := [(s.heap.objs.size + 1, .cell (some (sd [47]))), (s.heap.objs.size + 2, .cell none)]) X (q := s.heap.objs.size + 1) (by rfl) (.head _) (.s _ _) (by simp) fun h2 X => ?_
  walk_at "zz"
  refine zstC (v₀ := none) (d := sd [46]) (mu' := [(s.heap.objs.size + 1, .cell (some (sd [47]))), (s.heap.objs.size + 2, .cell (some (sd [46])))]) X (q := s.heap.objs.size + 2) (by rfl) (.tail _ (.head _)) (.s _ _) (by simp) fun h3 X => ?_
  walk_at "zz"
  refine zmapA (cl := [("sep", s.heap.objs.size + 1)]) splitD X (by with_unfolding_all rfl) (by decide) rfl (by decide) (by decide) ?_ (by with_unfolding_all rfl) rfl rfl
  walk_at "zz"
  refine ⟨_, _, _, _, X, srcTuple ok.hd X.sub (by walk_at "has"), by simp; omega, ?_, ?_⟩
  · intro i d C g' fx' mu' s₂ hd le X hm
    obtain ⟨y, hy, rfl⟩ := mapAt hd
    rw [List.getElem?_map] at hy
    obtain ⟨p, hpi, rfl⟩ := Option.map_eq_some_iff.mp hy
    obtain ⟨hp1, hp2⟩ := hp p (List.mem_of_getElem? hpi)
    walk_at "zz"
    have hgl := glue_len (xs := p) fun x hx => (hp2 x hx).len
    refine zsplitE (ps := [] :: cut p) (glue_path p) X (fun h => nomatch h) ?_ (by unfold pathOf; simp; omega) fun a g' h' k le X hv => ?_
    · intro q hq
      rcases List.mem_cons.mp hq with rfl | hq
      · exact fun h => nomatch h
      · unfold cut at hq
        split at hq
        · rw [List.mem_singleton.mp hq]; exact fun h => nomatch h
        · exact (hp2 q hq).sl
    · rw [← split_path hp2] at hv
      exact Elt.mk X (by walk_at "le") hv ⟨_, _, rfl⟩
  intro a1 g1 h1 tk1 le1 X
  walk_at "zz"
  refine zsetcomp (h₀ := s.heap) (g₀ := g) (fx := s.heap.get?) (cl := [("sep", s.heap.objs.size + 1)]) (by with_unfolding_all rfl) (by decide) rfl (by decide) (by decide) ?_
  walk_at "zz"
  refine ⟨_, _, _, _, X, srcTuple ok.hd X.sub (by walk_at "has"), by simp; omega, ?_, ?_⟩
  · intro i d C g' fx' mu' s₂ hd le X hm
    obtain ⟨y, hy, rfl⟩ := mapAt hd
    rw [List.getElem?_map] at hy
    obtain ⟨p, hpi, rfl⟩ := Option.map_eq_some_iff.mp hy
    walk_at "zz"
    have hh47 : ((pathOf p).head? == some 47) = true := by simp [pathOf]
    rw [hh47]
    exact Elt.mk X (by walk_at "le") (.bo true) ⟨_, _, rfl⟩
  intro a2 g2 h2 tk2 le2 X hset
  refine zassignSet ok.hd X hset rfl (by with_unfolding_all rfl) fun g3 h3 le3 X => ?_
  refine aio_cons (wpAny_assign_Name ?_)
  walk_at "zz"
  refine aio_nil ?_
  walk_at "zz"
  rename Fz _ _ _ _ _ _ _ _ => X
  refine zmapA (cl := [("curdir", s.heap.objs.size + 2)]) keepL X (by with_unfolding_all rfl) (by decide) rfl (by decide) (by decide) ?_ (by with_unfolding_all rfl) rfl rfl
  walk_at "zz"
  refine ⟨_, _, _, _, X, srcList ok.hd X.sub (by walk_at "has"), by simp; omega, ?_, ?_⟩
  · intro i d C g' fx' mu' s₂ hd le X hm
    obtain ⟨y, hy, rfl⟩ := mapAt hd
    obtain ⟨z, hz, rfl⟩ := mapAt hy
    rw [List.getElem?_map] at hz
    obtain ⟨p, hpi, rfl⟩ := Option.map_eq_some_iff.mp hz
    obtain ⟨hp1, hp2⟩ := hp p (List.mem_of_getElem? hpi)
    rw [split_path hp2] at X ⊢
    have hcl : (cut p).length ≤ 101 := by
      unfold cut; split
      · decide
      · omega
    refine zcomp (h₀ := s.heap) (g₀ := g) (fx := fx') (cl := [("curdir", s.heap.objs.size + 2)]) keepD id (by with_unfolding_all rfl) (by decide) rfl (by decide) (by decide) ?_
    walk_at "zz"
    refine ⟨_, _, _, _, X, srcList ok.hd X.sub (by walk_at "has"), by simp; omega, ?_, ?_, ?_⟩
    · intro i2 d2 C2 g2 fx2 mu2 s3 hd2 le2 X hm2
      obtain ⟨q, hq, rfl⟩ := mapAt hd2
      refine wpAny_tests_one ?_
      walk_at "zz"
      · by_cases hq0 : q = []
        · refine ite_f (by simp [hq0]) ?_
          exact ⟨by rw [keepD_sd, decide_eq_true hq0]; rfl, ⟨_, _, rfl⟩, _, by walk_at "le", X⟩
        · refine ite_t (by simp [hq0]) ?_
          walk_at "zz"
          by_cases hq46 : q = [46]
          · refine ite_f (by simp [hq46]) ?_
            exact ⟨by rw [keepD_sd, decide_eq_true hq46, Bool.not_true, Bool.and_false], ⟨_, _, rfl⟩, _, by walk_at "le", X⟩
          · refine ite_t (by simp [hq46]) ?_
            walk_at "zz"
            exact ⟨by rw [keepD_sd, decide_eq_false hq0, decide_eq_false hq46]; rfl, ⟨_, _, rfl⟩, _, by walk_at "le", X⟩
      · rcases List.mem_cons.mp (List.mem_of_getElem? hq) with rfl | hm3
        · exact Nat.zero_le _
        · unfold cut at hm3
          split at hm3
          · rw [List.mem_singleton.mp hm3]; exact Nat.zero_le _
          · exact Nat.le_trans (hp2 q hm3).len (by decide)
    · intro i2 d2 C2 g2 fx2 mu2 s3 hd2 hk2 le2 X hm2
      walk_at "zz"
      exact ⟨⟨_, _, rfl⟩, _, by walk_at "le", X, by assumption⟩
    · intro a5 g5 h5 tk5 le5 X hv
      rw [List.map_id] at hv
      exact Elt.mk X (by walk_at "le") hv ⟨_, _, rfl⟩
  intro a4 g4 h4 tk4 le4 X
  have esp : (((ps.map pathOf).map sd).map splitD).map keepL = ps.map fun p => D.l (p.map sd) := by
    rw [List.map_map, List.map_map, List.map_map]
    refine List.map_congr_left fun p hpm => ?_
    show keepL (splitD (sd (pathOf p))) = _
    rw [split_path (hp p hpm).2]
    show D.l _ = _
    rw [keep_cut (hp p hpm).2]
  rw [esp] at X
  walk_at "zz"
  rename Fz _ _ _ _ _ _ _ _ => X
  refine zmin ok.hd (Ok.c1 (Ok.deeper ok)) X (by walk_at "has") hne fun v g' h' tk le X hv => ?_
  walk_at "un"
  walk_at "zz"
  rename Fz _ _ _ _ _ _ _ _ => X
  refine zmax ok.hd (Ok.c1 (Ok.deeper ok)) X (by walk_at "has") hne fun v g' h' tk le X hv => ?_
  walk_at "un"
  walk_at "zz"
  rename Fz _ _ _ _ _ _ _ _ => X
  have hml := most_least ps
  obtain ⟨hL1, hL2⟩ := hp _ (least_mem hne)
  obtain ⟨hM1, hM2⟩ := hp _ (most_mem hne)
  change Fz _ _ _ _ _ (("common", dS (leastOf ps)) :: ("s2", dS (mostOf ps)) :: ("s1", dS (leastOf ps)) :: _) _ _ at X
  generalize leastOf ps = lo at *
  generalize mostOf ps = hi at *
  refine zForE ?_
  walk_at "zz"
  rename Fz _ _ _ _ _ _ _ _ => X
  refine zforE (σ := List (List Nat)) (fun _ => [(s.heap.objs.size + 1, .cell (some (sd [47]))), (s.heap.objs.size + 2, .cell (some (sd [46])))]) (fun c => [("common", dS c), ("s2", dS hi), ("s1", dS lo), ("isabs", .bo true)]) (fun i c => c = lo ∧ lo.take i = hi.take i) (fun c => c = lcp lo hi) lo ok.hd X (by walk_at "has") rfl (by walk_at "lk") ⟨rfl, rfl⟩ ?_ ?_
  · rintro i d c g' fx' s₁ hd ⟨rfl, hpre⟩ le X ⟨h2, tk2, rfl⟩
    obtain ⟨x, hx, rfl⟩ := mapAt hd
    have hi1 : i < c.length := (List.getElem?_eq_some_iff.mp hx).1
    have hi2 := lex_next hml hpre hi1
    have hy : hi[i]? = some hi[i] := List.getElem?_eq_getElem hi2
    walk_at "zz"
    refine zitem X (by walk_at "has") (by omega) (by omega) (d := sd hi[i]) (by simp [hi2]) fun v hv => ?_
    walk_at "un"
    walk_at "zz"
    by_cases hxy : x = hi[i]
    · refine ite_f (by simp [hxy]) ?_
      walk_at "zz"
      exact turnN c X (by walk_at "le") rfl (by walk_at "lk") ⟨_, _, rfl⟩ ⟨rfl, by rw [take_succ_of hx, take_succ_of hy, hpre, hxy]⟩
    · refine ite_t (by simp [hxy]) ?_
      walk_at "zz"
      refine zsliceX X ?_
      walk_at "zz"
      refine ⟨_, _, _, _, _, _, _, rfl, X, by walk_at "has", by simp; omega, .none, .int _ _, ?_⟩
      intro a5 g5 h5 le5 X hcc
      have es : pk none (some (i : Int)) (c.map sd) = (c.take i).map sd := by
        rw [List.map_take]; exact pk_upto (c.map sd) i
      rw [es] at hcc
      walk_at "zz"
      rename Fz _ _ _ _ _ _ _ _ => X
      exact turnB (c.take i) X (by walk_at "le") rfl (by walk_at "lk") ⟨_, _, rfl⟩ (lcp_at i c hi x hi[i] hpre hx hy hxy).symm
  · rintro c g' s₁ hc le X ⟨h2, tk2, rfl⟩
    have hc' : c = lcp lo hi := by
      rcases hc with ⟨rfl, hpre⟩ | rfl
      · rw [List.length_map, List.take_length] at hpre
        exact (lcp_pre hpre.symm).symm
      · rfl
    subst hc'
    have hll := lcp_len lo hi
    have hcm : ∀ n ∈ lcp lo hi, n.length ≤ 2 := fun n hn => (hL2 n (lcp_sub lo hi n hn)).len
    have hs1 := sum_len2 hcm
    have hs2 := glue_len hcm
    walk_at "zz"
    refine ite_t rfl ?_
    walk_at "zz"
    rename Fz _ _ _ _ _ _ _ _ => X
    refine zjoin X (by walk_at "has") (by simp only [List.length_cons, List.length_nil]; omega) fun t' k => ?_
    walk_at "zz"
    · exact R.done (by assumption) (.s _ _) rfl
    · simp only [List.length_cons, List.length_nil]; omega
end
theorem pre_lcp : ∀ (c a b : List (List Nat)), c <+: lcp a b ↔ c <+: a ∧ c <+: b
  | [], a, b => by simp
  | x :: c, [], b => by
    have : lcp [] b = [] := by cases b <;> rfl
    rw [this]; simp
  | x :: c, y :: a, [] => by
    have : lcp (y :: a) [] = [] := rfl
    rw [this]; simp
  | x :: c, y :: a, z :: b => by
    have ih := pre_lcp c a b
    have e : lcp (y :: a) (z :: b) = if y = z then y :: lcp a b else [] := rfl
    rw [e, List.cons_prefix_cons, List.cons_prefix_cons]
    by_cases hyz : y = z
    · subst hyz
      rw [if_pos rfl, List.cons_prefix_cons, ih]
      constructor
      · rintro ⟨h, h1, h2⟩; exact ⟨⟨h, h1⟩, h, h2⟩
      · rintro ⟨⟨h, h1⟩, _, h2⟩; exact ⟨h, h1, h2⟩
    · rw [if_neg hyz]
      constructor
      · intro h; simp at h
      · rintro ⟨⟨h1, _⟩, h2, _⟩; exact absurd (h1.symm.trans h2) hyz
theorem pre_fold : ∀ (ps : List (List (List Nat))) (a c : List (List Nat)), c <+: ps.foldl lcp a ↔ c <+: a ∧ ∀ p ∈ ps, c <+: p
  | [], a, c => by simp
  | p :: r, a, c => by
    rw [List.foldl_cons, pre_fold r, pre_lcp]
    simp only [List.mem_cons, forall_eq_or_imp]
    exact and_assoc
theorem pre_alike {ps : List (List (List Nat))} (hne : ps ≠ []) (c : List (List Nat)) : c <+: alike ps ↔ ∀ p ∈ ps, c <+: p := by
  unfold alike
  rw [pre_fold]
  cases ps with
  | nil => exact absurd rfl hne
  | cons p r => exact ⟨fun h => h.2, fun h => ⟨h p (.head _), h⟩⟩
/-- what the least and the greatest begin with, every one begins with -/
theorem squeeze : ∀ (c lo p hi : List (List Nat)), c <+: lo → c <+: hi → lexLt p lo = false → lexLt hi p = false → c <+: p
  | [], _, p, _, _, _, _, _ => List.nil_prefix
  | x :: c, [], p, hi, h1, _, _, _ => by simp at h1
  | x :: c, y :: lo, p, [], _, h2, _, _ => by simp at h2
  | x :: c, y :: lo, [], z :: hi, _, _, h3, _ => by cases h3
  | x :: c, y :: lo, q :: p, z :: hi, h1, h2, h3, h4 => by
    rw [List.cons_prefix_cons] at h1 h2
    obtain ⟨rfl, h1⟩ := h1
    obtain ⟨rfl, h2⟩ := h2
    rw [lexLt_cons] at h3 h4
    have hxq : x = q := by
      by_cases e : x = q
      · exact e
      · rw [if_neg (Ne.symm e)] at h3
        rw [if_neg e] at h4
        have h3' := of_decide_eq_false h3
        have h4' := of_decide_eq_false h4
        exact absurd (List.le_antisymm h3' h4') e
    subst hxq
    rw [if_pos rfl] at h3 h4
    rw [List.cons_prefix_cons]
    exact ⟨rfl, squeeze c lo p hi h1 h2 h3 h4⟩
theorem pre_eq {a b : List (List Nat)} (h1 : a <+: b) (h2 : b <+: a) : a = b := h1.eq_of_length (Nat.le_antisymm h1.length_le h2.length_le)
theorem common_alike {ps : List (List (List Nat))} (hne : ps ≠ []) : lcp (leastOf ps) (mostOf ps) = alike ps := by
  refine pre_eq ?_ ?_
  · rw [pre_alike hne]
    intro p hp
    obtain ⟨h1, h2⟩ := (pre_lcp _ _ _).mp (List.prefix_refl (lcp (leastOf ps) (mostOf ps)))
    obtain ⟨i, hi, rfl⟩ := List.getElem_of_mem hp
    have e : ps[i] = ps.getD i [] := by simp [hi]
    rw [e]
    exact squeeze _ _ _ _ h1 h2 (argBest_min ps _ i (by omega)) (argBest_max ps _ i (by omega))
  · rw [pre_lcp]
    have := (pre_alike hne _).mp (List.prefix_refl (alike ps))
    exact ⟨this _ (least_mem hne), this _ (most_mem hne)⟩
theorem foldl_flat : ∀ (hs : List (List Nat)) (p : List (List Nat)), walk p (hs.flatMap figs) = hs.foldl (fun p h => walk p (figs h)) p
  | [], p => rfl
  | h :: r, p => by
    rw [List.flatMap_cons, List.foldl_cons, ← foldl_flat r]
    unfold walk; rw [List.foldl_append]
theorem walk_all (os : List Nat) : walk [] (figA os) = placeAt (handsOf os) (handsOf os).length := by
  unfold figA placeAt
  rw [foldl_flat, List.take_length]
section
variable {prog : Program} {w : World} {A : Around} {E : Value → Shared → Prop} {s : Shared} {g : GH} {Q : Value → Shared → Prop}
theorem nm_place (hs : List (List Nat)) (i : Nat) : ∀ n ∈ placeAt hs i, Nm n := fun n hn => (place_sg hs i n hn).nm
theorem path_len {p : List (List Nat)} (hp : ∀ n ∈ p, Nm n) (hl : p.length ≤ 90) : (pathOf p).length ≤ 300 := by
  have := glue_len (xs := p) fun x hx => (hp x hx).len
  unfold pathOf; rw [List.length_cons]; omega
theorem spec_paths {hs : List (List Nat)} {hv : Value} (G : Gl hd.heap_1 w s.heap) (ok : Ok 9 A) (hg : g.le s.heap.get?) (hh : ∀ h ∈ hs, h ≠ [] ∧ h.length ≤ 3 ∧ ∀ o ∈ h, o < 256) (hl : hs.length ≤ 20) (hH : Has g hv (.l (hs.map dI))) (R : Ret s g (.l (((places hs).map pathOf).map sd)) Q) :
    wpAny (model prog w) A (call (.ref 271) [hv]) Q E s := by
  refine call_fz g [("hands", hv)] [("hands", .l (hs.map dI))] G hg (.cons hH .nil) (by k_is) (by k_is) ok.room (BindsTo.of_eq rfl) (locs rfl) (by simp only [List.map_cons, List.map_nil]; decide) ?_ rfl rfl rfl (by decide)
  intro h₁ tk G X
  walk_at "zz"
  refine znewListM X .nil ?_
  intro q h2 X
  walk_at "zz"
  rename Fz _ _ _ _ _ _ _ _ => X
  refine zfor (σ := List (List Nat) × List (List (List Nat))) (fun c => [(q, .lst ((c.2.map pathOf).map sd))]) (fun c => [("path", sd (pathOf c.1)), ("paths", .r q)]) (fun i c => c.1 = placeAt hs i ∧ c.2 = (List.range i).map fun i => placeAt hs (i + 1)) (fun _ => False) ([], []) X (srcList ok.hd X.sub (by walk_at "has")) rfl (by walk_at "lk") ⟨rfl, rfl⟩ ?_ ?_
  · rintro i d ⟨p, ps⟩ g' fx' s₁ hd ⟨hp, hps⟩ le X ⟨h2, tk2, rfl⟩
    obtain ⟨h, hhi, rfl⟩ := mapAt hd
    have hi : i < hs.length := (List.getElem?_eq_some_iff.mp hhi).1
    have hlen := placeAt_len (fun h hm => (hh h hm).2.1) i
    obtain ⟨hh1, hh2, hh3⟩ := hh h (List.mem_of_getElem? hhi)
    have hsucc := placeAt_succ hhi
    have hnm := nm_place hs i
    have hpl := norm_place (place_sg hs i)
    dsimp only at X hp hps
    rw [← hp] at hsucc hlen hnm hpl
    walk_at "zz"
    refine ⟨⟨_, _, _, _, _, _, X⟩, ?_⟩
    refine spec_figures (X.gl G) (Ok.le (Ok.deeper ok) (by decide)) X.sub (by walk_at "has") hh2 (zretL X fun v g' h' tk le X hv => ?_)
    walk_at "un"
    walk_at "zz"
    refine ⟨⟨_, _, _, _, _, _, X⟩, ?_⟩
    have hfl := figs_len hh2
    refine spec_led (os := h) (fs := figs h) (X.gl G) (Ok.le (Ok.deeper ok) (by decide)) X.sub hh3 (by omega) (figs_le h) (by omega) (path_len hnm (by omega)) (hand_trans hh1 hh2 hh3) (parts_tr _ (figs_le h)) (by walk_at "has") (by walk_at "has") (zretL X fun v g' h' tk le X hv => ?_)
    rw [ledP_path hnm (figs_le h)] at hv
    walk_at "un"
    walk_at "zz"
    refine ⟨⟨_, _, _, _, _, _, X⟩, ?_⟩
    have hll := ledN_len (figs h) p
    refine spec_normpath (names := ledN p (figs h)) (X.gl G) (Ok.le (Ok.deeper ok) (by decide)) X.sub (ledN_nm _ _ hnm (figs_le h)) (by omega) (zretL X fun v g' h' tk le X hv => ?_)
    rw [norm_led, hpl, ← hsucc] at hv
    walk_at "un"
    walk_at "zz"
    rename Fz _ _ _ _ _ _ _ _ => X
    refine zgmAppend X (.head _) ?_
    walk_at "zz"
    refine zappend X (.head _) (by walk_at "has") (by rw [hps]; simp; omega) rfl fun h' X => ?_
    simp only [List.map_cons, List.map_nil, if_true] at X
    walk_at "zz"
    refine turnN (placeAt hs (i + 1), ps ++ [placeAt hs (i + 1)]) X (by walk_at "le") (by rw [List.map_append, List.map_append]; rfl) (by walk_at "lk") ⟨_, _, rfl⟩ ⟨rfl, ?_⟩
    show ps ++ [placeAt hs (i + 1)] = _
    rw [List.range_succ, List.map_append, ← hps]; rfl
  · rintro ⟨p, ps⟩ g' s₁ (⟨hp, hps⟩ | hB) le X ⟨h2, tk2, rfl⟩
    · walk_at "zz"
      obtain ⟨g2, le2, hq, Y⟩ := X.freeze (.head _)
      rw [List.length_map] at hps
      refine R.done Y ?_ rfl
      have : ps = places hs := hps
      rw [← this]; exact hq
    · exact hB.elim
end
section
variable {prog : Program} {w : World} {A : Around} {E : Value → Shared → Prop} {s : Shared} {g : GH} {Q : Value → Shared → Prop}
def unSd : D → List Nat
  | .s x => x.cps.toList
  | _ => []
def textD : D → D
  | .l ds => sd (pathOf (ds.map unSd))
  | d => d
theorem textD_dS (p : List (List Nat)) : textD (dS p) = sd (pathOf p) := by
  show sd (pathOf ((p.map sd).map unSd)) = _
  rw [List.map_map]
  have : (unSd ∘ sd) = id := by funext x; rfl
  rw [this, List.map_id]
theorem hands_ne {os : List Nat} : ∀ h ∈ handsOf os, h ≠ [] := by
  intro h hm e
  obtain ⟨i, hi, rfl⟩ := List.mem_map.mp hm
  have hi := List.mem_range.mp hi
  have := congrArg List.length e
  rw [List.length_take, List.length_drop, List.length_nil] at this
  omega
theorem places_ne {os : List Nat} (hne : os ≠ []) : places (handsOf os) ≠ [] := by
  have hhl : (handsOf os).length = (os.length + 2) / 3 := by unfold handsOf; simp
  have hpos : 0 < os.length := List.length_pos_iff.mpr hne
  intro e
  have := congrArg List.length e
  unfold places at this
  rw [List.length_map, List.length_range, hhl, List.length_nil] at this
  omega
theorem places_at {os : List Nat} (hl : os.length ≤ 15) : ∀ p ∈ places (handsOf os), p.length ≤ 20 ∧ ∀ n ∈ p, Nm n := by
  intro p hp
  have hhl : (handsOf os).length = (os.length + 2) / 3 := by unfold handsOf; simp
  obtain ⟨i, hi, rfl⟩ := List.mem_map.mp hp
  have hi := List.mem_range.mp hi
  have := placeAt_len (hands_len os) (i + 1)
  exact ⟨by omega, nm_place _ _⟩
theorem spec_right {os : List Nat} {ov : Value} (G : Gl hd.heap_1 w s.heap) (ok : Ok 11 A) (hg : g.le s.heap.get?) (hne : os ≠ []) (hl : os.length ≤ 15) (ho : ∀ o ∈ os, o < 256) (hO : Has g ov (dI os)) (R : Ret s g (.bo true) Q) :
    wpAny (model prog w) A (call (.ref 295) [ov]) Q E s := by
  refine call_fzC g [("octets", ov)] [] (fun L => [(L + 1, .cell (some (dI os)))]) G hg (by k_is) (by k_is) ok.room (by rfl) (fun n x hx => by cases hx with | head => exact .inr ⟨rfl, rfl⟩ | tail _ h => cases h) ?_ ?_ (by intro L; simp) ?_ rfl rfl rfl
  · intro L p hp
    cases hp
  · intro L p hp
    cases hp with
    | head => exact ⟨"octets", rfl, _, rfl, hO⟩
    | tail _ h => cases h
  intro h₁ tk G X
  have hh : ∀ h ∈ handsOf os, h ≠ [] ∧ h.length ≤ 3 ∧ ∀ o ∈ h, o < 256 := fun h hm => ⟨hands_ne h hm, hands_len os h hm, fun o hoh => ho o (hands_mem os h hm o hoh)⟩
  have hhl : (handsOf os).length = (os.length + 2) / 3 := by unfold handsOf; simp
  have hpos : 0 < os.length := List.length_pos_iff.mpr hne
  walk_at "zz"
  refine zmapA (cl := [("octets", s.heap.objs.size + 1)]) (fun d => dI ((os.drop (unN d)).take 3)) X (by with_unfolding_all rfl) (by decide) rfl (by decide) (by decide) ?_ (by with_unfolding_all rfl) rfl rfl
  walk_at "zz"
  refine zlen X (by walk_at "has") (by simp; omega) ?_
  walk_at "zz"
  refine zrange3 X (by decide) (by decide) fun r g' h' tk le X hr => ?_
  rw [List.length_map] at hr
  refine ⟨_, _, _, _, X, srcR3 ok.hd hr (by omega), by simp; omega, ?_, ?_⟩
  · intro i d C g' fx' mu' s₂ hd le X hm
    obtain ⟨hi, rfl⟩ := rangeAt hd
    walk_at "zz"
    refine zsliceX X ?_
    walk_at "zz"
    refine ⟨_, _, _, _, _, _, _, rfl, X, by walk_at "has", by simp; omega, .int _ _, .int _ _, ?_⟩
    intro a3 g3 h3 le3 X hc
    have es : pk (some ((3 * i : Nat) : Int)) (some (((3 * i : Nat) : Int) + 3)) (os.map fun (n : Nat) => D.i n) = ((os.drop (3 * i)).take 3).map fun (n : Nat) => D.i n := by
      have := pk_mid (os.map fun (n : Nat) => D.i (n : Int)) (3 * i) (3 * i + 3)
      rw [← List.map_drop, ← List.map_take, Nat.add_sub_cancel_left] at this
      simpa using this
    rw [es] at hc
    exact Elt.mk X (by walk_at "le") hc ⟨_, _, rfl⟩
  intro a1 g1 h1 tk1 le1 X
  have eh : (((List.range ((os.length + 2) / 3)).map fun (i : Nat) => D.i ((3 * i : Nat) : Int)).map fun d => dI ((os.drop (unN d)).take 3)) = (handsOf os).map dI := by
    unfold handsOf
    rw [List.map_map, List.map_map]
    exact List.map_congr_left fun i _ => rfl
  rw [eh] at X
  have hpne := places_ne hne
  have hpat := places_at hl
  have hpl : (places (handsOf os)).length ≤ 20 := by unfold places; rw [List.length_map, List.length_range]; omega
  walk_at "zz"
  refine ⟨⟨_, _, _, _, _, _, X⟩, ?_⟩
  refine spec_places (hs := handsOf os) (X.gl G) (Ok.le (Ok.deeper ok) (by decide)) X.sub (hands_len os) (by omega) (by walk_at "has") (zretL X fun v g' h' tk le X hv => ?_)
  walk_at "un"
  walk_at "zz"
  rename Fz _ _ _ _ _ _ _ _ => X
  refine zmapA (cl := []) textD X (by with_unfolding_all rfl) (by decide) rfl (by decide) (by decide) ?_ (by with_unfolding_all rfl) rfl rfl
  walk_at "zz"
  refine ⟨_, _, _, _, X, srcList ok.hd X.sub (by walk_at "has"), by simp; omega, ?_, ?_⟩
  · intro i d C g' fx' mu' s₂ hd le X hm
    obtain ⟨p, hpi, rfl⟩ := mapAt hd
    obtain ⟨hp1, hp2⟩ := hpat p (List.mem_of_getElem? hpi)
    have hg2 := glue_len (xs := p) fun x hx => (hp2 x hx).len
    have hs2 := sum_len2 (xs := p) fun x hx => (hp2 x hx).len
    walk_at "zz"
    refine ⟨⟨_, _, _, _, _, _, X⟩, ?_⟩
    refine spec_text (names := p) (X.gl G) (Ok.le (Ok.deeper ok) (by decide)) X.sub (by walk_at "has") (by omega) (by omega) (zretL X fun v g' h' tk le X hv => ?_)
    rw [← textD_dS] at hv
    exact Elt.mk X (by walk_at "le") hv ⟨_, _, rfl⟩
  intro a2 g2 h2 tk2 le2 X
  have et : ((places (handsOf os)).map dS).map textD = ((places (handsOf os)).map pathOf).map sd := by
    rw [List.map_map, List.map_map]
    exact List.map_congr_left fun p _ => textD_dS p
  rw [et] at X
  walk_at "zz"
  rename Fz _ _ _ _ _ _ _ _ => X
  refine ⟨⟨_, _, _, _, _, _, X⟩, ?_⟩
  refine spec_paths (hs := handsOf os) (X.gl G) (Ok.le (Ok.deeper ok) (by decide)) X.sub hh (by omega) (by walk_at "has") (zretL X fun v g' h' tk le X hv => ?_)
  walk_at "un"
  walk_at "zz"
  rename Fz _ _ _ _ _ _ _ _ => X
  have eqp := EqL.same (((places (handsOf os)).map pathOf).map sd) (fun d hd => by
    obtain ⟨x, _, rfl⟩ := List.mem_map.mp hd
    exact EqD.sameS _)
  refine zneL X (by walk_at "has") (by walk_at "has") eqp ok.deeper.c ?_
  walk_at "zz"
  refine ite_f (by decide) ?_
  walk_at "zz"
  refine ⟨⟨_, _, _, _, _, _, X⟩, ?_⟩
  refine spec_commonpath (ps := places (handsOf os)) (X.gl G) (Ok.le (Ok.deeper ok) (by decide)) X.sub hpne hpl (fun p hpm => ⟨by have := (hpat p hpm).1; omega, (hpat p hpm).2⟩) (by walk_at "has") (zretL X fun v g' h' tk le X hv => ?_)
  rw [common_alike hpne] at hv
  walk_at "un"
  walk_at "zz"
  refine ⟨⟨_, _, _, _, _, _, X⟩, ?_⟩
  refine spec_alike (ps := places (handsOf os)) (X.gl G) (Ok.le (Ok.deeper ok) (by decide)) X.sub hpne hpl (fun p hpm => by have := (hpat p hpm).1; omega) (by walk_at "has") (zretL X fun v g' h' tk le X hv => ?_)
  walk_at "un"
  walk_at "zz"
  have hal : ∀ n ∈ alike (places (handsOf os)), n.length ≤ 2 := fun n hn => by
    rw [← common_alike hpne] at hn
    exact ((hpat _ (least_mem hpne)).2 n (lcp_sub _ _ n hn)).len
  have hall : (alike (places (handsOf os))).length ≤ 20 := by
    rw [← common_alike hpne]
    exact Nat.le_trans (lcp_len _ _) (hpat _ (least_mem hpne)).1
  have hg3 := glue_len hal
  have hs3 := sum_len2 hal
  refine ⟨⟨_, _, _, _, _, _, X⟩, ?_⟩
  refine spec_text (names := alike (places (handsOf os))) (X.gl G) (Ok.le (Ok.deeper ok) (by decide)) X.sub (by walk_at "has") (by omega) (by omega) (zretL X fun v g' h' tk le X hv => ?_)
  walk_at "un"
  walk_at "zz"
  refine ite_f (by simp) ?_
  walk_at "zz"
  refine zneL X (by walk_at "has") (by walk_at "has") eqp ok.deeper.c ?_
  walk_at "zz"
  refine ite_f (by decide) ?_
  walk_at "zz"
  refine ite_f (by decide) ?_
  walk_at "zz"
  walk_at "nl"
  walk_at "zz"
  rename Fz _ _ _ _ _ _ _ _ => X
  refine zfor (σ := List Nat) (fun _ => [(s.heap.objs.size + 1, .cell (some (dI os)))]) (fun c => [("figures", dI c), ("told", .l (((places (handsOf os)).map pathOf).map sd))]) (fun i c => c = ((handsOf os).take i).flatMap figs) (fun _ => False) [] X (srcList ok.hd X.sub (by walk_at "has")) rfl (by walk_at "lk") rfl ?_ ?_
  · rintro i d c g' fx' s₁ hd hc le X ⟨h2, tk2, rfl⟩
    obtain ⟨h, hhi, rfl⟩ := mapAt hd
    have hi : i < (handsOf os).length := (List.getElem?_eq_some_iff.mp hhi).1
    obtain ⟨hh1, hh2, hh3⟩ := hh h (List.mem_of_getElem? hhi)
    have hcl := flat_len ((handsOf os).take i) (fun h hm => hands_len os h (List.mem_of_mem_take hm))
    rw [← hc, List.length_take] at hcl
    have hfl := figs_len hh2
    walk_at "zz"
    refine ⟨⟨_, _, _, _, _, _, X⟩, ?_⟩
    refine spec_figures (X.gl G) (Ok.le (Ok.deeper ok) (by decide)) X.sub (by walk_at "has") hh2 (zretL X fun v g' h' tk le X hv => ?_)
    walk_at "un"
    walk_at "zz"
    refine zadd X (by walk_at "has") (by walk_at "has") (by simp; omega) fun a4 g4 h4 le4 X hv => ?_
    replace hv := Has.cat hv
    walk_at "zz"
    rename Fz _ _ _ _ _ _ _ _ => X
    refine turnN (c ++ figs h) X (by walk_at "le") rfl (by walk_at "lk") ⟨_, _, rfl⟩ ?_
    rw [take_succ_of hhi, List.flatMap_append, ← hc]; simp
  · rintro c g' s₁ (hc | hB) le X ⟨h2, tk2, rfl⟩
    · have hc' : c = figA os := by rw [hc, List.length_map, List.take_length]; rfl
      subst hc'
      have hfl := figA_len os
      have hled : ledP (figA os) [47] = pathOf (ledN [] (figA os)) := ledP_path (p := []) (fun n hn => nomatch hn) (figA_le os)
      have hnm := ledN_nm (figA os) [] (fun n hn => nomatch hn) (figA_le os)
      have hln := ledN_len (figA os) []
      rw [List.length_nil] at hln
      have hg4 := glue_len fun x hx => (hnm x hx).len
      have hs4 := sum_len2 fun x hx => (hnm x hx).len
      walk_at "zz"
      refine ⟨⟨_, _, _, _, _, _, X⟩, ?_⟩
      refine spec_led (os := os) (fs := figA os) (path := [47]) (X.gl G) (Ok.le (Ok.deeper ok) (by decide)) X.sub ho (by omega) (figA_le os) (by omega) (by decide) (b64_trans ho) (parts_tr _ (figA_le os)) (by walk_at "has") (by walk_at "has") (zretL X fun v g' h' tk le X hv => ?_)
      rw [hled] at hv
      walk_at "un"
      walk_at "zz"
      rename Fz _ _ _ _ _ _ _ _ => X
      refine BoolOp_and ?_
      walk_at "zz"
      refine ⟨⟨_, _, _, _, _, _, X⟩, ?_⟩
      refine spec_behind (fs := figA os) (X.gl G) (Ok.le (Ok.deeper ok) (by decide)) X.sub (figA_le os) (by walk_at "has") (by omega) (zretL X fun v g' h' tk le X hv => ?_)
      rw [← led_behind] at hv
      walk_at "un"
      walk_at "zz"
      refine ⟨⟨_, _, _, _, _, _, X⟩, ?_⟩
      refine spec_text (names := ledN [] (figA os)) (X.gl G) (Ok.le (Ok.deeper ok) (by decide)) X.sub (by walk_at "has") (by omega) (by omega) (zretL X fun v g' h' tk le X hv => ?_)
      walk_at "un"
      walk_at "zz"
      refine ite_t (by simp) ?_
      refine BoolOp_one ?_
      walk_at "zz"
      have hnw : norm (ledN [] (figA os)) = placeAt (handsOf os) (handsOf os).length := by
        rw [norm_led]; exact walk_all os
      refine ⟨⟨_, _, _, _, _, _, X⟩, ?_⟩
      refine spec_normpath (names := ledN [] (figA os)) (X.gl G) (Ok.le (Ok.deeper ok) (by decide)) X.sub hnm (by omega) (zretL X fun v g' h' tk le X hv => ?_)
      rw [hnw] at hv
      walk_at "un"
      walk_at "zz"
      have hn1 : 0 < (handsOf os).length := by omega
      have hlast : (((places (handsOf os)).map pathOf).map sd)[((-1 : Int) + ((((places (handsOf os)).map pathOf).map sd).length : Int)).toNat]? = some (sd (pathOf (placeAt (handsOf os) (handsOf os).length))) := by
        have e1 : (((places (handsOf os)).map pathOf).map sd).length = (handsOf os).length := by unfold places; simp
        have e2 : ((-1 : Int) + (((handsOf os).length : Nat) : Int)).toNat = (handsOf os).length - 1 := by omega
        rw [e1, e2, List.getElem?_map, List.getElem?_map]
        unfold places
        rw [List.getElem?_map, List.getElem?_range (by omega)]
        show some (sd (pathOf (placeAt (handsOf os) ((handsOf os).length - 1 + 1)))) = _
        rw [Nat.sub_add_cancel hn1]
      refine zitem_neg X (by walk_at "has") (by decide) ?_ (by decide) hlast fun v hv => ?_
      · have e1 : (((places (handsOf os)).map pathOf).map sd).length = (handsOf os).length := by unfold places; simp
        rw [e1]; omega
      walk_at "un"
      walk_at "zz"
      rw [decide_eq_true rfl]
      exact R.done X (.bo true) rfl
    · exact hB.elim
end
/-- an address outside of the base is held -/
theorem Fz.hold0 {h₀ h : Heap} {g₀ fx gi : GH} {mu : List (Addr × MV)} {ls : List (Str × D)} {L q : Addr} (X : Fz h₀ g₀ fx gi mu ls L h) (hL : q ≠ L) (h0 : h₀.get? q = none) (hg : gi q = none) (hm : ∀ c, (q, c) ∉ mu) :
    Fz h₀ g₀ (fun b => if b = q then h.get? q else fx b) gi mu ls L h :=
  { X with
    base := fun b o e => by
      show (if b = q then h.get? q else fx b) = some o
      rw [if_neg (fun z => by rw [z, h0] at e; cases e)]; exact X.base b o e
    keep := fun b o e => by
      have e' : (if b = q then h.get? q else fx b) = some o := e
      split at e'
      · rename_i z; rw [z]; exact e'
      · exact X.keep b o e'
    offx := by
      show (if L = q then h.get? q else fx L) = none
      rw [if_neg (Ne.symm hL)]; exact X.offx
    apart := fun b hb hn => by
      by_cases z : b = q
      · rw [z]; exact hg
      · have hn' : (if b = q then h.get? q else fx b) ≠ none := hn
        rw [if_neg z] at hn'
        exact X.apart b hb hn'
    mv := fun p c hp => by
      obtain ⟨p1, p2, p3, p4⟩ := X.mv p c hp
      refine ⟨p1, p2, ?_, p4⟩
      show (if p = q then h.get? q else fx p) = none
      have hpq : ¬ p = q := fun z => hm c (by rw [← z]; exact hp)
      rw [if_neg hpq]; exact p3 }
theorem ints_all {g : GH} {vs : List Value} {ns : List Int} (h : IntsAre vs ns) : HasAll g vs (ns.map .i) := by
  induction h with
  | nil => exact .nil
  | cons n t _ ih => exact .cons (.i n t) ih
theorem well_ob {P : Params} {h : Heap} {a : Addr} {xs : List WData} (x : Well P h (.ref a) (.list xs)) : ∃ vs : List Value, h.get? a = some { cls := .type "list", data := .seq vs.toArray } := by
  cases x with
  | list e _ => exact ⟨_, e⟩
theorem start_law {h₀ h : Heap} {L a : Addr} {m : Str → Option Value} {vs vs0 : List Value} {n n0 : Nat} {ns : List Int} (F : Fr h₀ L h m) (ho : h₀.get? a = some { cls := .type "list", data := .seq vs0.toArray n0 }) (hd : Data.seq vs0.toArray n0 = Data.seq vs.toArray n) (hI : IntsAre vs ns) (hm : m "script" = some (.ref a)) :
    ∃ g : GH, g.le h₀.get? ∧ Fz h₀ g h₀.get? g [] [("script", .l (ns.map .i))] L h := by
  injection hd with e1 e2
  rw [e1] at ho
  have le : GH.le (fun b => if b = a then h₀.get? a else none) h₀.get? := fun b o e => by
    have e' : (if b = a then h₀.get? a else none) = some o := e
    split at e'
    · rename_i z; rw [z]; exact e'
    · cases e'
  have hg : (fun b => if b = a then h₀.get? a else none : GH) a = some { cls := .type "list", data := .seq vs.toArray n0 } := (if_pos rfl).trans ho
  refine ⟨_, le, Fz.start F le F.above fun x d e => ?_⟩
  rw [List.lookup_cons] at e
  cases hx : x == "script" with
  | true =>
    rw [hx] at e
    cases e
    rw [eq_of_beq hx]
    exact ⟨.ref a, hm, Has.ofList hg (ints_all hI)⟩
  | false => rw [hx] at e; cases e
theorem endd : PySem.Challenge.rw_ij0213_01.Holds := hd ⟨hl, by
  k_go0
  rename Fr _ _ _ _ => F
  rename Well _ _ _ _ => w1
  rename IntsAre _ _ => hI
  rename News _ _ _ _ => N
  rename Top topProg _ _ _ _ _ => T
  rename (hd.heap_1 _).In _ => K
  rename _ = #[] => hgens
  have G : Gl hd.heap_1 _ _ := ⟨K, ⟨_, _, T.g, T.b, T.builtins⟩, T.nolimit⟩
  obtain ⟨vs0, hob⟩ := well_ob w1
  have hob2 := ghost_get hT9 hob (fun e => by cases e)
  obtain ⟨o, ho, hc, n, hdat⟩ := lifted
  rw [hob2] at ho
  cases ho
  obtain ⟨g, gle, X⟩ := start_law F hob2 hdat hI rfl
  have h170 := N _ (.head _)
  have g170 : g 170 = none := by
    cases e : g 170 with
    | none => rfl
    | some o => have := gle _ _ e; rw [h170.2.2] at this; cases this
  have X := X.hold0 (q := 170) h170.2.1 h170.2.2 g170 (fun _ h => nomatch h)
  refine wpAny_mono (E := fun _ _ => False) ?_ (fun _ _ q => q) (fun _ _ e => e.elim)
  dsimp only
  walk_at "zz"
  refine ⟨⟨_, _, _, _, _, _, X⟩, ?_⟩
  have ok : Ok 14 (callerA.deeper (envOf (Str.ofString "law") default 0 0 .none)) := ⟨rfl, by decide, by decide⟩
  refine spec_octets (X.gl G) (A := callerA.deeper _) (Ok.le (k := 5) ⟨ok.hd, ok.dp, ok.un⟩ (by decide)) X.sub (by walk_at "has") (by omega) fun os h1 h2 h3 => zretL X fun v g' h' tk le X hv => ?_
  walk_at "un"
  walk_at "zz"
  rename Fz _ _ _ _ _ _ _ _ => X
  refine ⟨⟨_, _, _, _, _, _, X⟩, ?_⟩
  refine spec_right (X.gl G) (A := callerA.deeper _) (Ok.le (k := 11) ⟨ok.hd, ok.dp, ok.un⟩ (by decide)) X.sub h1 h2 h3 (by walk_at "has") (zretL X fun v g' h' tk le X hv => ?_)
  walk_at "un"
  walk_at "zz"
  obtain ⟨m, F', _⟩ := X.fr
  refine ⟨?_, ⟨_, X.keep 170 _ ((if_pos rfl).trans h170.1)⟩, trivial⟩
  refine goodW_bool F' hgens (raisesW_false ?_) ?_
  · wrow_none_raised
  · wrow_post⟩
end Mine
end
theorem PySem.Challenge.cw_ij0213_01_holds : PySem.Challenge.rw_ij0213_01.Holds :=
  Mine.endd
