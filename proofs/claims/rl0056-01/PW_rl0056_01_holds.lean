import PyProof.Rows.All
import Wide.All
import OpenK.AllK
import Wide.FinOn
import PySem.Challenge.RW_rl0056_01
set_option Elab.async false
section
open PySem PySem.W PyProof.Rows
namespace Mine
set_option maxRecDepth 100000
set_option maxHeartbeats 8000000
open_top hd for PySem.Challenge.rw_rl0056_01
end Mine
end
section
open PySem PySem.W PyProof.Rows PySem.Calls
set_option maxRecDepth 100000
namespace Mine
abbrev NoE : Value → Shared → Prop := fun _ _ => False
noncomputable abbrev lsW : List Str := looseW Mine.hd.view_39 [Str.ofString "_twin_re_1", Str.ofString "_twin_re_2", Str.ofString "Whitespace"]
/-- all of the old heap stands -/
def Ext (h h' : Heap) : Prop := ∀ b o, h.get? b = some o → h'.get? b = some o
theorem Ext.refl (h : Heap) : Ext h h := fun _ _ e => e
theorem Ext.trans {h h' h'' : Heap} (x : Ext h h') (y : Ext h' h'') : Ext h h'' := fun b o e => y b o (x b o e)
structure Rd (w : World) (mg mb : Str → Option Value) (h : Heap) : Prop where
  X : (Mine.hd.heap_39 w.params).In h
  T : TopRead Mine.hd.view_39 lsW mg mb h
theorem Rd.keeps {w : World} {mg mb : Str → Option Value} {h h' : Heap} (R : Rd w mg mb h) (k : Ext h h') : Rd w mg mb h' := ⟨R.X.keeps k, R.T.keeps k⟩

theorem enter {prog : Program} {w : World} {mg mb : Str → Option Value} {A : Around} {s : Shared} {f : Addr} {vs : List Value} {Q : Value → Shared → Prop}
    {name qual : Str} {params : Arguments} {body : List Stmt} {scope : Scope} {dV kV doc pm cdv ct oc : Value} {an od : Option Addr} {osl : Array (Option Value)} {binds : List (Str × Value)}
    (R : Rd w mg mb s.heap) (hroom : A.depth < recursionLimit)
    (ho : (Mine.hd.heap_39 w.params).lookup f = some ⟨oc, od, .func (fnOf name qual params body scope dV kV doc pm an cdv ct), osl⟩) (hcd : codeIn (Mine.hd.heap_39 w.params) cdv qual = true)
    (hbind : BindsTo s (fnOf name qual params body scope dV kV doc pm an cdv ct) ⟨vs, []⟩ binds) (hloc : ∀ y ∈ binds, scope.names.lookup y.1 = some .local)
    (hcell : ∀ x ∈ scope.names, x.2 ≠ .cell) (hco : scope.isCoroutine = false) (hgen : scope.isGenerator = false) (hk : scope.kind = .function)
    (h : ∀ h₁ tk, s.toks ≤ tk → Fr s.heap s.heap.objs.size h₁ (fun y => binds.reverse.lookup y) → News s.heap s.heap.objs.size h₁ [] → 
      wpAny (model prog w) (A.deeper (envOf qual scope s.heap.objs.size f cdv)) (execs body (envOf qual scope s.heap.objs.size f cdv))
        (fun fl s' => Q (match fl with | .ret v => v | _ => .none) s') NoE { s with heap := h₁, toks := tk }) :
    wpAny (model prog w) A (call (.ref f) vs) Q NoE s := by
  refine wpAny_call (codeAny_call_def (fd := fnOf name qual params body scope dV kV doc pm an cdv ct) (body := body) (binds := binds) hroom (R.X _ _ ho) rfl R.T.nolimit (codeRec_of R.X hcd) rfl hbind hcell hloc (fun h₁ hns hk₁ => ?_) hco hgen hk)
  exact wpAny_mono (h h₁ _ (Nat.le_add_right _ _) ⟨hns, hk₁, Nat.le_refl _⟩ News.nil) (fun fl s' hq => hq) fun _ _ x => x.elim
end Mine
namespace Mine
theorem cut {α : Type} {M : Model} {A : Around} {s : Shared} {t : Sem α} {Q : α → Shared → Prop} (Q' : α → Shared → Prop) (h : wpAny M A t Q' NoE s) (k : ∀ a s', Q' a s' → Q a s') : wpAny M A t Q NoE s := wpAny_mono h k fun _ _ x => x
end Mine

namespace Mine
/-- a goal that the walk does not open -/
def Stop (P : Prop) : Prop := P
theorem Stop.mk {P : Prop} (h : P) : Stop P := h
theorem Stop.out {P : Prop} (h : Stop P) : P := h
end Mine
namespace Mine
def AllAt (m : Str → Option Value) : List (Str × Value) → Prop
  | [] => True
  | p :: r => m p.1 = some p.2 ∧ AllAt m r
theorem frAt {h₀ h : Heap} {L : Addr} {m : Str → Option Value} (l : List (Str × Value)) (F : Fr h₀ L h m) (e : AllAt m l) : Fr h₀ L h (l.foldr (fun p f y => if y = p.1 then some p.2 else f y) m) := by
  have : l.foldr (fun p f y => if y = p.1 then some p.2 else f y) m = m := by
    induction l with
    | nil => rfl
    | cons p r ih =>
      rw [List.foldr_cons, ih e.2]
      funext y
      by_cases h1 : y = p.1
      · subst h1; rw [if_pos rfl, e.1]
      · rw [if_neg h1]
  rw [this]; exact F
end Mine
end
section
open PySem PySem.W PyProof.Rows PySem.Calls
set_option maxRecDepth 100000
namespace Mine
/-- n blanks and an a -/
def brow (n : Nat) : Str := ⟨(List.replicate n 32 ++ [97]).toArray⟩
theorem brow_len (n : Nat) : (brow n).length = n + 1 := by simp [brow, Str.length]
theorem brow_item : ∀ n < 21, ∀ i < 21, i ≤ n → (Txt.item (brow n) (i : Int) == Str.ofString " ") = decide (i < n) := by decide +kernel
theorem brow_slice : ∀ n < 21, ∀ i < 21, i ≤ n → Txt.slice (brow n) (some (i : Int)) (some ((n : Int) + 1)) = brow (n - i) := by decide +kernel
def spM (n : Nat) (t : Tok) (a i : Int) (m : Str → Option Value) : Prop := m (Str.ofString "s") = some (.str (brow n) t) ∧ ∃ t1 t2, m (Str.ofString "amount") = some (.int a t1) ∧ m (Str.ofString "lpos") = some (.int i t2)
set_option maxHeartbeats 4000000 in
theorem strip_spec {prog : Program} {w : World} {mg mb : Str → Option Value} {A : Around} {s : Shared} {Q : Value → Shared → Prop} (R : Rd w mg mb s.heap) (hr : A.depth < recursionLimit)
    (n k : Nat) (t u : Tok) (hn : n ≤ 20) (hk : k ≤ 20)
    (hret : ∀ t' h' tk', Ext s.heap h' → Q (.str (brow (n - k)) t') { s with heap := h', toks := tk' }) :
    wpAny (model prog w) A (call (.ref 45) [.str (brow n) t, .int k u]) Q NoE s := by
  have X := R.X
  have T := R.T
  have hbl := brow_len n
  w_on
  refine enter R hr (by k_is) (by k_is) (binds := [(Str.ofString "s", .str (brow n) t), (Str.ofString "amount", .int k u)]) (BindsTo.of_eq rfl) (locs rfl) (by decide) rfl rfl rfl ?_
  intro h₁ tk htk F N
  generalize s.heap.objs.size = L at *
  iterate 5 walk1
  rename_i h' F' N'
  dsimp only at F'
  refine cut (fun f s' => Stop (f = .next ∧ ∃ (i : Nat) (h : Heap) (tk : Nat) (m : _), s' = { s with heap := h, toks := tk } ∧ i ≤ n ∧ i ≤ k ∧ (i = n ∨ i = k) ∧ Fr s.heap L h m ∧ spM n t ((k : Int) - i) i m)) ?_ ?_
  · refine While_inv2 (fun d m news => news = [] ∧ ∃ (i : Nat), i ≤ n ∧ i ≤ k ∧ d = k - i ∧ spM n t ((k : Int) - i) i m) (n₀ := k) F' N' ?_ ?_ (fun _ _ x => x.elim)
    · exact ⟨rfl, 0, Nat.zero_le _, Nat.zero_le _, rfl, rfl, u, tk, by rw [show (k : Int) - ((0 : Nat) : Int) = k by omega]; rfl, rfl⟩
    · rintro d m₁ news₁ h₂ tk₂ F₂ N₂ ⟨rfl, i, hi, hik, rfl, e1, t1, t2, e2, e3⟩
      have F₃ := frAt [(Str.ofString "s", _), (Str.ofString "amount", _), (Str.ofString "lpos", _)] F₂ ⟨e1, e2, e3, trivial⟩
      dsimp only [List.foldr] at F₃
      clear F₂ F'
      have hb := brow_item n (by omega) i (by omega) hi
      k_steps
      all_goals (try dsimp only)
      · have c3 : (Txt.item (brow n) (i : Int) == Str.ofString " ") = true := by assumption
        rw [hb, decide_eq_true_eq] at c3
        exact ⟨_, _, _, _, k - (i + 1), rfl, by assumption, News.nil, by omega, rfl, i + 1, by omega, by omega, rfl, rfl, _, _, by rw [show (k : Int) - ((i + 1 : Nat) : Int) = (k : Int) - i - 1 by omega]; rfl, rfl⟩
      · have c3 : (Txt.item (brow n) (i : Int) == Str.ofString " ") = false := by assumption
        rw [hb, decide_eq_false_iff_not] at c3
        exact Stop.mk ⟨rfl, i, _, _, _, rfl, hi, hik, .inl (by omega), F₃, rfl, _, _, rfl, rfl⟩
      · exact Stop.mk ⟨rfl, i, _, _, _, rfl, hi, hik, .inr (by omega), F₃, rfl, _, _, rfl, rfl⟩
  · rintro f s' ⟨rfl, i, h₂, tk₂, m₂, rfl, hi, hik, hor, F₂, e1, t1, t2, e2, e3⟩
    have F₃ := frAt [(Str.ofString "s", _), (Str.ofString "amount", _), (Str.ofString "lpos", _)] F₂ ⟨e1, e2, e3, trivial⟩
    dsimp only [List.foldr] at F₃
    clear F₂ F'
    have N₂ : News s.heap L h₂ [] := News.nil
    have hb := brow_item n (by omega) n (by omega) (Nat.le_refl n)
    dsimp only
    iterate 15 walk1
    (try dsimp only)
    rename Fr _ _ _ _ => F₄
    dsimp only at F₄
    rw [show (((brow n).length : Int) - 1) = n by omega] at F₄
    obtain ⟨m₄, hm₄, F₅⟩ : ∃ m, m = _ ∧ Fr _ _ _ m := ⟨_, rfl, F₄⟩
    clear F₄
    refine cut (fun f s' => Stop (f = .next ∧ ∃ (h : Heap) (tk : Nat), s' = { s with heap := h, toks := tk } ∧ Fr s.heap L h m₄)) ?_ ?_
    · refine While_inv2 (fun d m news => news = [] ∧ m = m₄) (n₀ := 0) F₅ News.nil ⟨rfl, rfl⟩ ?_ (fun _ _ x => x.elim)
      rintro d m₁ news₁ h₂ tk₂ F₂ N₂ ⟨rfl, rfl⟩
      clear F₅
      subst hm₄
      k_steps
      all_goals (try dsimp only)
      · have c3 : (Txt.item (brow n) (n : Int) == Str.ofString " ") = true := by assumption
        rw [hb] at c3; simp at c3
      · exact Stop.mk ⟨rfl, _, _, rfl, F₂⟩
      · exact Stop.mk ⟨rfl, _, _, rfl, F₂⟩
    · rintro f s' ⟨rfl, h₂, tk₂, rfl, F₂⟩
      clear F₅
      subst hm₄
      have N₂ : News s.heap L h₂ [] := News.nil
      dsimp only
      k_steps
      all_goals (try dsimp only)
      rename Fr _ _ _ _ => F₆
      rw [brow_slice n (by omega) i (by omega) hi, show n - i = n - k by omega]
      exact hret _ _ _ F₆.keep
end Mine
end
section
open PySem PySem.W PyProof.Rows PySem.Calls PySem.Builtin PySem.Builtin.Re
set_option maxRecDepth 100000
namespace Mine
/-- n dots and an a -/
def drow (n : Nat) : Str := ⟨(List.replicate n 46 ++ [97]).toArray⟩

def driveF : Nat → Sre.M → Option Sre.M
  | 0, _ => none
  | k + 1, m => let m := m.runFor 4
    if m.outcome.isSome then some m else driveF k m
theorem drive_spec {M : Model} {A : Around} {E : Value → Shared → Prop} {s : Shared} {Q : Sre.M → Shared → Prop} : ∀ (k n : Nat) (m m' : Sre.M), driveF k m = some m' → k ≤ n → Q m' s → wpAny M A (reDrive n m) Q E s
  | 0, _, _, _, h, _, _ => by cases h
  | k + 1, 0, _, _, _, h, _ => absurd h (Nat.not_succ_le_zero _)
  | k + 1, n + 1, m, m', h, hk, hq => by
    unfold driveF at h
    unfold reDrive
    dsimp only at h ⊢
    by_cases ho : (m.runFor 4).outcome.isSome = true
    · rw [if_pos ho] at h
      cases h
      show wpAny M A (if (m.runFor reTurnSteps).outcome.isSome = true then _ else _) Q E s
      rw [if_pos (show (m.runFor reTurnSteps).outcome.isSome = true from ho)]
      exact wpAny_pure hq
    · rw [if_neg ho] at h
      show wpAny M A (if (m.runFor reTurnSteps).outcome.isSome = true then _ else _) Q E s
      rw [if_neg (show ¬ (m.runFor reTurnSteps).outcome.isSome = true from ho)]
      exact wpAny_bind (wpAny_rule (drive_spec k n _ m' h (Nat.le_of_succ_le_succ hk) hq))
def nfF (c x : Array Nat) (g start : Nat) (must : Bool) : Option (Option Sre.M) := match driveF 200 (Sre.forSearch c x g start x.size must) with
  | none => none
  | some m => match m.outcome with
    | some .matched => some (some m)
    | some .failed => some none
    | _ => none
theorem found_spec {M : Model} {A : Around} {E : Value → Shared → Prop} {s : Shared} {Q : Option Sre.M → Shared → Prop} {t : ReTarget} {start : Nat} {must : Bool} {r : Option Sre.M} (hl : t.lim = t.text.size)
    (h : nfF t.code t.text t.groups start must = some r) (hq : Q r s) : wpAny M A (reNextFound t start must) Q E s := by
  unfold reNextFound
  rw [hl]
  unfold nfF at h
  cases hd : driveF 200 (Sre.forSearch t.code t.text t.groups start t.text.size must) with
  | none => rw [hd] at h; cases h
  | some m =>
    rw [hd] at h
    dsimp only at h
    unfold reRunToEnd
    refine wpAny_bind (drive_spec 200 _ _ m hd (by decide) ?_)
    have hloop : wpAny M A (forIn (List.range Sre.names.size) PUnit.unit fun i __s =>
      if m.seen.has i = true then do
        rule (Sre.names.getD i "")
        pure (ForInStep.yield PUnit.unit)
      else pure (ForInStep.yield PUnit.unit)) (fun _ s' => s' = s) E s := by
      refine wpAny_forIn_list _ (fun _ _ s' => s' = s) (fun _ s' => s' = s) ?_ ?_ _ _ rfl
      · rintro i rest b s' rfl
        split
        · exact wpAny_bind (wpAny_rule (wpAny_pure rfl))
        · exact wpAny_pure rfl
      · rintro b s' rfl; rfl
    refine wpAny_bind (wpAny_mono hloop (fun _ s' e => ?_) fun _ _ x => x)
    subst e
    cases ho : m.outcome with
    | none => rw [ho] at h; cases h
    | some oc =>
      rw [ho] at h
      cases oc with
      | matched => cases h; exact wpAny_pure hq
      | failed => cases h; exact wpAny_pure hq
      | stuck why => cases h
/-- the heap holds the pattern p and its code c -/
structure PatAt (h : Heap) (p : Addr) (c : Array Nat) : Prop where
  ex : ∃ (o : Obj) (fs : Array Value) (ct : Addr) (oc : Obj) (items : Array Value) (n : Nat), h.get? p = some o ∧ o.cls = .type "re.Pattern" ∧ o.dict = none ∧ o.data = .fields fs ∧ fs.getD 6 .none = .int 0 0 ∧ fs.getD 5 .none = .ref ct ∧ reRawNat (fs.getD 2 .none) = 0 ∧
    h.get? ct = some oc ∧ oc.data = .seq items n ∧ (items.map reRawOf).map (·.toNat) = c
theorem PatAt.keeps {h h' : Heap} {p : Addr} {c : Array Nat} (P : PatAt h p c) (k : Ext h h') : PatAt h' p c := by
  obtain ⟨o, fs, ct, oc, items, n, h1, h2, h3, h4, h5, h6, h7, h8, h9, h10⟩ := P
  exact ⟨o, fs, ct, oc, items, n, k _ _ h1, h2, h3, h4, h5, h6, h7, k _ _ h8, h9, h10⟩
theorem whole_spec {M : Model} {A : Around} {E : Value → Shared → Prop} {s : Shared} {Q : ReTarget → Shared → Prop} {p : Addr} {c : Array Nat} {x : Str} {t : Tok} (P : PatAt s.heap p c)
    (hq : Q { pattern := .ref p, string := .str x t, code := c, text := x.cps, kind := 0, groups := 0, pos := 0, lim := x.cps.size } s) : wpAny M A (reWholeTarget (.ref p) (.str x t)) Q E s := by
  obtain ⟨o, fs, ct, oc, items, n, h1, h2, h3, h4, h5, h6, h7, h8, h9, h10⟩ := P
  unfold reWholeTarget
  refine wpAny_bind (wpAny_fieldsOf h1 h4 ?_)
  refine wpAny_bind (show wpAny M A (reTextOf (.str x t)) _ E s from wpAny_pure ?_)
  dsimp only
  rw [h5, h6, h7]
  subst h10
  refine wpAny_bind (show wpAny M A (pure PUnit.unit) _ E s from wpAny_pure ?_)
  unfold reRawItems
  exact wpAny_bind (wpAny_bind (wpAny_seqItems h8 h9 (wpAny_pure (wpAny_pure hq))))
def subF (c : Array Nat) (x : Str) (repl : Str) : Nat → Nat → Nat → Bool → List Str → Option (List Str)
  | 0, _, _, _, _ => none
  | k + 1, dn, start, must, ps => match nfF c x.cps 0 start must with
    | none => none
    | some none => some (if dn < x.cps.size then ps ++ [⟨x.cps.extract dn x.cps.size⟩] else ps)
    | some (some m) => subF c x repl k m.handed m.handed (m.handed == m.start) ((if dn < m.start then ps ++ [⟨x.cps.extract dn m.start⟩] else ps) ++ [repl])
theorem strsAre_snoc {vs : List Value} {ys : List Str} (h : StrsAre vs ys) (y : Str) (t : Tok) : StrsAre (vs ++ [.str y t]) (ys ++ [y]) := by
  induction h with
  | nil => exact .cons y t .nil
  | cons z u _ ih => exact .cons z u ih
theorem strsAre_len {vs : List Value} {ys : List Str} (h : StrsAre vs ys) : vs.length = ys.length := by
  induction h with
  | nil => rfl
  | cons _ _ _ ih => simp only [List.length_cons, ih]
theorem entry_loop : entryFor table "re.Pattern.sub.loop" = some Builtin.«re.Pattern.sub.loop» := entryFor_of_tree (by kernel_rfl)
/-- the list of pieces at D, above h₀ -/
structure Pcs (h₀ h : Heap) (D : Addr) (ps : List Str) : Prop where
  ext : Ext h₀ h
  new : h₀.get? D = none
  ex : ∃ items n, h.get? D = some ⟨.type "list", none, .seq items n, #[]⟩ ∧ StrsAre items.toList ps
theorem Pcs.push {h₀ h : Heap} {D : Addr} {ps : List Str} (P : Pcs h₀ h D ps) (y : Str) (t : Tok) : Pcs h₀ (h.update D (Obj.mapSeq (·.push (.str y t)))) D (ps ++ [y]) := by
  obtain ⟨e, nw, items, n, hD, hs⟩ := P
  have sb : Heap.SameBut D h (h.update D (Obj.mapSeq (·.push (.str y t)))) := Heap.SameBut.update ..
  refine ⟨fun b o eb => (sb.2 b (fun q => by rw [q, nw] at eb; cases eb)).trans (e b o eb), nw, items.push (.str y t), _, Heap.get?_update_self _ hD rfl, ?_⟩
  rw [Array.toList_push]
  exact strsAre_snoc hs y t
theorem Pcs.upd {M : Model} {A : Around} {E : Value → Shared → Prop} {s : Shared} {h₀ : Heap} {D : Addr} {ps : List Str} {Q : Unit → Shared → Prop} (P : Pcs h₀ s.heap D ps) (hl : ps.length ≤ 1000) (y : Str) (t : Tok)
    (h : Pcs h₀ (s.heap.update D (Obj.mapSeq (·.push (.str y t)))) D (ps ++ [y]) → Q () { s with heap := s.heap.update D (Obj.mapSeq (·.push (.str y t))) }) : wpAny M A (updateSeq D (·.push (.str y t))) Q E s := by
  have P' := P.push y t
  obtain ⟨e, nw, items, n, hD, hs⟩ := P
  have hz : items.size = ps.length := by
    rw [← Array.length_toList]; exact strsAre_len hs
  exact wpAny_updateSeq hD rfl (h P') (by rw [hz]; exact Nat.le_trans hl (by decide)) (by rw [Array.size_push, hz]; exact Nat.le_trans (Nat.succ_le_succ hl) (by decide))
theorem slice_spec {M : Model} {A : Around} {E : Value → Shared → Prop} {s : Shared} {Q : Value → Shared → Prop} {x : Str} {b e : Nat} (hx : x.cps.size ≤ 10000)
    (h : Q (.str ⟨x.cps.extract b e⟩ s.toks) { s with toks := s.toks + 1 }) : wpAny M A (reSlice x.cps 0 b e) Q E s := by
  unfold reSlice
  rw [if_pos (by decide)]
  refine wpAny_mkStr h ?_
  show (x.cps.extract b e).size ≤ sizeLine
  rw [Array.size_extract]
  have : sizeLine = 16777216 := by decide
  omega
theorem loop_spec {prog : Program} {w : World} {h₀ : Heap} {p D : Addr} {c : Array Nat} {x repl : Str} {t u : Tok} {out : List Str} (P : PatAt h₀ p c) (hx : x.cps.size ≤ 10000) {R : Result → Shared → Prop} :
    ∀ (k : Nat) (A : Around) (s : Shared) (n dn start : Nat) (must : Bool) (ps : List Str), subF c x repl k dn start must ps = some out → ps.length + 3 * k ≤ 500 → Pcs h₀ s.heap D ps →
    (∀ t' h' tk, Ext h₀ h' → R (.ok (.ret (.str (Txt.join (Str.ofString "") out) t'))) { s with heap := h', toks := tk }) → out ≠ [] → (out.map (·.length)).sum ≤ 10000 → out.length ≤ 1000 →
    codeAny (model prog w) A (.builtin "re.Pattern.sub.loop" ⟨[.ref p, .str x t, .str repl u, rawInt 0, rawInt 0, rawInt n, rawInt dn, rawInt start, .bool must, .ref D, .bool false], []⟩) R s := by
  intro k
  induction k with
  | zero => intro A s n dn start must ps h; cases h
  | succ k ih =>
    intro A s n dn start must ps h hlen hP hR hne hsum hol
    refine codeAny_builtin entry_loop ?_
    unfold Builtin.«re.Pattern.sub.loop»
    dsimp only [rawInt]
    refine wpAny_bind (whole_spec (P.keeps hP.ext) ?_)
    simp only [Int.toNat_natCast]
    rw [if_pos (by decide)]
    refine wpAny_bind (show wpAny _ _ (pure PUnit.unit) _ _ s from wpAny_pure ?_)
    rw [if_neg (by simp)]
    unfold subF at h
    cases hnf : nfF c x.cps 0 start must with
    | none => rw [hnf] at h; cases h
    | some r =>
      rw [hnf] at h
      refine wpAny_bind (found_spec rfl hnf ?_)
      cases r with
      | none =>
        dsimp only at h ⊢
        injection h with h
        have fin : ∀ s' : Shared, Pcs h₀ s'.heap D out → s'.gens = s.gens → s'.drawn = s.drawn → s'.os = s.os → wpAny (model prog w) (A.under
            (Code.builtin "re.Pattern.sub.loop" { pos := [Value.ref p, Value.str x t, Value.str repl u, Value.int 0 0, Value.int 0 0, Value.int (↑n) 0, Value.int (↑dn) 0, Value.int (↑start) 0, Value.bool must, Value.ref D, Value.bool false] }))
            (do
              let joiner ← reSlice x.cps 0 0 0
              let __do_lift ← seqItems? (Value.ref D)
              if (__do_lift.getD #[]).isEmpty = true then do
                  let text ← pure joiner
                  if false = true then do
                      let __do_lift ← holding [text] do
                        let __do_lift ← mkInt n
                        newTuple [text, __do_lift]
                      ret __do_lift
                    else ret text
                else do
                  let text ← call (Value.builtin (if ((0 : Nat) == 0) = true then "str.join" else "bytes.join")) [joiner, Value.ref D]
                  if false = true then do
                      let __do_lift ← holding [text] do
                        let __do_lift ← mkInt n
                        newTuple [text, __do_lift]
                      ret __do_lift
                    else ret text) (fun fin s' => match fin with | .done f => R (.ok f) s' | .again c' => c'.quiet = true ∧ codeAny (model prog w) A c' R s') (fun e s' => R (.error e) s') s' := by
          intro s' hP' e1 e2 e3
          refine wpAny_bind (slice_spec hx ?_)
          obtain ⟨ext, nw, items, nn, hD, hs⟩ := hP'
          refine wpAny_bind (wpAny_seqItems (s := { s' with toks := s'.toks + 1 }) hD rfl ?_)
          have hnil : ¬ (((some items : Option (Array Value)).getD #[]).isEmpty = true) := by
            intro q
            have q' : items = #[] := by simpa using q
            subst q'
            cases hs
            exact hne rfl
          rw [if_neg hnil, if_pos (by decide)]
          refine wpAny_bind (join_listC (s := { s' with toks := s'.toks + 1 }) (D := D) (items := items) (ys := out) ⟨_, hD, rfl, _, rfl⟩ hs ?_ ?_ ?_)
          · show (x.cps.extract 0 0).size ≤ 64
            simp
          · omega
          · intro t' k'
            rw [if_neg (by decide)]
            have e0 : (⟨x.cps.extract 0 0⟩ : Str) = Str.ofString "" := by
              show (⟨x.cps.extract 0 0⟩ : Str) = ⟨#[]⟩
              rw [Array.extract_eq_empty_of_le (by omega)]
            rw [e0]
            have := hR t' s'.heap k' ext
            rw [← e1, ← e2, ← e3] at this
            exact wpAny_pure this
        split
        · rename_i hlt
          rw [if_pos hlt] at h
          refine wpAny_bind (slice_spec hx ?_)
          refine wpAny_bind (Pcs.upd (s := { s with toks := s.toks + 1 }) hP (by omega) _ _ fun hP' => ?_)
          rw [show (⟨x.cps.extract dn x.cps.size⟩ : Str) = ⟨x.cps.extract dn⟩ from rfl] at hP'
          subst h
          exact fin _ hP' rfl rfl rfl
        · rename_i hlt
          rw [if_neg hlt] at h
          subst h
          exact fin _ hP rfl rfl rfl
      | some m =>
        dsimp only at h ⊢
        have fin : ∀ (s' : Shared) (ps' : List Str), Pcs h₀ s'.heap D ps' → ps'.length ≤ ps.length + 1 → subF c x repl k m.handed m.handed (m.handed == m.start) (ps' ++ [repl]) = some out → s'.gens = s.gens → s'.drawn = s.drawn → s'.os = s.os → wpAny (model prog w) (A.under
            (Code.builtin "re.Pattern.sub.loop" { pos := [Value.ref p, Value.str x t, Value.str repl u, Value.int 0 0, Value.int 0 0, Value.int (↑n) 0, Value.int (↑dn) 0, Value.int (↑start) 0, Value.bool must, Value.ref D, Value.bool false] }))
            (do
              updateSeq D fun x => x.push (Value.str repl u)
              again
                (Code.builtin "re.Pattern.sub.loop"
                  {
                    pos :=
                      [Value.ref p, Value.str x t, Value.str repl u, Value.int 0 0, Value.int 0 0,
                        Value.int (↑n + 1) 0, Value.int (↑m.handed) 0, Value.int (↑m.handed) 0,
                        Value.bool (m.handed == m.start), Value.ref D, Value.bool false] })) (fun fin s' => match fin with | .done f => R (.ok f) s' | .again c' => c'.quiet = true ∧ codeAny (model prog w) A c' R s') (fun e s' => R (.error e) s') s' := by
          intro s' ps' hP' hl' hsub e1 e2 e3
          refine wpAny_bind (Pcs.upd hP' (by omega) _ _ fun hP'' => ?_)
          refine wpAny_pure ⟨plainId_quiet (by decide +kernel) _, ?_⟩
          refine ih A _ (n + 1) m.handed m.handed _ (ps' ++ [repl]) hsub (by rw [List.length_append, List.length_singleton]; omega) hP'' ?_ hne hsum hol
          intro t' h' tk he
          have := hR t' h' tk he
          rw [← e1, ← e2, ← e3] at this
          exact this
        split
        · rename_i hlt
          rw [if_pos hlt] at h
          refine wpAny_bind (slice_spec hx ?_)
          refine wpAny_bind (Pcs.upd (s := { s with toks := s.toks + 1 }) hP (by omega) _ _ fun hP' => ?_)
          rw [if_pos (by decide)]
          refine wpAny_bind (wpAny_pure ?_)
          rw [if_pos (show (Value.str repl u != Value.none) = true from rfl)]
          exact fin _ _ hP' (by rw [List.length_append, List.length_singleton]; omega) h rfl rfl rfl
        · rename_i hlt
          rw [if_neg hlt] at h
          rw [if_pos (by decide)]
          refine wpAny_bind (wpAny_pure ?_)
          rw [if_pos (show (Value.str repl u != Value.none) = true from rfl)]
          exact fin _ _ hP (by omega) h rfl rfl rfl
theorem slot_sub : Slot "re.Pattern" (Str.ofString "sub") "re.Pattern.sub" :=
  .of (owner := "re.Pattern") (n := "sub") (by rw [typeLookup_type, builtinLookup_eq_fast]; kernel_rfl) (by decide +kernel) (by decide +kernel) (by decide +kernel)
    (by first | exact .inl (by decide +kernel) | exact .inr (by decide +kernel)) (by rw [isSubtype_type]; kernel_rfl)
theorem entry_sub : entryFor table "re.Pattern.sub" = some Builtin.«re.Pattern.sub» := entryFor_of_tree (by kernel_rfl)
theorem args_sub (a b c : Value) : argsOk "re.Pattern.sub" ⟨[a, b, c], []⟩ := by unfold argsOk; kernel_rfl
theorem type_sub : typeOf (.builtin "re.Pattern.sub") = pure (.type "method_descriptor") := by show builtinType _ = _; rw [builtinType_eq_fast]; kernel_rfl
theorem attrs_pat : PlainAttrs "re.Pattern" :=
  ⟨⟨"object.__getattribute__", by rw [typeLookup_type, builtinLookup_eq_fast]; kernel_rfl, by decide +kernel⟩, by rw [typeLookup_type, builtinLookup_eq_fast]; kernel_rfl⟩
theorem str_nocall : typeLookup (.type "str") (Str.ofString "__call__") = pure none := by rw [typeLookup_type, builtinLookup_eq_fast]; kernel_rfl
theorem named_sub (repl string : Value) : reNamed "re.Pattern.sub" "sub" ["repl", "string", "count"] 2 [repl, string] [] = pure [some repl, some string, none] := rfl
theorem sub_spec {prog : Program} {w : World} {A : Around} {s : Shared} {p : Addr} {c : Array Nat} {x repl : Str} {t u : Tok} {out : List Str} {Q : Value → Shared → Prop} {E : Value → Shared → Prop}
    (P : PatAt s.heap p c) (hx : x.cps.size ≤ 10000) (hrepl : repl.cps.contains 92 = false) (h : subF c x repl 100 0 0 false [] = some out) (hne : out ≠ []) (hsum : (out.map (·.length)).sum ≤ 10000) (hol : out.length ≤ 1000)
    (hQ : ∀ t' h' tk, Ext s.heap h' → Q (.str (Txt.join (Str.ofString "") out) t') { s with heap := h', toks := tk }) :
    wpAny (model prog w) A (call (.builtin "re.Pattern.sub") [.ref p, .str repl u, .str x t]) Q E s := by
  have hT : s.TypeIs (.ref p) "re.Pattern" := by
    obtain ⟨o, fs, ct, oc, items, n, h1, h2, _⟩ := P
    exact ⟨o, h1, h2⟩
  refine wpAny_call (codeAny_call_builtin slot_sub.plain entry_sub (slot_sub.check _ _ _ _ _ _ _ _ hT (args_sub _ _ _) ?_))
  unfold Builtin.«re.Pattern.sub» reSubstitute
  dsimp only
  rw [named_sub]
  refine wpAny_bind (wpAny_pure ?_)
  dsimp only
  refine wpAny_bind (wpAny_pure ?_)
  refine wpAny_bind (wpAny_specialOf (typeIs_str _ _ _) str_nocall ?_)
  rw [if_neg (by simp)]
  refine wpAny_bind (show wpAny _ _ (pure (some repl)) _ _ s from wpAny_pure ?_)
  dsimp only
  refine wpAny_bind (wpAny_pure ?_)
  rw [if_neg (by simp), hrepl, if_pos (show (!false) = true from rfl)]
  refine wpAny_bind (wpAny_pure ?_)
  dsimp only
  refine wpAny_bind (wpAny_holding (whole_spec P ?_))
  rw [if_neg (by decide)]
  refine wpAny_bind (wpAny_newObj_type ?_)
  refine wpAny_pure ⟨plainId_quiet (by decide +kernel) _, ?_⟩
  have hsz : s.heap.get? s.heap.objs.size = none := by
    cases q : s.heap.get? s.heap.objs.size with
    | none => rfl
    | some o => exact absurd (Heap.lt_size q) (Nat.lt_irrefl _)
  refine loop_spec P hx 100 A _ 0 0 0 false [] h (by decide) ⟨fun b o e => Heap.get?_push_of_some _ e, hsz, #[], 0, Heap.get?_push_size _ rfl, .nil⟩ ?_ hne hsum hol
  intro t' h' tk he
  exact hQ t' h' tk he
def c50 : Array Nat := #[14, 4, 0, 1, 1, 6, 1, 16, 46, 1]
def c55 : Array Nat := #[14, 9, 4, 1, 2, 16, 10, 16, 13, 0, 7, 7, 16, 13, 16, 10, 15, 18, 5, 16, 10, 15, 13, 11, 16, 13, 5, 5, 0, 16, 10, 1, 15, 2, 0, 1]
def ends : List Str := [Str.ofString "\n", Str.ofString "\x0d", Str.ofString "\x0d\n"]
def fitsOut (o : List Str) : Bool := !o.isEmpty && decide ((o.map (·.length)).sum ≤ 10000) && decide (o.length ≤ 1000)
def okQ (x z : Str) : Bool := decide (x.cps.size ≤ 10000) && match subF c55 x (Str.ofString "\x0d\n") 100 0 0 false [] with
  | none => false
  | some o1 => fitsOut o1 && decide ((Txt.join (Str.ofString "") o1).cps.size ≤ 10000) && match subF c50 (Txt.join (Str.ofString "") o1) (Str.ofString "..") 100 0 0 false [] with
    | none => false
    | some o2 => fitsOut o2 && Txt.join (Str.ofString "") o2 == z
theorem okQ_all : ∀ d < 5, ∀ e ∈ ends, 1 ≤ d → okQ (drow d ++ e) (drow (d + 1) ++ Str.ofString "\x0d\n") = true := by decide +kernel
end Mine
end
section
open PySem PySem.W PyProof.Rows PySem.Calls PySem.Builtin PySem.Builtin.Re
set_option maxRecDepth 100000
namespace Mine
theorem pat50 {w : World} {h : Heap} (X : (Mine.hd.heap_39 w.params).In h) : PatAt h 50 c50 := by
  refine ⟨⟨_, _, _, _, _, _, X 50 _ (by k_is), rfl, rfl, rfl, rfl, rfl, rfl, X _ _ (by k_is), rfl, by decide +kernel⟩⟩
theorem pat55 {w : World} {h : Heap} (X : (Mine.hd.heap_39 w.params).In h) : PatAt h 55 c55 := by
  refine ⟨⟨_, _, _, _, _, _, X 55 _ (by k_is), rfl, rfl, rfl, rfl, rfl, rfl, X _ _ (by k_is), rfl, by decide +kernel⟩⟩
theorem noDict {w : World} {h : Heap} {p : Addr} {c : Array Nat} (P : PatAt h p c) : ∀ a, Value.ref p = .ref a → ∃ o, h.get? a = some o ∧ o.dict = none := by
  intro a e
  cases e
  obtain ⟨o, fs, ct, oc, items, n, h1, h2, h3, _⟩ := P
  exact ⟨o, h1, h3⟩
theorem patType {s : Shared} {p : Addr} {c : Array Nat} (P : PatAt s.heap p c) : s.TypeIs (.ref p) "re.Pattern" := by
  obtain ⟨o, fs, ct, oc, items, n, h1, h2, _⟩ := P
  exact ⟨o, h1, h2⟩
set_option maxHeartbeats 4000000 in
theorem quote_spec {prog : Program} {w : World} {mg mb : Str → Option Value} {A : Around} {s : Shared} {Q : Value → Shared → Prop} (R : Rd w mg mb s.heap) (hr : A.depth < recursionLimit)
    (x z : Str) (t : Tok) (hok : okQ x z = true) (hret : ∀ t' h' tk', Ext s.heap h' → Q (.str z t') { s with heap := h', toks := tk' }) :
    wpAny (model prog w) A (call (.ref 62) [.str x t]) Q NoE s := by
  have X := R.X
  have T := R.T
  unfold okQ at hok
  rw [Bool.and_eq_true, decide_eq_true_eq] at hok
  obtain ⟨hx, hok⟩ := hok
  cases ho1 : subF c55 x (Str.ofString "\x0d\n") 100 0 0 false [] with
  | none => rw [ho1] at hok; cases hok
  | some o1 =>
  rw [ho1] at hok
  simp only [Bool.and_eq_true, decide_eq_true_eq] at hok
  obtain ⟨⟨hf1, hx2⟩, hok⟩ := hok
  cases ho2 : subF c50 (Txt.join (Str.ofString "") o1) (Str.ofString "..") 100 0 0 false [] with
  | none => rw [ho2] at hok; cases hok
  | some o2 =>
  rw [ho2] at hok
  simp only [Bool.and_eq_true, beq_iff_eq] at hok
  obtain ⟨hf2, rfl⟩ := hok
  unfold fitsOut at hf1 hf2
  simp only [Bool.and_eq_true, decide_eq_true_eq, Bool.not_eq_true', List.isEmpty_eq_false_iff] at hf1 hf2
  obtain ⟨⟨a1, a2⟩, a3⟩ := hf1
  obtain ⟨⟨b1, b2⟩, b3⟩ := hf2
  w_on
  refine enter R hr (by k_is) (by k_is) (binds := [(Str.ofString "data", .str x t)]) (BindsTo.of_eq rfl) (locs rfl) (by decide) rfl rfl rfl ?_
  intro h₁ tk htk F N
  generalize s.heap.objs.size = L at *
  iterate 4 walk1
  refine getMethod_builtin (patType (pat50 (X.keeps F.keep))) attrs_pat slot_sub type_sub (noDict (w := w) (pat50 (X.keeps F.keep))) ?_
  iterate 6 walk1
  refine getMethod_builtin (patType (pat55 (X.keeps F.keep))) attrs_pat slot_sub type_sub (noDict (w := w) (pat55 (X.keeps F.keep))) ?_
  iterate 6 walk1
  refine sub_spec (pat55 (X.keeps F.keep)) hx (by decide +kernel) ho1 a1 a2 a3 fun t' h' tk' e' => ?_
  have F' : Fr s.heap L h' _ := ⟨F.ns.keeps e', fun b o e => e' b o (F.keep b o e), F.above⟩
  have N' : News s.heap L h' [] := News.nil
  k_steps
  refine sub_spec (pat50 (X.keeps F'.keep)) hx2 (by decide +kernel) ho2 b1 b2 b3 fun t' h' tk' e' => ?_
  exact hret _ _ _ fun b o e => e' b o (F'.keep b o e)
end Mine
end
section
open PySem PySem.W PyProof.Rows PySem.Calls
set_option maxRecDepth 100000
namespace Mine
theorem frKeep {h₀ h h' : Heap} {L : Addr} {m : Str → Option Value} (F : Fr h₀ L h m) (e : Ext h h') : Fr h₀ L h' m := ⟨F.ns.keeps e, fun b o x => e b o (F.keep b o x), F.above⟩
theorem newsKeep {h₀ h h' : Heap} {L : Addr} {news : List (Addr × Obj)} (N : News h₀ L h news) (e : Ext h h') : News h₀ L h' news := fun p hp => ⟨e _ _ (N p hp).1, (N p hp).2⟩
/-- a for over any iterator that walks, by what holds between the turns -/
theorem for_any {prog : Program} {w : World} {A : Around} {s : Shared} {env : Env} {target : Expr} {body : List Stmt} {It : Addr} {fp wr : List Addr} {n : Nat} {P : Nat → Value → Prop} {St : Nat → Heap → Prop} {Q : Flow → Shared → Prop}
    (W : Walks prog w A It fp wr n P St) (J : Nat → Shared → Prop) (h0 : St 0 s.heap) (hJ0 : J 0 s)
    (ht : ∀ v, letOwnedTupleGo target (.ref It) v = pure ())
    (stab : ∀ i s' h tk, J i s' → (∀ b o, b ∉ wr → s'.heap.get? b = some o → h.get? b = some o) → J i { s' with heap := h, toks := tk })
    (turn : ∀ i v s', i < n → P i v → J i s' → St (i + 1) s'.heap → wpAny (model prog w) A (assign target env v) (fun _ s₂ => wpAny (model prog w) A (execs body env) (fun f s₃ => match f with
        | .next | .cont => J (i + 1) s₃ ∧ ∀ b ∈ fp, ∀ o, s'.heap.get? b = some o → s₃.heap.get? b = some o
        | .brk => Q .next s₃
        | .ret v => Q (.ret v) s₃) NoE s₂) NoE s')
    (done : ∀ s', J n s' → Q .next s') :
    codeAny (model prog w) A (.forLoop target (.ref It) body [] env) (fun r s' => match r with | .ok f => Q f s' | .error e => cameBackBy (model prog w) A env NoE e s') s := by
  refine codeAny_forLoop_any (fun k s' => ∃ i, i ≤ n ∧ k = n - i ∧ J i s' ∧ St i s'.heap) ?_ n ⟨0, Nat.zero_le _, rfl, hJ0, h0⟩
  rintro k s' ⟨i, hi, rfl, hJ, hS⟩
  by_cases hin : i < n
  · refine W.item i s' _ _ hin hS fun v h' tk hv hS' hk => ?_
    refine wpAny_of_eq (ht v) ?_
    refine wpAny_mono (turn i v _ hin hv (stab i s' h' tk hJ hk) hS') (fun _ s₂ h₂ => wpAny_mono h₂ (fun f s₃ h₃ => ?_) fun _ _ x => x.elim) fun _ _ x => x.elim
    cases f with
    | next => exact ⟨n - (i + 1), by omega, i + 1, hin, rfl, h₃.1, W.frame _ _ _ hS' h₃.2⟩
    | cont => exact ⟨n - (i + 1), by omega, i + 1, hin, rfl, h₃.1, W.frame _ _ _ hS' h₃.2⟩
    | brk => exact h₃
    | ret v => exact h₃
  · have e : i = n := by omega
    subst e
    exact W.done s' _ _ hS fun h' tk hk => wpAny_execs_nil (done _ (stab _ s' h' tk hJ hk))
/-- the rest of the heap, as a ledger -/
def rest (h₀ : Heap) (L : Addr) (M : List Addr) (h : Heap) : List (Addr × Obj) := (List.range h.objs.size).filterMap fun a => if (h₀.get? a).isNone && a != L && !M.contains a then (h.get? a).map fun o => (a, o) else none
theorem mem_rest {h₀ h : Heap} {L a : Addr} {M : List Addr} {o : Obj} : (a, o) ∈ rest h₀ L M h ↔ h₀.get? a = none ∧ a ≠ L ∧ a ∉ M ∧ h.get? a = some o := by
  unfold rest
  rw [List.mem_filterMap]
  constructor
  · rintro ⟨b, hb, e⟩
    split at e
    · rename_i hc
      simp only [Bool.and_eq_true, Option.isNone_iff_eq_none, bne_iff_ne, ne_eq, Bool.not_eq_true', List.contains_eq_mem, decide_eq_false_iff_not] at hc
      obtain ⟨⟨c1, c2⟩, c3⟩ := hc
      cases hg : h.get? b with
      | none => rw [hg] at e; cases e
      | some ob => rw [hg] at e; cases e; exact ⟨c1, c2, c3, hg⟩
    · cases e
  · rintro ⟨c1, c2, c3, c4⟩
    refine ⟨a, List.mem_range.mpr (Heap.lt_size c4), ?_⟩
    rw [if_pos (by simp [c1, c2, c3]), c4]
    rfl
theorem news_rest {h₀ h : Heap} {L : Addr} {M : List Addr} : News h₀ L h (rest h₀ L M h) := fun p hp => by
  obtain ⟨a, o⟩ := p
  obtain ⟨c1, c2, c3, c4⟩ := mem_rest.mp hp
  exact ⟨c4, c2, c1⟩
theorem off_rest {h₀ h : Heap} {L : Addr} {M : List Addr} : OwnOff (rest h₀ L M h) M := fun p hp b hb e => by
  obtain ⟨a, o⟩ := p
  obtain ⟨c1, c2, c3, c4⟩ := mem_rest.mp hp
  subst e
  exact c3 hb
/-- a def is entered; the objects of `news` may turn, all else of the heap stands -/
theorem enterH {prog : Program} {w : World} {mg mb : Str → Option Value} {A : Around} {s : Shared} {f : Addr} {vs : List Value} {Rr : Result → Shared → Prop} {h₀ : Heap} {news : List (Addr × Obj)}
    {name qual : Str} {params : Arguments} {body : List Stmt} {scope : Scope} {dV kV doc pm cdv ct oc : Value} {an od : Option Addr} {osl : Array (Option Value)} {binds : List (Str × Value)}
    (R : Rd w mg mb h₀) (e₀ : Ext h₀ s.heap) (hn : ∀ p ∈ news, s.heap.get? p.1 = some p.2 ∧ h₀.get? p.1 = none) (hroom : A.depth < recursionLimit)
    (ho : (Mine.hd.heap_39 w.params).lookup f = some ⟨oc, od, .func (fnOf name qual params body scope dV kV doc pm an cdv ct), osl⟩) (hcd : codeIn (Mine.hd.heap_39 w.params) cdv qual = true)
    (hbind : BindsTo s (fnOf name qual params body scope dV kV doc pm an cdv ct) ⟨vs, []⟩ binds) (hloc : ∀ y ∈ binds, scope.names.lookup y.1 = some .local)
    (hcell : ∀ x ∈ scope.names, x.2 ≠ .cell) (hco : scope.isCoroutine = false) (hgen : scope.isGenerator = false) (hk : scope.kind = .function)
    (h : ∀ g h₁ tk, s.toks ≤ tk → Rd w mg mb g → (∀ b o, g.get? b = some o → s.heap.get? b = some o) → (∀ b o, s.heap.get? b = some o → b ∉ news.map (·.1) → g.get? b = some o) → Fr g s.heap.objs.size h₁ (fun y => binds.reverse.lookup y) → News g s.heap.objs.size h₁ news →
      wpAny (model prog w) (A.deeper (envOf qual scope s.heap.objs.size f cdv)) (execs body (envOf qual scope s.heap.objs.size f cdv))
        (fun fl s' => Rr (.ok (.ret (match fl with | .ret v => v | _ => .none))) s') NoE { s with heap := h₁, toks := tk }) :
    codeAny (model prog w) A (.call (.ref f) ⟨vs, []⟩) Rr s := by
  have R' := R.keeps e₀
  have kk : Ext h₀ (hideAll s.heap (news.map (·.1))) := fun b o e => hideAll_get _ (e₀ b o e) fun q => by
    obtain ⟨p, hp, rfl⟩ := List.mem_map.mp q
    rw [(hn p hp).2] at e; cases e
  refine codeAny_call_def (fd := fnOf name qual params body scope dV kV doc pm an cdv ct) (body := body) (binds := binds) hroom (R'.X _ _ ho) rfl R'.T.nolimit (codeRec_of R'.X hcd) rfl hbind hcell hloc (fun h₁ hns hk₁ => ?_) hco hgen hk
  refine wpAny_mono (h (hideAll s.heap (news.map (·.1))) h₁ _ (Nat.le_add_right _ _) (R.keeps kk) (fun b o e => of_hideAll _ e) (fun b o e q => hideAll_get _ e q) ⟨hns, fun b o e => hk₁ b o (of_hideAll _ e), Nat.le_of_eq (hideAll_size _ _)⟩ ?_) (fun fl s' hq => hq) fun _ _ x => x.elim
  exact fun p hp => ⟨hk₁ _ _ (hn p hp).1, Nat.ne_of_lt (Heap.lt_size (hn p hp).1), hideAll_none _ (List.mem_map_of_mem hp)⟩
theorem frStab {g h h' : Heap} {L It : Addr} {m : Str → Option Value} (F : Fr g L h m) (hg : g.get? It = none) (hL : L ≠ It) (hk : ∀ b o, b ∉ [It] → h.get? b = some o → h'.get? b = some o) : Fr g L h' m :=
  ⟨Heap.Ns.at' F.ns fun o e => hk L o (by simpa using hL) e, fun b o e => hk b o (by simp only [List.mem_singleton]; intro q; rw [q, hg] at e; cases e) (F.keep b o e), F.above⟩
theorem newsStab {g h h' : Heap} {L It : Addr} {news : List (Addr × Obj)} (N : News g L h news) (hI : ∀ p ∈ news, p.1 ≠ It) (hk : ∀ b o, b ∉ [It] → h.get? b = some o → h'.get? b = some o) : News g L h' news :=
  fun p hp => ⟨hk _ _ (by simpa using hI p hp) (N p hp).1, (N p hp).2⟩
theorem newsSub {g h : Heap} {L : Addr} {news news' : List (Addr × Obj)} (N : News g L h news) (hs : ∀ p ∈ news', p ∈ news) : News g L h news' := fun p hp => N p (hs p hp)
theorem extPush (h : Heap) (o : Obj) : Ext h (h.push o) := fun _ _ e => Heap.get?_push_of_some _ e
theorem newsApp {g h : Heap} {L : Addr} {a b : List (Addr × Obj)} (N : News g L h a) (N' : News g L h b) : News g L h (a ++ b) := fun p hp => (List.mem_append.mp hp).elim (N p) (N' p)
/-- what was in the rest of h stands in h' -/
theorem rest_keeps {g h h' : Heap} {L b : Addr} {M : List Addr} {news : List (Addr × Obj)} {o : Obj} (N : News g L h' news) (hs : ∀ p ∈ rest g L M h, p ∈ news) (hg : g.get? b = none) (hL : b ≠ L) (hM : b ∉ M) (e : h.get? b = some o) : h'.get? b = some o :=
  (N (b, o) (hs _ (mem_rest.mpr ⟨hg, hL, hM, e⟩))).1
theorem newsNe {g h : Heap} {L : Addr} {news : List (Addr × Obj)} (N : News g L h news) : ∀ p ∈ news, p.1 ≠ h.objs.size := fun p hp => Nat.ne_of_lt (Heap.lt_size (N p hp).1)
theorem newsClsNe {g h : Heap} {L a b : Addr} {o o' : Obj} {news : List (Addr × Obj)} (N : News g L h news) (m1 : (a, o) ∈ news) (m2 : (b, o') ∈ news) (c c' : Value) (e1 : o.cls = c) (e2 : o'.cls = c') (hc : c ≠ c') : @Ne Nat a b := by
  intro q
  have h1 := (N _ m1).1
  have h2 := (N _ m2).1
  dsimp only at h1 h2
  rw [show a = b from q, h2] at h1
  cases h1
  exact hc (e1.symm.trans e2)
/-- these objects stand in h and are none of h₀'s -/
def Has (h₀ h : Heap) (l : List (Addr × Obj)) : Prop := ∀ p ∈ l, h.get? p.1 = some p.2 ∧ h₀.get? p.1 = none
theorem Has.keeps {h₀ h h' : Heap} {l : List (Addr × Obj)} (H : Has h₀ h l) (e : Ext h h') : Has h₀ h' l := fun p hp => ⟨e _ _ (H p hp).1, (H p hp).2⟩
theorem Has.base {h₀ h₁ h : Heap} {l : List (Addr × Obj)} (H : Has h₀ h l) (e : Ext h₁ h₀) : Has h₁ h l := fun p hp => ⟨(H p hp).1, by
  cases q : h₁.get? p.1 with
  | none => rfl
  | some o => have := e _ _ q; rw [(H p hp).2] at this; cases this⟩
theorem Has.news {g h h' : Heap} {L : Addr} {m : Str → Option Value} {l : List (Addr × Obj)} (H : Has h h' l) (F : Fr g L h m) : News g L h' l := fun p hp => ⟨(H p hp).1, (by
  intro q
  obtain ⟨oL, _, _, hL, _⟩ := F.ns
  have := (H p hp).2
  rw [q, hL] at this
  cases this), ((H.base F.keep) p hp).2⟩
theorem Has.of {g h₀ h : Heap} {L : Addr} {l : List (Addr × Obj)} (N : News g L h l) (e : Ext h₀ g) : Has h₀ h l := fun p hp => ⟨(N p hp).1, by
  cases q : h₀.get? p.1 with
  | none => rfl
  | some o => have := e _ _ q; rw [(N p hp).2.2] at this; cases this⟩
theorem Has.app {h₀ h : Heap} {l l' : List (Addr × Obj)} (H : Has h₀ h l) (H' : Has h₀ h l') : Has h₀ h (l ++ l') := fun p hp => (List.mem_append.mp hp).elim (H p) (H' p)
theorem extHide {g h h' : Heap} {news : List (Addr × Obj)} (sg : ∀ b o, h.get? b = some o → b ∉ news.map (·.1) → g.get? b = some o) (e : Ext g h') (hn : ∀ p ∈ news, h.get? p.1 = some p.2) (hn' : ∀ p ∈ news, h'.get? p.1 = some p.2) : Ext h h' := fun b o q => by
  by_cases hb : b ∈ news.map (·.1)
  · obtain ⟨p, hp, rfl⟩ := List.mem_map.mp hb
    rw [hn p hp] at q
    cases q
    exact hn' p hp
  · exact e b o (sg b o q hb)
/-- a def with cells is entered; all of the heap stands -/
theorem enterC {prog : Program} {w : World} {mg mb : Str → Option Value} {A : Around} {s : Shared} {f : Addr} {vs : List Value} {Q : Value → Shared → Prop}
    {name qual : Str} {params : Arguments} {body : List Stmt} {scope : Scope} {dV kV doc pm cdv ct oc : Value} {an od : Option Addr} {osl : Array (Option Value)} {binds : List (Str × Value)}
    (R : Rd w mg mb s.heap) (hroom : A.depth < recursionLimit)
    (ho : (Mine.hd.heap_39 w.params).lookup f = some ⟨oc, od, .func (fnOf name qual params body scope dV kV doc pm an cdv ct), osl⟩) (hcd : codeIn (Mine.hd.heap_39 w.params) cdv qual = true)
    (hbind : BindsTo s (fnOf name qual params body scope dV kV doc pm an cdv ct) ⟨vs, []⟩ binds)
    (hkind : (binds.all fun y => scope.names.lookup y.1 == some .local || scope.names.lookup y.1 == some .cell) = true) (hnd : ((cellsFrom 0 scope.names []).map (·.1)).Nodup)
    (hco : scope.isCoroutine = false) (hgen : scope.isGenerator = false) (hk : scope.kind = .function)
    (h : ∀ h₁ tk cells, s.toks ≤ tk → Fr s.heap s.heap.objs.size h₁ (bindL (envOfC qual scope s.heap.objs.size f cdv).kindOf binds fun _ => none) → News s.heap s.heap.objs.size h₁ cells →
      CellsAre (bindC (envOfC qual scope s.heap.objs.size f cdv).kindOf binds fun _ => none) (cellsFrom (s.heap.objs.size + 1) scope.names []) cells →
      wpAny (model prog w) (A.deeper (envOfC qual scope s.heap.objs.size f cdv)) (execs body (envOfC qual scope s.heap.objs.size f cdv))
        (fun fl s' => Q (match fl with | .ret v => v | _ => .none) s') NoE { s with heap := h₁, toks := tk }) :
    wpAny (model prog w) A (call (.ref f) vs) Q NoE s := by
  refine wpAny_call ?_
  refine codeAny_call_function (fd := fnOf name qual params body scope dV kV doc pm an cdv ct) hroom (R.X _ _ ho) rfl hco hgen rfl (codeRec_of R.X hcd) (hbind _ _ _ _ ?_)
  refine wpAny_with_toks (Nat.le_refl s.toks) (wpAny_newFunctionEnv_cells hk (kindsX hkind _) fun env' he s' x htk => ?_)
  subst he
  refine ⟨R.T.nolimit.keeps x.toInCall.keep, codeAny_func ?_⟩
  obtain ⟨h₁, tk, rfl, _⟩ := x.done
  have hk₁ := x.toInCall.keep
  obtain ⟨cells, NC, Y⟩ := Cl.news (h₀ := s.heap) (Nat.le_refl _) fun n c hm => ⟨x.cell n c (lookup_of_mem_nodup (cellsFrom_names scope.names 0 (s.heap.objs.size + 1) [] [] rfl ▸ hnd) hm), x.above n c hm⟩
  exact wpAny_mono (h h₁ tk cells htk ⟨x.toInCall.ns, hk₁, Nat.le_refl _⟩ NC Y) (fun fl s' hq => hq) fun _ _ x => x.elim
end Mine
end
section
open PySem PySem.W PyProof.Rows PySem.Calls
set_option maxRecDepth 100000
namespace Mine
theorem withTk {α : Type} {M : Model} {A : Around} {s : Shared} {t : Sem α} {Q : α → Shared → Prop} (hk : 1 ≤ s.toks) (h : wpAny M A t (fun a s' => 1 ≤ s'.toks → Q a s') NoE s) : wpAny M A t Q NoE s :=
  wpAny_with_toks hk (wpAny_mono h (fun _ _ x => x) fun _ _ x => x.elim)
def swap (c d : Nat) (k : Nat) : Nat := if k = c then d else k
theorem map_free (c d : Nat) : ∀ l : List Nat, c ∉ l → l.map (swap c d) = l
  | [], _ => rfl
  | k :: r, h => by
    have hne : ¬ k = c := fun e => h (by rw [e]; exact List.mem_cons_self ..)
    rw [List.map_cons, map_free c d r fun m => h (List.mem_cons_of_mem _ m), swap, if_neg hne]
theorem map_join (c d : Nat) : ∀ parts : List Str, (∀ p ∈ parts, c ∉ p.cps.toList) → (Str.join ⟨#[c]⟩ parts).cps.toList.map (swap c d) = (Str.join ⟨#[d]⟩ parts).cps.toList
  | [], _ => rfl
  | [p], h => map_free c d _ (h p (List.mem_singleton.mpr rfl))
  | p :: q :: r, h => by
    have ih := map_join c d (q :: r) fun a ha => h a (List.mem_cons_of_mem _ ha)
    show List.map (swap c d) (p ++ ⟨#[c]⟩ ++ Str.join ⟨#[c]⟩ (q :: r)).cps.toList = (p ++ ⟨#[d]⟩ ++ Str.join ⟨#[d]⟩ (q :: r)).cps.toList
    simp only [Str.cps_append, Array.toList_append, List.map_append]
    rw [ih, map_free c d _ (h p (List.mem_cons_self ..))]
    simp [swap]
theorem replace_map (x : Str) (c d : Nat) : Txt.replace x ⟨#[c]⟩ ⟨#[d]⟩ = ⟨(x.cps.toList.map (swap c d)).toArray⟩ := by
  have h : (Txt.replace x ⟨#[c]⟩ ⟨#[d]⟩).cps.toList = x.cps.toList.map (swap c d) := by
    rw [StrLaws.replace_one, ← map_join c d _ (StrLaws.split_free x c), StrLaws.join_split]
  generalize Txt.replace x ⟨#[c]⟩ ⟨#[d]⟩ = r at h
  obtain ⟨⟨l⟩⟩ := r
  have e : l = _ := h
  rw [e]
theorem join3 (a b c : List Nat) : Txt.join (Str.ofString "") [⟨a.toArray⟩, ⟨b.toArray⟩, ⟨c.toArray⟩] = ⟨(a ++ b ++ c).toArray⟩ := by
  show Txt.join ⟨#[]⟩ _ = _
  unfold Txt.join
  rw [StrLaws.glued_eq_join]
  show (⟨a.toArray⟩ : Str) ++ ⟨#[]⟩ ++ (⟨b.toArray⟩ ++ ⟨#[]⟩ ++ ⟨c.toArray⟩) = _
  apply congrArg Str.mk
  apply Array.toList_inj.mp
  simp [Str.cps_append]
def wsL (n : Nat) : List Nat := List.replicate n 32 ++ [9]
def wsT (a b c : Nat) : Str := ⟨(wsL a ++ wsL b ++ wsL c).toArray⟩
/-- what lead makes of three rows -/
structure LeadText (r0 r1 r2 : Str) (a b c : Nat) : Prop where
  l0 : r0.length ≤ 100
  l1 : r1.length ≤ 100
  l2 : r2.length ≤ 100
  lj : (Txt.join (Str.ofString "") [r0, r1, r2]).length ≤ 1000
  lr : (Txt.replace (Txt.join (Str.ofString "") [r0, r1, r2]) (Str.ofString ".") (Str.ofString " ")).length ≤ 1000
  e : Txt.replace (Txt.replace (Txt.join (Str.ofString "") [r0, r1, r2]) (Str.ofString ".") (Str.ofString " ")) (Str.ofString "a") (Str.ofString "\t") = wsT a b c
theorem lead_of_lists (x y z : List Nat) (a b c : Nat) (hx : x.length = a + 1) (hy : y.length = b + 1) (hz : z.length = c + 1) (ha : a ≤ 20) (hb : b ≤ 20) (hc : c ≤ 20)
    (ex : (x.map (swap 46 32)).map (swap 97 9) = wsL a) (ey : (y.map (swap 46 32)).map (swap 97 9) = wsL b) (ez : (z.map (swap 46 32)).map (swap 97 9) = wsL c) : LeadText ⟨x.toArray⟩ ⟨y.toArray⟩ ⟨z.toArray⟩ a b c := by
  refine ⟨?_, ?_, ?_, ?_, ?_, ?_⟩
  · show x.toArray.size ≤ 100; simp; omega
  · show y.toArray.size ≤ 100; simp; omega
  · show z.toArray.size ≤ 100; simp; omega
  · rw [join3]; show (x ++ y ++ z).toArray.size ≤ 1000; simp; omega
  · rw [join3]
    show (Txt.replace _ ⟨#[46]⟩ ⟨#[32]⟩).cps.size ≤ 1000
    rw [replace_map]
    simp; omega
  · rw [join3]
    show Txt.replace (Txt.replace _ ⟨#[46]⟩ ⟨#[32]⟩) ⟨#[97]⟩ ⟨#[9]⟩ = _
    rw [replace_map, replace_map]
    unfold wsT
    simp only [List.map_append, ex, ey, ez]
theorem drow_map (n : Nat) : ((List.replicate n 46 ++ [97]).map (swap 46 32)).map (swap 97 9) = wsL n := by
  simp [swap, wsL]
theorem brow_map (n : Nat) : ((List.replicate n 32 ++ [97]).map (swap 46 32)).map (swap 97 9) = wsL n := by
  simp [swap, wsL]
theorem lead_drow {a b c : Nat} (ha : a ≤ 20) (hb : b ≤ 20) (hc : c ≤ 20) : LeadText (drow a) (drow b) (drow c) a b c :=
  lead_of_lists _ _ _ a b c (by simp) (by simp) (by simp) ha hb hc (drow_map a) (drow_map b) (drow_map c)
theorem lead_brow {a b c : Nat} (ha : a ≤ 20) (hb : b ≤ 20) (hc : c ≤ 20) : LeadText (brow a) (brow b) (brow c) a b c :=
  lead_of_lists _ _ _ a b c (by simp) (by simp) (by simp) ha hb hc (brow_map a) (brow_map b) (brow_map c)
/-- dots to blanks, blanks to dots -/
theorem drow_blank (n : Nat) : Txt.replace (drow n) (Str.ofString ".") (Str.ofString " ") = brow n := by
  show Txt.replace _ ⟨#[46]⟩ ⟨#[32]⟩ = _
  rw [replace_map]
  simp [drow, brow, swap]
theorem brow_dot (n : Nat) : Txt.replace (brow n) (Str.ofString " ") (Str.ofString ".") = drow n := by
  show Txt.replace _ ⟨#[32]⟩ ⟨#[46]⟩ = _
  rw [replace_map]
  simp [drow, brow, swap]
theorem drow_len (n : Nat) : (drow n).length = n + 1 := by simp [drow, Str.length]
end Mine
end
section
open PySem PySem.W PyProof.Rows PySem.Calls
namespace Mine
structure WS where
  cnt : List Int
  b : Nat
  n : Nat
  nt : Nat
def grow (cnt : List Int) (b : Nat) : List Int := if b ≥ cnt.length then cnt ++ List.replicate (b - cnt.length + 1) 0 else cnt
def bump (cnt : List Int) (b : Nat) : List Int := (grow cnt b).set b ((grow cnt b).getD b 0 + 1)
def wsStep (st : WS) (c : Nat) : WS := if c = 32 then ⟨st.cnt, st.b + 1, st.n + 1, st.nt⟩ else ⟨bump st.cnt st.b, 0, st.n + 1, st.nt + 1⟩
def wsRun (cs : List Nat) : WS := cs.foldl wsStep ⟨[], 0, 0, 0⟩
theorem wsRun_snoc (cs : List Nat) (c : Nat) : wsRun (cs ++ [c]) = wsStep (wsRun cs) c := by simp [wsRun]
theorem grow_len (cnt : List Int) (b : Nat) : b < (grow cnt b).length := by
  unfold grow; split
  · simp; omega
  · omega
theorem wsFold_le (cs : List Nat) : ∀ st : WS, (cs.foldl wsStep st).b ≤ st.b + cs.length ∧ (cs.foldl wsStep st).cnt.length ≤ max st.cnt.length (st.b + cs.length + 1) ∧ (cs.foldl wsStep st).n = st.n + cs.length := by
  induction cs with
  | nil => intro st; simp; omega
  | cons c cs ih =>
    intro st
    rw [List.foldl_cons]
    have h := ih (wsStep st c)
    have h2 : (wsStep st c).b ≤ st.b + 1 ∧ (wsStep st c).cnt.length ≤ max st.cnt.length (st.b + 1) ∧ (wsStep st c).n = st.n + 1 := by
      unfold wsStep
      split
      · simp; omega
      · simp only [bump, List.length_set]
        unfold grow
        split
        · simp; omega
        · simp; omega
    simp only [List.length_cons]
    omega
theorem wsRun_le (cs : List Nat) : (wsRun cs).b ≤ cs.length ∧ (wsRun cs).cnt.length ≤ cs.length + 1 ∧ (wsRun cs).n = cs.length := by
  have := wsFold_le cs ⟨[], 0, 0, 0⟩
  unfold wsRun
  simp at this ⊢
  omega
theorem wsT_cps (a b c : Nat) : (wsT a b c).cps.toList = wsL a ++ wsL b ++ wsL c := rfl
theorem wsT_char {a b c i k : Nat} (h : (wsT a b c).cps[i]? = some k) : k = 32 ∨ k = 9 := by
  have hm : k ∈ wsL a ++ wsL b ++ wsL c := by
    rw [← wsT_cps]
    rw [← Array.getElem?_toList] at h
    exact List.mem_of_getElem? h
  simp [wsL] at hm
  omega
theorem wsT_size (a b c : Nat) : (wsT a b c).cps.size = a + b + c + 3 := by simp [wsT, wsL]; omega
theorem bump_grow (cnt : List Int) (b : Nat) (h : cnt.length ≤ b) :
    (cnt ++ (List.replicate ((b : Int) - (cnt.length : Int) + 1).toNat [(0 : Int)]).flatten).set ((b : Int).toNat) ((cnt ++ (List.replicate ((b : Int) - (cnt.length : Int) + 1).toNat [(0 : Int)]).flatten).getD ((b : Int).toNat) 0 + 1) = bump cnt b := by
  have e1 : ((b : Int) - (cnt.length : Int) + 1).toNat = b - cnt.length + 1 := by omega
  have e2 : (List.replicate (b - cnt.length + 1) [(0 : Int)]).flatten = List.replicate (b - cnt.length + 1) 0 := by
    generalize b - cnt.length + 1 = k
    induction k with
    | zero => rfl
    | succ k ih => rw [List.replicate_succ, List.flatten_cons, ih, List.replicate_succ]; rfl
  rw [e1, e2, Int.toNat_natCast]
  unfold bump grow
  rw [if_pos h]
theorem bump_in (cnt : List Int) (b : Nat) (h : b < cnt.length) : cnt.set ((b : Int).toNat) (cnt.getD ((b : Int).toNat) 0 + 1) = bump cnt b := by
  unfold bump grow
  rw [if_neg (by omega), Int.toNat_natCast]
theorem wsT_ascii (a b c : Nat) : (wsT a b c).cps.all (· < 128) = true := by
  rw [Array.all_eq_true']
  intro k hk
  have : k ∈ wsL a ++ wsL b ++ wsL c := by rw [← wsT_cps]; exact Array.mem_toList_iff.mpr hk
  simp [wsL] at this
  simp; omega
end Mine
end
section
open PySem PySem.W PyProof.Rows PySem.Calls
set_option maxRecDepth 100000
namespace Mine
def rawD (w : World) (t : Tok) (x : Str) (t4 : Tok) : Obj := dictOf [⟨PyData.keyHash w.params (Str.ofString "raw"), .str (Str.ofString "raw") t, .str x t4⟩] 1
/-- a Whitespace at a, whose text came to st, above h₀ -/
structure LeadN (w : World) (h₀ h : Heap) (a : Addr) (st : WS) : Prop where
  ex : ∃ (dx D D' : Addr) (vs : List Value) (tb tn tt : Tok) (k1 k2 k3 k4 k5 : Tok) (raw simple : Value),
    Has h₀ h [(a, instObj 124 dx), (dx, dictOf [⟨PyData.keyHash w.params (Str.ofString "raw"), .str (Str.ofString "raw") k1, raw⟩, ⟨PyData.keyHash w.params (Str.ofString "n"), .str (Str.ofString "n") k2, .int st.n tn⟩,
      ⟨PyData.keyHash w.params (Str.ofString "nt"), .str (Str.ofString "nt") k3, .int st.nt tt⟩, ⟨PyData.keyHash w.params (Str.ofString "norm"), .str (Str.ofString "norm") k4, .ref D'⟩, ⟨PyData.keyHash w.params (Str.ofString "is_simple"), .str (Str.ofString "is_simple") k5, simple⟩] 5),
      (D', { cls := .type "tuple", data := .seq #[.ref D, .int st.b tb] }), (D, { cls := .type "tuple", data := .seq vs.toArray })] ∧ IntsAre vs st.cnt ∧ vs.length ≤ 100
theorem lead_of_news {w : World} {g h₀ h : Heap} {L a dx D D' cl : Addr} {ocl : Obj} {st : WS} {vs : List Value} {tb tn tt k1 k2 k3 k4 k5 : Tok} {raw simple : Value}
    (N : News g L h [(D', { cls := .type "tuple", data := .seq #[.ref D, .int st.b tb] }), (D, { cls := .type "tuple", data := .seq vs.toArray }), (cl, ocl), (a, instObj 124 dx), (dx, dictOf [⟨PyData.keyHash w.params (Str.ofString "raw"), .str (Str.ofString "raw") k1, raw⟩, ⟨PyData.keyHash w.params (Str.ofString "n"), .str (Str.ofString "n") k2, .int st.n tn⟩,
      ⟨PyData.keyHash w.params (Str.ofString "nt"), .str (Str.ofString "nt") k3, .int st.nt tt⟩, ⟨PyData.keyHash w.params (Str.ofString "norm"), .str (Str.ofString "norm") k4, .ref D'⟩, ⟨PyData.keyHash w.params (Str.ofString "is_simple"), .str (Str.ofString "is_simple") k5, simple⟩] 5)])
    (e : Ext h₀ g) (hi : IntsAre vs st.cnt) (hv : vs.length ≤ 100) : LeadN w h₀ h a st := by
  refine ⟨dx, D, D', vs, tb, tn, tt, k1, k2, k3, k4, k5, raw, simple, Has.of (newsSub N ?_) e, hi, hv⟩
  intro p hp
  rcases List.mem_cons.mp hp with rfl | hp
  · exact .tail _ (.tail _ (.tail _ (.head _)))
  rcases List.mem_cons.mp hp with rfl | hp
  · exact .tail _ (.tail _ (.tail _ (.tail _ (.head _))))
  rcases List.mem_cons.mp hp with rfl | hp
  · exact .head _
  rcases List.mem_cons.mp hp with rfl | hp
  · exact .tail _ (.head _)
  · cases hp
structure InitM (m : Str → Option Value) (xi cl : Addr) (st : WS) : Prop where
  self : m (Str.ofString "self") = some (.ref xi)
  count : m (Str.ofString "count") = some (.ref cl)
  b : ∃ t, m (Str.ofString "b") = some (.int st.b t)
  n : ∃ t, m (Str.ofString "n") = some (.int st.n t)
  nt : ∃ t, m (Str.ofString "nt") = some (.int st.nt t)
  S : ∃ t, m (Str.ofString "S") = some (.str (Str.ofString " ") t)
  T : ∃ t, m (Str.ofString "T") = some (.str (Str.ofString "\t") t)
def InitJ (w : World) (s : Shared) (g : Heap) (L xi dx It : Addr) (t4 t5 : Tok) (x : Str) (i : Nat) (s' : Shared) : Prop :=
  ∃ h tk m cl vs e, s' = { s with heap := h, toks := tk } ∧ Fr g L h m ∧ InitM m xi cl (wsRun (x.cps.toList.take i)) ∧ IntsAre vs (wsRun (x.cps.toList.take i)).cnt ∧
    News g L h [(cl, listOf vs.toArray e), (xi, instObj 124 dx), (dx, rawD w t5 x t4)] ∧ cl ≠ It
set_option maxHeartbeats 4000000 in
theorem lead_spec {prog : Program} {w : World} {mg mb : Str → Option Value} {A : Around} {s : Shared} {Q : Value → Shared → Prop} (R : Rd w mg mb s.heap) (hr : A.depth + 5 < recursionLimit) (hh : A.handled = none) (hk : 1 ≤ s.toks)
    (p : Addr) (r0 r1 r2 : Str) (t0 t1 t2 : Tok) (hp : s.heap.IsList p #[.str r0 t0, .str r1 t1, .str r2 t2]) (a b c : Nat) (ha : a ≤ 20) (hb : b ≤ 20) (hc : c ≤ 20) (hT : LeadText r0 r1 r2 a b c)
    (hret : ∀ x h' tk', Ext s.heap h' → 1 ≤ tk' → LeadN w s.heap h' x (wsRun (wsL a ++ wsL b ++ wsL c)) → Q (.ref x) { s with heap := h', toks := tk' }) :
    wpAny (model prog w) A (call (.ref 135) [.ref p]) Q NoE s := by
  have X := R.X
  have T := R.T
  obtain ⟨hd, dp, fr, gd, un⟩ := A
  dsimp only at hh hr
  subst hh
  obtain ⟨l0, l1, l2, lj, lr, et⟩ := hT
  w_on
  refine withTk hk ?_
  refine enter R (by show dp < _; omega) (by k_is) (by k_is) (binds := [(Str.ofString "page", .ref p)]) (BindsTo.of_eq rfl) (locs rfl) (by decide) rfl rfl rfl ?_
  intro h₁ tk htk F N
  generalize hL : s.heap.objs.size = L at *
  iterate 15 walk1
  refine withTk (by dsimp only; omega) ?_
  walk1
  intro hk1
  dsimp only at hk1
  iterate 7 walk1
  refine withTk (by dsimp only; omega) ?_
  refine SC.replaceW (by show (_ : Nat) ≠ (0 : Nat); omega) (by show (_ : Nat) ≠ (0 : Nat); omega) (by show (_ : Nat) ≠ (_ : Nat); omega) (by decide) (by omega) (by decide) ?_
  intro t3 tk3 hk3
  dsimp only at hk3
  iterate 7 walk1
  refine withTk (by dsimp only; omega) ?_
  refine SC.replaceW (by show (_ : Nat) ≠ (0 : Nat); omega) (by show (_ : Nat) ≠ (0 : Nat); omega) (by show (_ : Nat) ≠ (_ : Nat); omega) (by decide) (by omega) (by decide) ?_
  intro t4 tk4 hk4
  dsimp only at hk4
  rw [et]
  obtain ⟨x, hX⟩ : ∃ x, x = wsT a b c := ⟨_, rfl⟩
  rw [← hX]
  iterate 2 walk1
  refine call_cls F X N (by k_is) (by k_is) (by k_is) ?_
  intro xi dx h₂ F₂ N₂ l1 l2
  refine enterH (news := [(xi, instObj 124 dx), (dx, dictOf [] 0)]) R F₂.keep (fun p hp => ⟨(N₂ p hp).1, (N₂ p hp).2.2⟩) (by show dp + 1 + 1 < _; omega) (by k_is) (by k_is) (binds := [(Str.ofString "self", .ref xi), (Str.ofString "ws", .str x t4)]) (BindsTo.of_eq rfl) (locs rfl) (by decide) rfl rfl rfl ?_
  intro g h₃ tk₅ htk₅ Rg gs sg F₃ N₃
  have Xg := Rg.X
  have Tg := Rg.T
  dsimp only at htk₅ gs sg F₃ N₃
  generalize hL₂ : h₂.objs.size = L₂ at *
  have hE : Ext s.heap g := fun b o e => sg b o (F₂.keep b o e) (by
    intro q
    simp only [List.map_cons, List.map_nil, List.mem_cons, List.not_mem_nil, or_false] at q
    rcases q with q | q
    · have := (N₂ _ (.head _)).2.2; dsimp only at this; rw [← q, e] at this; cases this
    · have := (N₂ _ (.tail _ (.head _))).2.2; dsimp only at this; rw [← q, e] at this; cases this)
  have hx0 := (N₂ _ (.head _)).2.2
  have hd0 := (N₂ _ (.tail _ (.head _))).2.2
  have hx1 := (N₂ _ (.head _)).2.1
  have hd1 := (N₂ _ (.tail _ (.head _))).2.1
  clear F₂ N₂ X T F N
  replace l2 := ltN l2
  repeat ((fail_if_success (with_reducible show wpAny _ _ (exec (Stmt.For _ _ _ _ _) _) _ _ _)); first | walk1 | (dsimp only; walk1))
  refine cut (fun f s' => Stop (f = .next ∧ ∃ t5 It, InitJ w s g L₂ xi dx It t4 t5 x x.cps.size s')) ?_ ?_
  · refine wpAny_For ?_
    iterate 3 walk1
    refine wpAny_pyIter_ascii (hX ▸ wsT_ascii a b c) ?_
    dsimp only
    rename Fr _ _ _ _ => F₄
    rename News _ _ _ _ => N₄
    dsimp only at F₄ N₄
    have hgI := next_is_new F₄
    have hLI := Nat.ne_of_lt F₄.ns.lt
    have hxI := newsNe N₄
    obtain ⟨It, hIt, hgI'⟩ : ∃ It, It = _ ∧ g.get? It = none := ⟨_, rfl, hgI⟩
    rw [← hIt] at hLI hxI ⊢
    clear hgI
    refine for_any (Walks.strAscii rfl It x t4) (InitJ w s g L₂ xi dx It t4 (tk₅ + 1) x) ⟨_, hIt ▸ Heap.get?_push_size _ rfl, rfl, rfl⟩ ?_ (fun _ => rfl) ?_ ?_ ?_
    · refine ⟨_, _, _, _, [], 0, rfl, F₄.push _, ⟨rfl, rfl, ⟨_, rfl⟩, ⟨_, rfl⟩, ⟨_, rfl⟩, ⟨_, rfl⟩, ⟨_, rfl⟩⟩, .nil, newsKeep (newsSub N₄ ?hs) (extPush _ _), hxI (_, _) (.head _)⟩
      case hs =>
        intro p hp
        rcases List.mem_cons.mp hp with rfl | hp
        · exact .head _
        · exact .tail _ (.tail _ hp)
    · rintro i s' h tk ⟨h0, tk0, m, cl, vs, e, rfl, F, Mm, hi, N, ne⟩ hk'
      refine ⟨h, tk, m, cl, vs, e, rfl, frStab F hgI' hLI hk', Mm, hi, newsStab N ?_ hk', ne⟩
      intro p hp
      rcases List.mem_cons.mp hp with rfl | hp
      · exact ne
      · exact hxI p (.tail _ (.tail _ hp))
    · rintro i v s' hi ⟨c', u, hc', rfl⟩ ⟨h0, tk0, m, cl, vs, e, rfl, F, Mm, hi', N, ne⟩ hS
      have lt1 := newsClsNe N (.head _) (.tail _ (.head _)) (.type "list") (.ref 124) rfl rfl (by decide)
      have lt2 := newsClsNe N (.head _) (.tail _ (.tail _ (.head _))) (.type "list") (.type "dict") rfl rfl (by decide)
      obtain ⟨e1, e2, ⟨tb, e3⟩, ⟨tn, e4⟩, ⟨tt, e5⟩, ⟨ts, e6⟩, ⟨tT, e7⟩⟩ := Mm
      have hch : c' = 32 ∨ c' = 9 := wsT_char (hX ▸ hc')
      have F₅ := frAt [(Str.ofString "self", _), (Str.ofString "count", _), (Str.ofString "b", _), (Str.ofString "n", _), (Str.ofString "nt", _), (Str.ofString "S", _), (Str.ofString "T", _)] F ⟨e1, e2, e3, e4, e5, e6, e7, trivial⟩
      dsimp only [List.foldr] at F₅
      have N₅ : News g L₂ h0 ((cl, listOf vs.toArray e) :: (xi, instObj 124 dx) :: (dx, rawD w (tk₅ + 1) x t4) :: rest g L₂ [cl, xi, dx] h0) := newsApp N news_rest
      have hoff := off_rest (h₀ := g) (h := h0) (L := L₂) (M := [cl, xi, dx])
      have hlen := hi'.length
      have hle := wsRun_le (x.cps.toList.take i)
      have hsn : wsRun (x.cps.toList.take (i + 1)) = wsStep (wsRun (x.cps.toList.take i)) c' := by
        rw [← wsRun_snoc, List.take_add_one, Array.getElem?_toList, hc']; rfl
      have hxs : x.cps.size ≤ 63 := by rw [hX, wsT_size]; omega
      have hbl : (wsRun (x.cps.toList.take i)).b ≤ 100 := by
        have : (x.cps.toList.take i).length ≤ x.cps.size := by rw [List.length_take, Array.length_toList]; omega
        omega
      have hvl : vs.length ≤ 100 := by
        have : (x.cps.toList.take i).length ≤ x.cps.size := by rw [List.length_take, Array.length_toList]; omega
        omega
      clear hle
      generalize wsRun (x.cps.toList.take i) = st at *
      clear F₄ N₄ F N
      obtain ⟨oI, hI1, hI2, hI3⟩ := hS
      have hIr : (It, oI) ∈ rest g L₂ [cl, xi, dx] h0 := mem_rest.mpr ⟨hgI', Ne.symm hLI, by
        intro q
        simp only [List.mem_cons, List.not_mem_nil, or_false] at q
        rcases q with q | q | q
        · exact ne q.symm
        · exact hxI (xi, _) (.tail _ (.tail _ (.head _))) q.symm
        · exact hxI (dx, _) (.tail _ (.tail _ (.tail _ (.head _)))) q.symm, hI1⟩
      rcases hch with rfl | rfl
      · k_steps
        all_goals (try dsimp only)
        all_goals (rename Fr _ _ _ _ => F₆)
        all_goals (rename News _ _ _ _ => N₆)
        all_goals (dsimp only at F₆ N₆)
        · unfold InitJ
          rw [hsn]
          exact ⟨_, _, _, cl, vs, e, rfl, F₆, ⟨rfl, rfl, ⟨_, rfl⟩, ⟨_, rfl⟩, ⟨_, rfl⟩, ⟨_, rfl⟩, ⟨_, rfl⟩⟩, hi', newsSub N₆ (fun p hp => List.mem_append_left (bs := rest g L₂ [cl, xi, dx] h0) hp), ne⟩
        · rename_i b' hb' o' ho'
          rw [List.mem_singleton.mp hb'] at ho' ⊢
          rw [hI1] at ho'
          cases ho'
          exact (N₆ _ (.tail _ (.tail _ (.tail _ hIr)))).1
      · repeat ((fail_if_success (with_reducible show wpAny _ _ (call (Value.builtin "len") _) _ _ _)); first | walk1 | (dsimp only; walk1))
        refine len_list (News.isList (by assumption) (.head _)) (by simp; omega) ?_
        rw [List.size_toArray]
        k_steps
        all_goals (try dsimp only)
        all_goals (rename Fr _ _ _ _ => F₆)
        all_goals (rename News _ _ _ _ => N₆)
        all_goals (dsimp only at F₆ N₆)
        · rename IntsAre _ _ => hi₆
          dsimp only at hi₆
          rw [bump_grow _ _ (by omega)] at hi₆
          unfold InitJ
          rw [hsn]
          refine ⟨_, _, _, _, _, 0, rfl, F₆, ⟨rfl, rfl, ⟨_, rfl⟩, ⟨_, rfl⟩, ⟨_, rfl⟩, ⟨_, rfl⟩, ⟨_, rfl⟩⟩, hi₆, newsSub N₆ ?_, ?_⟩
          · intro p hp
            rcases List.mem_cons.mp hp with rfl | hp
            · exact .head _
            · exact .tail _ (.tail _ (.tail _ (.tail _ (List.mem_append_left (bs := rest g L₂ [cl, xi, dx] h0) hp))))
          · intro q
            have q1 := (N₆ _ (.head _)).1
            have q2 := (N₆ _ (.tail _ (.tail _ (.tail _ (.tail _ (.tail _ (.tail _ hIr))))))).1
            rw [q, q2] at q1
            cases q1
            injection hI2 with hI2
            exact absurd hI2 (by decide)
        · rename_i b' hb' o' ho'
          rw [List.mem_singleton.mp hb'] at ho' ⊢
          rw [hI1] at ho'
          cases ho'
          exact (N₆ _ (.tail _ (.tail _ (.tail _ (.tail _ (.tail _ (.tail _ hIr))))))).1
        · rename IntsAre _ _ => hi₆
          dsimp only at hi₆
          rw [bump_in _ _ (by omega)] at hi₆
          unfold InitJ
          rw [hsn]
          exact ⟨_, _, _, cl, _, e, rfl, F₆, ⟨rfl, rfl, ⟨_, rfl⟩, ⟨_, rfl⟩, ⟨_, rfl⟩, ⟨_, rfl⟩, ⟨_, rfl⟩⟩, hi₆, newsSub N₆ (fun p hp => List.mem_append_left (bs := rest g L₂ [cl, xi, dx] h0) hp), ne⟩
        · rename_i b' hb' o' ho'
          rw [List.mem_singleton.mp hb'] at ho' ⊢
          rw [hI1] at ho'
          cases ho'
          exact (N₆ _ (.tail _ (.tail _ (.tail _ hIr)))).1
    · intro s' hJ
      exact Stop.mk ⟨rfl, _, _, hJ⟩
  · rintro f s' ⟨rfl, t5, It, h0, tk0, m, cl, vs, e, rfl, F, Mm, hi', N, ne⟩
    have lt1 := newsClsNe N (.head _) (.tail _ (.head _)) (.type "list") (.ref 124) rfl rfl (by decide)
    have lt2 := newsClsNe N (.head _) (.tail _ (.tail _ (.head _))) (.type "list") (.type "dict") rfl rfl (by decide)
    obtain ⟨e1, e2, ⟨tb, e3⟩, ⟨tn, e4⟩, ⟨tt, e5⟩, ⟨ts, e6⟩, ⟨tT, e7⟩⟩ := Mm
    have F₅ := frAt [(Str.ofString "self", _), (Str.ofString "count", _), (Str.ofString "b", _), (Str.ofString "n", _), (Str.ofString "nt", _), (Str.ofString "S", _), (Str.ofString "T", _)] F ⟨e1, e2, e3, e4, e5, e6, e7, trivial⟩
    dsimp only [List.foldr] at F₅
    rw [List.take_of_length_le (by simp)] at hi' e3 e4 e5 F₅
    have hle := wsRun_le x.cps.toList
    have hxs : x.cps.size ≤ 63 := by rw [hX, wsT_size]; omega
    rw [Array.length_toList] at hle
    have hlen := hi'.length
    have hvl : vs.length ≤ 100 := by omega
    obtain ⟨st, hst0⟩ : ∃ st, st = wsRun x.cps.toList := ⟨_, rfl⟩
    rw [← hst0] at hi' e3 e4 e5 F₅ hle
    clear F
    rename Fr _ _ _ _ => F₆
    unfold rawD at N
    dsimp only
    repeat ((fail_if_success (with_reducible show wpAny _ _ (setAttr _ (Str.ofString "norm") _) _ _ _)); first | walk1 | (dsimp only; walk1))
    rename News _ _ _ _ => N₇
    have lt3 := newsClsNe N₇ (.tail _ (.head _)) (.tail _ (.tail _ (.tail _ (.tail _ (.head _))))) (.type "tuple") (.type "dict") rfl rfl (by decide)
    have lt4 := newsClsNe N₇ (.tail _ (.head _)) (.tail _ (.tail _ (.tail _ (.head _)))) (.type "tuple") (.ref 124) rfl rfl (by decide)
    k_steps
    all_goals (try dsimp only)
    rename News _ _ _ _ => N₈
    rename Fr _ _ _ _ => F₈
    dsimp only at N₈
    refine ⟨rfl, ?_⟩
    intro hk9
    have hst : st = wsRun (wsL a ++ wsL b ++ wsL c) := by rw [hst0, hX, wsT_cps]
    refine hret xi _ _ (hE.trans F₈.keep) hk9 ?_
    rw [← hst]
    exact lead_of_news N₈ hE hi' hvl
end Mine
end
section
open PySem PySem.W PyProof.Rows PySem.Calls
namespace Mine
/-- a page: three sizes -/
abbrev P3 := Nat × Nat × Nat
def P3.sz (q : P3) (i : Nat) : Nat := match i with | 0 => q.1 | 1 => q.2.1 | _ => q.2.2
def leadSt (q : P3) : WS := wsRun (wsL q.1 ++ wsL q.2.1 ++ wsL q.2.2)
def newSz (q : P3) (g t k : Nat) : Nat := if k = g then q.sz g - 1 else if k = t then q.sz t + 1 else q.sz k
def gift (q : P3) (g t : Nat) : P3 := (newSz q g t 0, newSz q g t 1, newSz q g t 2)
def sameNorm (a b : WS) : Bool := decide (a.cnt = b.cnt) && decide ((a.b : Int) = b.b)
def step1 (q : P3) (pages : List P3) (g t : Nat) : List P3 :=
  if q.sz g > q.sz t + 1 then (if pages.any (fun r => sameNorm (leadSt r) (leadSt (gift q g t))) then pages else pages ++ [gift q g t]) else pages
def stepG (q : P3) (pages : List P3) (g : Nat) : List P3 := (List.range 3).foldl (fun ps t => step1 q ps g t) pages
def stepP (q : P3) (pages : List P3) : List P3 := (List.range 3).foldl (fun ps g => stepG q ps g) pages
def reach : Nat → Nat → List P3 → Option (List P3)
  | 0, _, _ => none
  | k + 1, d, pages => if d < pages.length then reach k (d + 1) (stepP (pages.getD d (0, 0, 0)) pages) else some pages
def okP (q : P3) : Prop := (1 ≤ q.1 ∧ q.1 ≤ 5) ∧ (1 ≤ q.2.1 ∧ q.2.1 ≤ 5) ∧ (1 ≤ q.2.2 ∧ q.2.2 ≤ 5)
theorem okP.at {q : P3} (h : okP q) (i : Nat) : 1 ≤ q.sz i ∧ q.sz i ≤ 5 := by
  unfold P3.sz
  split
  · exact h.1
  · exact h.2.1
  · exact h.2.2
theorem okP.gift {q : P3} (h : okP q) (g t : Nat) (hgt : q.sz g > q.sz t + 1) : okP (gift q g t) := by
  have a0 := h.at 0
  have a1 := h.at 1
  have a2 := h.at 2
  have ag := h.at g
  have at' := h.at t
  have key : ∀ k, 1 ≤ newSz q g t k ∧ newSz q g t k ≤ 5 := by
    intro k
    have ak := h.at k
    unfold newSz
    split
    · omega
    · split <;> omega
  exact ⟨key 0, key 1, key 2⟩
theorem step1_len (q : P3) (pages : List P3) (g t : Nat) : pages.length ≤ (step1 q pages g t).length ∧ (step1 q pages g t).length ≤ pages.length + 1 := by
  unfold step1
  split
  · split <;> simp
  · simp
theorem stepG_len (q : P3) (pages : List P3) (g : Nat) : (stepG q pages g).length ≤ pages.length + 3 := by
  unfold stepG
  show (step1 q (step1 q (step1 q pages g 0) g 1) g 2).length ≤ _
  have h1 := step1_len q pages g 0
  have h2 := step1_len q (step1 q pages g 0) g 1
  have h3 := step1_len q (step1 q (step1 q pages g 0) g 1) g 2
  omega
theorem stepP_len (q : P3) (pages : List P3) : (stepP q pages).length ≤ pages.length + 9 := by
  unfold stepP
  show (stepG q (stepG q (stepG q pages 0) 1) 2).length ≤ _
  have h1 := stepG_len q pages 0
  have h2 := stepG_len q (stepG q pages 0) 1
  have h3 := stepG_len q (stepG q (stepG q pages 0) 1) 2
  omega
/-- every start comes to an end -/
theorem reach_dec : ((List.range 6).all fun a => (List.range 6).all fun b => (List.range 6).all fun c => decide (a = 0) || decide (b = 0) || decide (c = 0) || (reach 30 0 [(a, b, c)]).isSome) = true := by decide +kernel
theorem reach_all {a b c : Nat} (h : okP (a, b, c)) : ∃ out, reach 30 0 [(a, b, c)] = some out := by
  have h1 := List.all_eq_true.mp reach_dec a (List.mem_range.mpr (by have := h.1; omega))
  have h2 := List.all_eq_true.mp h1 b (List.mem_range.mpr (by have := h.2.1; dsimp only at this; omega))
  have h3 := List.all_eq_true.mp h2 c (List.mem_range.mpr (by have := h.2.2; dsimp only at this; omega))
  have e1 := h.1
  have e2 := h.2.1
  have e3 := h.2.2
  dsimp only at e1 e2 e3
  simp only [Bool.or_eq_true, decide_eq_true_eq] at h3
  rcases h3 with ((h3 | h3) | h3) | h3
  · omega
  · omega
  · omega
  · exact Option.isSome_iff_exists.mp h3
end Mine
end
section
open PySem PySem.W PyProof.Rows PySem.Calls
set_option maxRecDepth 100000
namespace Mine
theorem normReads {h : Heap} {D D' : Addr} {vs : List Value} {ns : List Int} {b : Int} {tb : Tok} (h1 : h.get? D' = some { cls := .type "tuple", data := .seq #[.ref D, .int b tb] }) (h2 : h.get? D = some { cls := .type "tuple", data := .seq vs.toArray }) (hi : IntsAre vs ns) :
    Reads h (.ref D') (.tuple [.tuple (ns.map PyData.int), .int b]) [] :=
  reads_tuple_at h1 rfl rfl (.cons (reads_newDataT ⟨_, h2, rfl, _, rfl⟩ (ke_carried hi)) (.cons (Reads.int _ _) .nil))
theorem normShaped (ns : List Int) (b : Int) : SeqAt.shaped (.tuple [.tuple (ns.map PyData.int), .int b]) = true := by
  simp [SeqAt.shaped, PyData.canLay0, PyData.canLayAll0, PyData.depth, PyData.depthAll, ke_canLayAll0, ke_depthAll]
theorem normEqv (ns ms : List Int) (b c : Int) : PyData.eqv (.tuple [.tuple (ns.map PyData.int), .int b]) (.tuple [.tuple (ms.map PyData.int), .int c]) = (decide (ns = ms) && decide (b = c)) := by
  have e : (b == c) = decide (b = c) := by by_cases h : b = c <;> simp [h]
  simp [PyData.eqv, PyData.eqvAll, ked_eqvAll, e]
set_option maxHeartbeats 4000000 in
theorem equal_spec {prog : Program} {w : World} {mg mb : Str → Option Value} {A : Around} {s : Shared} {h₀ : Heap} {Q : Value → Shared → Prop} (R : Rd w mg mb h₀) (e₀ : Ext h₀ s.heap) (hr : A.depth + 5 < recursionLimit) (hh : A.handled = none) (hu : A.units + 100 < cLine)
    (x y : Addr) (st1 st2 : WS) (L1 : LeadN w h₀ s.heap x st1) (L2 : LeadN w h₀ s.heap y st2)
    (hret : ∀ h' tk', Ext s.heap h' → Q (.bool (sameNorm st1 st2)) { s with heap := h', toks := tk' }) :
    wpAny (model prog w) A (call (.ref 100) [.ref x, .ref y]) Q NoE s := by
  obtain ⟨hd, dp, fr, gd, un⟩ := A
  dsimp only at hh hr hu
  subst hh
  obtain ⟨dx, D, D', vs, tb, tn, tt, k1, k2, k3, k4, k5, raw, simple, H1, hi1, hv1⟩ := L1
  obtain ⟨dy, B, B', ws, tb2, tn2, tt2, j1, j2, j3, j4, j5, raw2, simple2, H2, hi2, hv2⟩ := L2
  w_on
  have hnews := H1.app H2
  refine wpAny_call (enterH R e₀ hnews (by show dp < _; omega) (by k_is) (by k_is) (binds := [(Str.ofString "self", .ref x), (Str.ofString "other", .ref y)]) (BindsTo.of_eq rfl) (locs rfl) (by decide) rfl rfl rfl ?_)
  intro g h₃ tk₅ htk₅ Rg gs sg F₃ N₃
  have Xg := Rg.X
  have Tg := Rg.T
  generalize s.heap.objs.size = L at *
  dsimp only [List.cons_append, List.nil_append] at N₃
  k_steps
  dsimp only
  refine eq_dataH (normReads (N₃ _ (.tail _ (.tail _ (.head _)))).1 (N₃ _ (.tail _ (.tail _ (.tail _ (.head _))))).1 hi1) (normReads (N₃ _ (.tail _ (.tail _ (.tail _ (.tail _ (.tail _ (.tail _ (.head _)))))))).1 (N₃ _ (.tail _ (.tail _ (.tail _ (.tail _ (.tail _ (.tail _ (.tail _ (.head _))))))))).1 hi2) (normShaped _ _) (normShaped _ _) (by show un + 3 + 64 < cLine; omega) ?_
  rw [normEqv]
  exact hret _ _ (extHide sg F₃.keep (fun p hp => (hnews p hp).1) fun p hp => (N₃ p hp).1)
set_option maxHeartbeats 4000000 in
theorem longest_spec {prog : Program} {w : World} {mg mb : Str → Option Value} {A : Around} {s : Shared} {h₀ : Heap} {Q : Value → Shared → Prop} (R : Rd w mg mb h₀) (e₀ : Ext h₀ s.heap) (hr : A.depth + 5 < recursionLimit) (hh : A.handled = none) (hu : A.units + 100 < cLine)
    (x : Addr) (st1 : WS) (L1 : LeadN w h₀ s.heap x st1) (hb : st1.b ≤ 100)
    (hret : ∀ t' h' tk', Ext s.heap h' → Q (.int (max ((st1.cnt.length : Int) - 1) st1.b) t') { s with heap := h', toks := tk' }) :
    wpAny (model prog w) A (call (.ref 86) [.ref x]) Q NoE s := by
  obtain ⟨hd, dp, fr, gd, un⟩ := A
  dsimp only at hh hr hu
  subst hh
  obtain ⟨dx, D, D', vs, tb, tn, tt, k1, k2, k3, k4, k5, raw, simple, H1, hi1, hv1⟩ := L1
  have hlen := hi1.length
  w_on
  refine wpAny_call (enterH R e₀ H1 (by show dp < _; omega) (by k_is) (by k_is) (binds := [(Str.ofString "self", .ref x)]) (BindsTo.of_eq rfl) (locs rfl) (by decide) rfl rfl rfl ?_)
  intro g h₃ tk₅ htk₅ Rg gs sg F₃ N₃
  have Xg := Rg.X
  have Tg := Rg.T
  generalize s.heap.objs.size = L at *
  repeat ((fail_if_success (with_reducible show wpAny _ _ (call (Value.builtin "len") _) _ _ _)); first | walk1 | (dsimp only; walk1))
  rename News _ _ _ _ => N₄
  rename Fr _ _ _ _ => F₄
  refine len_tuple ⟨_, (N₄ _ (.tail _ (.tail _ (.tail _ (.head _))))).1, rfl, _, rfl⟩ (by simp; omega) ?_
  rw [List.size_toArray]
  k_steps
  rename Fr _ _ _ _ => F₅
  rename News _ _ _ _ => N₅
  dsimp only
  rw [show (if (st1.b : Int) > (vs.length : Int) - 1 then (st1.b : Int) else (vs.length : Int) - 1) = max ((st1.cnt.length : Int) - 1) st1.b by
    rw [hlen]; split <;> omega]
  exact hret _ _ _ (extHide sg F₅.keep (fun p hp => (H1 p hp).1) fun p hp => (N₅ p hp).1)
end Mine
end
section
open PySem PySem.W PyProof.Rows PySem.Calls
set_option maxRecDepth 100000
namespace Mine
theorem listEq {vs : List Value} {items : Array Value} (hlen : vs.length = items.size) (hP : ∀ (j : Nat) (v : Value), vs[j]? = some v → items[j]? = some v) : vs = items.toList := by
  obtain ⟨l⟩ := items
  apply List.ext_getElem?
  intro i
  cases hi : vs[i]? with
  | some v => have := hP i v hi; simpa using this.symm
  | none =>
    rw [List.getElem?_eq_none_iff, hlen] at hi
    exact (List.getElem?_eq_none hi).symm
theorem none_of_push {h : Heap} {o : Obj} {D : Addr} (hD : (h.push o).get? D = none) : h.get? D = none := by
  cases q : h.get? D with
  | none => rfl
  | some o' => have := Heap.get?_push_of_some o q; rw [hD] at this; cases this
section
variable {prog : Program} {w : World} {A : Around} {env : Env} {s : Shared} {elt iter : Expr} {x : Str} {px : Pos} {ifs : List Expr} {scope : Scope} {cl : List (Str × Addr)} {pos : Pos} {Q : Value → Shared → Prop}
abbrev testsOf (ifs : List Expr) (e : Env) : Sem Bool := forIn ifs true fun c r => if r = true then do let ok ← isTrue c e (eval c e); pure (ForInStep.yield ok) else pure (ForInStep.yield r)
theorem comp_list {ax : Addr} {items : Array Value} (p : Value → Bool) (Fv : Value → Value → Prop)
    (hclos : closureFor scope env = pure cl) (hcell : ∀ y ∈ scope.names, y.2 ≠ .cell) (hkind : scope.kind = .function)
    (hnames : ∀ y ∈ scope.names, y.2 = .local → scope.names.lookup y.1 = some .local) (hx : scope.names.lookup x = some .local)
    (hA : A.handled = none) (hiter : ∀ Q' : Value → Shared → Prop, Q' (.ref ax) s → wpAny (model prog w) A (eval iter env) Q' NoE s) (hl : s.heap.IsList ax items) (hsz : items.size ≤ 1000)
    (tests : ∀ (C : Addr) (i : Nat) (v : Value) (s₃ : Shared) (m₃ : Str → Option Value), s.heap.get? C = none → items[i]? = some v → s₃.heap.Ns C m₃ → m₃ x = some v → Ext s.heap s₃.heap → s.toks ≤ s₃.toks →
      wpAny (model prog w) A (testsOf ifs (compEnvC scope cl C env)) (fun ok s₄ => ok = p v ∧ Keeps s₃ s₄) NoE s₃)
    (helt : ∀ (C : Addr) (i : Nat) (v : Value) (s₃ : Shared) (m₃ : Str → Option Value), s.heap.get? C = none → items[i]? = some v → p v = true → s₃.heap.Ns C m₃ → m₃ x = some v → Ext s.heap s₃.heap → s.toks ≤ s₃.toks →
      wpAny (model prog w) A (eval elt (compEnvC scope cl C env)) (fun y s₄ => Fv v y ∧ Keeps s₃ s₄) NoE s₃)
    (done : ∀ D h' tk ys, s.heap.get? D = none → h'.PlainList D ys → Paired Fv (items.toList.filter p) ys.toList → Ext s.heap h' → Q (.ref D) { s with heap := h', toks := tk })
    (hs : ∀ x, foldedSetIterable iter env x = pure x := by intro _; rfl) :
    wpAny (model prog w) A (eval (.ListComp elt [⟨.Name x px, iter, ifs, 0⟩] scope pos) env) Q NoE s := by
  have hlt : ∀ b o, s.heap.get? b = some o → b ≠ s.heap.objs.size := fun b o e => Nat.ne_of_lt (Heap.lt_size e)
  have hax : ax < s.heap.objs.size := by obtain ⟨o, ho, _⟩ := hl; exact Heap.lt_size ho
  have hnone : ∀ C, s.heap.objs.size + 1 ≤ C → s.heap.get? C = none := fun C hC => by
    cases q : s.heap.get? C with
    | none => rfl
    | some o => exact absurd (Nat.lt_of_lt_of_le (Heap.lt_size q) (Nat.le_of_succ_le hC)) (Nat.lt_irrefl _)
  refine wpAny_ListComp_free p Fv hclos hcell hkind hnames hx (hiter _ (wpAny_pyIter_list hl ?_)) hs
  refine ⟨_, _, _, _, _, _, rfl, Walks.list hA _ ax (Nat.ne_of_lt hax) items, Nat.le_trans hsz (by decide), ⟨⟨_, Heap.get?_push_size _ rfl, rfl, rfl⟩, hl.at fun o e => Heap.get?_push_of_some _ e⟩, ?_, ⟨?_, ?_⟩, ?_⟩
  · intro b hb
    simp only [List.mem_cons, List.not_mem_nil, or_false] at hb
    rw [Heap.size_push]
    rcases hb with rfl | rfl
    · exact Nat.lt_succ_self _
    · exact Nat.lt_succ_of_lt hax
  · intro C i v s₃ m₃ E' hC hv hns hm hk htk
    rw [Heap.size_push] at hC
    exact wpAny_mono (tests C i v s₃ m₃ (hnone C hC) hv hns hm (fun b o e => hk b o (by simpa using hlt b o e) (Heap.get?_push_of_some _ e)) htk) (fun _ _ x => x) fun _ _ x => x.elim
  · intro C i v s₃ m₃ E' hC hv hp hns hm hk htk
    rw [Heap.size_push] at hC
    exact wpAny_mono (helt C i v s₃ m₃ (hnone C hC) hv hp hns hm (fun b o e => hk b o (by simpa using hlt b o e) (Heap.get?_push_of_some _ e)) htk) (fun _ _ x => x) fun _ _ x => x.elim
  · intro D h' tk ys vs hD _ hpl hlen hP hF hk
    have hvs := listEq hlen hP
    subst hvs
    refine done D h' tk ys ?_ hpl hF fun b o e => hk b o (by simpa using hlt b o e) (Heap.get?_push_of_some _ e)
    exact none_of_push hD
end
theorem keeps_of {s : Shared} {h' : Heap} {tk : Nat} (e : Ext s.heap h') : Keeps s { s with heap := h', toks := tk } := ⟨h', tk, rfl, e⟩
theorem tests_nil {prog : Program} {w : World} {A : Around} {s : Shared} {e : Env} {p : Value → Bool} {v : Value} (h : p v = true) : wpAny (model prog w) A (testsOf [] e) (fun ok s₄ => ok = p v ∧ Keeps s s₄) NoE s :=
  wpAny_pure ⟨h.symm, s.heap, s.toks, rfl, fun _ _ e => e⟩
/-- the block's own names, as an object of the ledger -/
theorem blockNews {g h₀ h : Heap} {L C : Addr} {m m₃ : Str → Option Value} (F : Fr g L h₀ m) (hC : h₀.get? C = none) (e : Ext h₀ h) (hn : h.Ns C m₃) :
    ∃ oC, LCg.NsObj oC m₃ ∧ Fr g L h m ∧ Has h₀ h [(C, oC)] ∧ News g L h [(C, oC)] := by
  obtain ⟨oC, es, ep, ho, hd, hk, hf⟩ := id hn
  have H : Has h₀ h [(C, oC)] := fun p hp => by rw [List.mem_singleton.mp hp]; exact ⟨ho, hC⟩
  exact ⟨oC, ⟨es, ep, hd, hk, hf⟩, frKeep F e, H, H.news F⟩
end Mine
end
section
open PySem PySem.W PyProof.Rows PySem.Calls
set_option maxRecDepth 100000
namespace Mine
theorem drow_inj {n m : Nat} (h : drow n = drow m) : n = m := by
  have := congrArg Str.length h
  rw [drow_len, drow_len] at this
  omega
set_option maxHeartbeats 4000000 in
theorem left_spec {prog : Program} {w : World} {mg mb : Str → Option Value} {A : Around} {s : Shared} {Q : Value → Shared → Prop} (R : Rd w mg mb s.heap) (hr : A.depth + 9 < recursionLimit) (hh : A.handled = none) (hu : A.units + 100 < cLine) (hk : 1 ≤ s.toks)
    (p : Addr) (a b c k : Nat) (t0 t1 t2 u : Tok) (hp : s.heap.IsList p #[.str (drow a) t0, .str (drow b) t1, .str (drow c) t2]) (ha : a ≤ 20) (hb : b ≤ 20) (hc : c ≤ 20) (hk20 : k ≤ 20)
    (hret : ∀ t' h' tk', Ext s.heap h' → 1 ≤ tk' → Q (.int ((wsRun (wsL (a - k) ++ wsL (b - k) ++ wsL (c - k))).n : Nat) t') { s with heap := h', toks := tk' }) :
    wpAny (model prog w) A (call (.ref 145) [.ref p, .int k u]) Q NoE s := by
  obtain ⟨hd, dp, fr, gd, un⟩ := A
  dsimp only at hh hr hu
  subst hh
  have X := R.X
  have T := R.T
  w_on
  refine withTk hk ?_
  refine enterC R (by show dp < _; omega) (by k_is) (by k_is) (binds := [(Str.ofString "page", .ref p), (Str.ofString "k", .int k u)]) (BindsTo.of_eq rfl) rfl (by decide) rfl rfl rfl ?_
  intro h₁ tk cells htk F N Y
  generalize hL : s.heap.objs.size = L at *
  obtain ⟨oc, rfl, hoc⟩ := CellsAre.one (show CellsAre _ [(Str.ofString "k", L + 1)] cells from Y)
  replace hoc : oc.data = .cell (some (.int k u)) := hoc
  repeat ((fail_if_success (with_reducible show wpAny _ _ (eval (Expr.ListComp _ _ _ _) _) _ _ _)); first | walk1 | (dsimp only; walk1))
  have hl₁ : h₁.IsList p _ := hp.at fun o e => F.keep _ _ e
  refine withTk (by dsimp only; omega) ?_
  refine comp_list (fun _ => true) (fun v y => ∃ n t t', n ≤ 20 ∧ v = .str (drow n) t ∧ y = .str (brow (n - k)) t') (cl := [(Str.ofString "k", L + 1)]) rfl (by decide) rfl (by decide) rfl rfl (fun Q' hq => ?_) hl₁ (by simp) ?_ ?_ ?_
  · walk1
    exact hq
  · intro C i v s₃ m₃ hC hv hns hm e htk₃
    exact tests_nil (p := fun _ => true) (v := v) rfl
  · intro C i v s₃ m₃ hC hv _ hns hm e htk₃
    obtain ⟨oC, hoC, F₃, H₃, N₃⟩ := blockNews F hC e hns
    have N₄ := newsApp N₃ (newsKeep N e)
    have hv' : ∃ n t, n ≤ 20 ∧ v = .str (drow n) t := by
      match i, hv with
      | 0, hv => exact ⟨a, t0, ha, by simpa using hv.symm⟩
      | 1, hv => exact ⟨b, t1, hb, by simpa using hv.symm⟩
      | 2, hv => exact ⟨c, t2, hc, by simpa using hv.symm⟩
      | i + 3, hv => simp at hv
    obtain ⟨n, t, hn, rfl⟩ := hv'
    have R₃ : Rd w mg mb s₃.heap := R.keeps (Ext.trans F.keep e)
    clear F N hl₁ hv Y
    dsimp only [List.cons_append, List.nil_append] at N₄
    have hdl := drow_len n
    dsimp only at htk₃
    repeat ((fail_if_success (with_reducible show wpAny _ _ (call (Value.builtin "str.replace") _) _ _ _)); first | walk1 | (dsimp only; walk1))
    refine withTk (by dsimp only; omega) ?_
    refine SC.replaceW (by show (_ : Nat) ≠ (0 : Nat); omega) (by show (_ : Nat) ≠ (0 : Nat); omega) (by show (_ : Nat) ≠ (_ : Nat); omega) (by decide) (by omega) (by decide) ?_
    intro t3 tk3 hk3
    rw [drow_blank]
    repeat ((fail_if_success (with_reducible show wpAny _ _ (call (Value.ref _) _) _ _ _)); first | walk1 | (dsimp only; walk1))
    refine strip_spec (s := { s₃ with toks := tk3 }) R₃ ?_ n k t3 u hn hk20 ?_
    · show dp + 1 < _; omega
    intro t' h' tk' e'
    k_unfold
    exact ⟨⟨n, t, t', hn, rfl, rfl⟩, keeps_of e'⟩
  · intro D h' tk' ys hD hpl hpair e hk'
    have e3 : ∃ u0 u1 u2, ys = #[.str (brow (a - k)) u0, .str (brow (b - k)) u1, .str (brow (c - k)) u2] := by
      obtain ⟨l⟩ := ys
      replace hpair : Paired _ [Value.str (drow a) t0, Value.str (drow b) t1, Value.str (drow c) t2] l := hpair
      cases hpair with
      | cons h0 hp1 =>
        cases hp1 with
        | cons h1 hp2 =>
          cases hp2 with
          | cons h2 hp3 =>
            cases hp3
            obtain ⟨n0, _, v0, _, q0, rfl⟩ := h0
            obtain ⟨n1, _, v1, _, q1, rfl⟩ := h1
            obtain ⟨n2, _, v2, _, q2, rfl⟩ := h2
            injection q0 with q0; injection q1 with q1; injection q2 with q2
            rw [drow_inj q0, drow_inj q1, drow_inj q2]
            exact ⟨v0, v1, v2, rfl⟩
    obtain ⟨u0, u1, u2, rfl⟩ := e3
    obtain ⟨nD, hD'⟩ := id hpl
    have F₃ := frKeep F e
    have N₃ := newsKeep N e
    have R₃ : Rd w mg mb h' := R.keeps F₃.keep
    dsimp only at hk'
    clear F N hl₁ Y
    dsimp only
    repeat ((fail_if_success (with_reducible show wpAny _ _ (call (Value.ref _) _) _ _ _)); first | walk1 | (dsimp only; walk1))
    refine lead_spec R₃ ?_ rfl hk' D _ _ _ u0 u1 u2 hpl.isList (a - k) (b - k) (c - k) (by omega) (by omega) (by omega) (lead_brow (by omega) (by omega) (by omega)) ?_
    · show dp + 1 + 5 < _; omega
    intro x h₄ tk₄ e₄ hk₄ hx
    obtain ⟨dx, D1, D', vs, tb, tn, tt, k1, k2, k3, k4, k5, raw, simple, H1, hi1, hv1⟩ := hx
    have F₄ := frKeep F₃ e₄
    have N₄ := H1.news F₃
    clear F₃ N₃
    k_steps
    exact hret _ _ _ F₄.keep (by assumption)
end Mine
end
section
open PySem PySem.W PyProof.Rows PySem.Calls
set_option maxRecDepth 100000
namespace Mine
/-- a def with cells is entered; the objects of `news` may turn, all else of the heap stands -/
theorem enterCH {prog : Program} {w : World} {mg mb : Str → Option Value} {A : Around} {s : Shared} {f : Addr} {vs : List Value} {Q : Value → Shared → Prop} {h₀ : Heap} {news : List (Addr × Obj)}
    {name qual : Str} {params : Arguments} {body : List Stmt} {scope : Scope} {dV kV doc pm cdv ct oc : Value} {an od : Option Addr} {osl : Array (Option Value)} {binds : List (Str × Value)}
    (R : Rd w mg mb h₀) (e₀ : Ext h₀ s.heap) (hn : Has h₀ s.heap news) (hroom : A.depth < recursionLimit)
    (ho : (Mine.hd.heap_39 w.params).lookup f = some ⟨oc, od, .func (fnOf name qual params body scope dV kV doc pm an cdv ct), osl⟩) (hcd : codeIn (Mine.hd.heap_39 w.params) cdv qual = true)
    (hbind : BindsTo s (fnOf name qual params body scope dV kV doc pm an cdv ct) ⟨vs, []⟩ binds)
    (hkind : (binds.all fun y => scope.names.lookup y.1 == some .local || scope.names.lookup y.1 == some .cell) = true) (hnd : ((cellsFrom 0 scope.names []).map (·.1)).Nodup)
    (hco : scope.isCoroutine = false) (hgen : scope.isGenerator = false) (hk : scope.kind = .function)
    (h : ∀ g h₁ tk cells, s.toks ≤ tk → Rd w mg mb g → (∀ b o, g.get? b = some o → s.heap.get? b = some o) → (∀ b o, s.heap.get? b = some o → b ∉ news.map (·.1) → g.get? b = some o) →
      Fr g s.heap.objs.size h₁ (bindL (envOfC qual scope s.heap.objs.size f cdv).kindOf binds fun _ => none) → News g s.heap.objs.size h₁ (cells ++ news) →
      CellsAre (bindC (envOfC qual scope s.heap.objs.size f cdv).kindOf binds fun _ => none) (cellsFrom (s.heap.objs.size + 1) scope.names []) cells →
      wpAny (model prog w) (A.deeper (envOfC qual scope s.heap.objs.size f cdv)) (execs body (envOfC qual scope s.heap.objs.size f cdv))
        (fun fl s' => Q (match fl with | .ret v => v | _ => .none) s') NoE { s with heap := h₁, toks := tk }) :
    wpAny (model prog w) A (call (.ref f) vs) Q NoE s := by
  have R' := R.keeps e₀
  have kk : Ext h₀ (hideAll s.heap (news.map (·.1))) := fun b o e => hideAll_get _ (e₀ b o e) fun q => by
    obtain ⟨p, hp, rfl⟩ := List.mem_map.mp q
    rw [(hn p hp).2] at e; cases e
  refine wpAny_call ?_
  refine codeAny_call_function (fd := fnOf name qual params body scope dV kV doc pm an cdv ct) hroom (R'.X _ _ ho) rfl hco hgen rfl (codeRec_of R'.X hcd) (hbind _ _ _ _ ?_)
  refine wpAny_with_toks (Nat.le_refl s.toks) (wpAny_newFunctionEnv_cells hk (kindsX hkind _) fun env' he s' x htk => ?_)
  subst he
  refine ⟨R'.T.nolimit.keeps x.toInCall.keep, codeAny_func ?_⟩
  obtain ⟨h₁, tk, rfl, _⟩ := x.done
  have hk₁ := x.toInCall.keep
  obtain ⟨cells, NC, Y⟩ := Cl.news (h₀ := s.heap) (Nat.le_refl _) fun n c hm => ⟨x.cell n c (lookup_of_mem_nodup (cellsFrom_names scope.names 0 (s.heap.objs.size + 1) [] [] rfl ▸ hnd) hm), x.above n c hm⟩
  refine wpAny_mono (h (hideAll s.heap (news.map (·.1))) h₁ tk cells htk (R.keeps kk) (fun b o e => of_hideAll _ e) (fun b o e q => hideAll_get _ e q) ⟨x.toInCall.ns, fun b o e => hk₁ b o (of_hideAll _ e), Nat.le_of_eq (hideAll_size _ _)⟩ ?_ Y) (fun fl s' hq => hq) fun _ _ x => x.elim
  intro p hp
  rcases List.mem_append.mp hp with hp | hp
  · refine ⟨(NC p hp).1, (NC p hp).2.1, ?_⟩
    cases q : (hideAll s.heap (news.map (·.1))).get? p.1 with
    | none => rfl
    | some o => have := of_hideAll _ q; rw [(NC p hp).2.2] at this; cases this
  · exact ⟨hk₁ _ _ (hn p hp).1, Nat.ne_of_lt (Heap.lt_size (hn p hp).1), hideAll_none _ (List.mem_map_of_mem hp)⟩
/-- all but the addresses of M stands -/
def KB (M : List Addr) (h h' : Heap) : Prop := ∀ b o, b ∉ M → h.get? b = some o → h'.get? b = some o
theorem KB.trans {M : List Addr} {h h' h'' : Heap} (x : KB M h h') (y : KB M h' h'') : KB M h h'' := fun b o hb e => y b o hb (x b o hb e)
theorem KB.of {M : List Addr} {h h' : Heap} (x : Ext h h') : KB M h h' := fun b o _ e => x b o e
/-- what the ledger says of the rest -/
theorem KB.rest {g h h' : Heap} {L : Addr} {M : List Addr} {m : Str → Option Value} {news : List (Addr × Obj)} (F : Fr g L h' m) (e₀ : Ext g h) (N : News g L h' news) (hs : ∀ p ∈ rest g L M h, p ∈ news) (hL : L ∈ M) : KB M h h' := fun b o hb e => by
  cases q : g.get? b with
  | some o' =>
    have := e₀ _ _ q
    rw [e] at this
    cases this
    exact F.keep _ _ q
  | none => exact (N (b, o) (hs _ (mem_rest.mpr ⟨q, fun z => hb (z ▸ hL), hb, e⟩))).1
theorem while_any {prog : Program} {w : World} {A : Around} {s : Shared} {env : Env} {test : Expr} {body : List Stmt} {pos : Pos} {Q : Flow → Shared → Prop} (I : Nat → Shared → Prop)
    (turn : ∀ n s, I n s → wpAny (model prog w) A (isTrue test env (eval test env)) (fun b s₂ => if b = true then wpAny (model prog w) A (execs body env) (fun f s₃ => match f with
        | .next | .cont => ∃ m, m < n ∧ I m s₃
        | .brk => Q .next s₃
        | .ret v => Q (.ret v) s₃) NoE s₂ else Q .next s₂) NoE s) (n : Nat) (h : I n s) : wpAny (model prog w) A (exec (.While test body [] pos) env) Q NoE s := by
  refine wpAny_While (codeAny_whileLoop I (fun n s hI => ?_) n h)
  refine wpAny_mono (turn n s hI) (fun b s₂ h₂ => ?_) fun _ _ x => x.elim
  cases b with
  | false =>
    simp only [Bool.false_eq_true, if_false] at h₂ ⊢
    exact wpAny_execs_nil h₂
  | true =>
    simp only [if_true] at h₂ ⊢
    refine wpAny_mono h₂ (fun f s₃ h₃ => ?_) fun _ _ x => x.elim
    cases f <;> exact h₃
end Mine
end
section
open PySem PySem.W PyProof.Rows PySem.Calls
set_option maxRecDepth 100000
namespace Mine
theorem withTkN {α : Type} {M : Model} {A : Around} {s : Shared} {t : Sem α} {Q : α → Shared → Prop} (n : Nat) (hk : n ≤ s.toks) (h : wpAny M A t (fun a s' => n ≤ s'.toks → Q a s') NoE s) : wpAny M A t Q NoE s :=
  wpAny_with_toks hk (wpAny_mono h (fun _ _ x => x) fun _ _ x => x.elim)
theorem for_anyT {prog : Program} {w : World} {A : Around} {s : Shared} {env : Env} {target : Expr} {body : List Stmt} {It : Addr} {fp wr : List Addr} {n : Nat} {P : Nat → Value → Prop} {St : Nat → Heap → Prop} {Q : Flow → Shared → Prop}
    (W : Walks prog w A It fp wr n P St) (J : Nat → Shared → Prop) (h0 : St 0 s.heap) (hJ0 : J 0 s)
    (ht : ∀ v, letOwnedTupleGo target (.ref It) v = pure ())
    (stab : ∀ i s' h tk, J i s' → s'.toks ≤ tk → (∀ b o, b ∉ wr → s'.heap.get? b = some o → h.get? b = some o) → J i { s' with heap := h, toks := tk })
    (turn : ∀ i v s', i < n → P i v → J i s' → St (i + 1) s'.heap → wpAny (model prog w) A (assign target env v) (fun _ s₂ => wpAny (model prog w) A (execs body env) (fun f s₃ => match f with
        | .next | .cont => J (i + 1) s₃ ∧ ∀ b ∈ fp, ∀ o, s'.heap.get? b = some o → s₃.heap.get? b = some o
        | .brk => Q .next s₃
        | .ret v => Q (.ret v) s₃) NoE s₂) NoE s')
    (done : ∀ s', J n s' → Q .next s') :
    codeAny (model prog w) A (.forLoop target (.ref It) body [] env) (fun r s' => match r with | .ok f => Q f s' | .error e => cameBackBy (model prog w) A env NoE e s') s := by
  refine codeAny_forLoop_any (fun k s' => ∃ i, i ≤ n ∧ k = n - i ∧ J i s' ∧ St i s'.heap) ?_ n ⟨0, Nat.zero_le _, rfl, hJ0, h0⟩
  rintro k s' ⟨i, hi, rfl, hJ, hS⟩
  by_cases hin : i < n
  · refine wpAny_with_toks (Nat.le_refl s'.toks) (W.item i s' _ _ hin hS fun v h' tk hv hS' hk htk => ?_)
    refine wpAny_of_eq (ht v) ?_
    refine wpAny_mono (turn i v _ hin hv (stab i s' h' tk hJ htk hk) hS') (fun _ s₂ h₂ => wpAny_mono h₂ (fun f s₃ h₃ => ?_) fun _ _ x => x.elim) fun _ _ x => x.elim
    cases f with
    | next => exact ⟨n - (i + 1), by omega, i + 1, hin, rfl, h₃.1, W.frame _ _ _ hS' h₃.2⟩
    | cont => exact ⟨n - (i + 1), by omega, i + 1, hin, rfl, h₃.1, W.frame _ _ _ hS' h₃.2⟩
    | brk => exact h₃
    | ret v => exact h₃
  · have e : i = n := by omega
    subst e
    exact wpAny_with_toks (Nat.le_refl s'.toks) (W.done s' _ _ hS fun h' tk hk htk => wpAny_execs_nil (done _ (stab _ s' h' tk hJ htk hk)))
theorem rsize {lo hi : Int} {n : Nat} (hn : n = (hi - lo).toNat) : Builtin.Range.rangeSize lo hi 1 = n := by
  rw [rangeSize_one]; split <;> omega
theorem rsmall {lo hi : Int} (hlo : -1000 ≤ lo ∧ lo ≤ 1000) (hhi : -1000 ≤ hi ∧ hi ≤ 1000) : Builtin.Range.small lo hi 1 = true := small_one (by omega) (by omega) (by omega) (by omega)
theorem for_range {prog : Program} {w : World} {A : Around} {s : Shared} {env : Env} {target : Expr} {body : List Stmt} {Q : Flow → Shared → Prop} {r : Addr} {lo hi : Int} {t u v : Tok} (n : Nat) (J : Nat → Shared → Prop)
    (hr : IsRange s.heap r lo hi 1 t u v) (hn : n = (hi - lo).toNat) (hlo : -1000 ≤ lo ∧ lo ≤ 1000) (hhi : -1000 ≤ hi ∧ hi ≤ 1000) (hA : A.handled = none)
    (hJ0 : ∀ o, o.cls = .type "range_iterator" → J 0 { s with heap := s.heap.push o })
    (ht : ∀ v, letOwnedTupleGo target (.ref s.heap.objs.size) v = pure ())
    (stab : ∀ i s' h tk, J i s' → s'.toks ≤ tk → (∀ b o, b ∉ [s.heap.objs.size] → s'.heap.get? b = some o → h.get? b = some o) → J i { s' with heap := h, toks := tk })
    (turn : ∀ (i : Nat) t s' oI, i < n → J i s' → s'.heap.get? s.heap.objs.size = some oI → wpAny (model prog w) A (assign target env (.int (lo + i) t)) (fun _ s₂ => wpAny (model prog w) A (execs body env) (fun f s₃ => match f with
        | .next | .cont => J (i + 1) s₃ ∧ s₃.heap.get? s.heap.objs.size = some oI
        | .brk => Q .next s₃
        | .ret v => Q (.ret v) s₃) NoE s₂) NoE s')
    (done : ∀ s', J n s' → Q .next s') :
    wpAny (model prog w) A (pyIter (.ref r)) (fun it s₂ => codeAny (model prog w) A (.forLoop target it body [] env) (fun r s' => match r with | .ok f => Q f s' | .error e => cameBackBy (model prog w) A env NoE e s') s₂) NoE s := by
  refine wpAny_pyIter_range hr (rsmall hlo hhi) ?_
  rw [rsize hn]
  refine for_anyT (Walks.range hA s.heap.objs.size lo 1 n) J ?_ (hJ0 _ rfl) ht stab ?_ done
  · show IsRangeIter _ _ _ _ _
    have := Heap.get?_push_size s.heap (o := { cls := .type "range_iterator", data := .fields #[rawInt lo, rawInt (n : Int), rawInt 1] }) rfl
    simpa [IsRangeIter] using this
  · rintro i v s' hi ⟨t, rfl⟩ hJ hS
    have e : lo + (i : Int) * 1 = lo + i := by omega
    rw [e]
    refine wpAny_mono (turn i t s' _ hi hJ hS) (fun _ s₂ h₂ => wpAny_mono h₂ (fun f s₃ h₃ => ?_) fun _ _ x => x.elim) fun _ _ x => x.elim
    have key : ∀ o₁, s'.heap.get? s.heap.objs.size = some o₁ → s₃.heap.get? s.heap.objs.size = some o₁ → ∀ b ∈ [s.heap.objs.size], ∀ o, s'.heap.get? b = some o → s₃.heap.get? b = some o := by
      intro o₁ e₁ e₃ b hb o ho
      rw [List.mem_singleton.mp hb] at ho ⊢
      rw [e₁] at ho
      rw [e₃, ho]
    cases f with
    | next => exact ⟨h₃.1, key _ hS h₃.2⟩
    | cont => exact ⟨h₃.1, key _ hS h₃.2⟩
    | brk => exact h₃
    | ret v => exact h₃
section
variable {prog : Program} {w : World} {A : Around} {env : Env} {s : Shared} {elt iter : Expr} {x : Str} {px : Pos} {scope : Scope} {cl : List (Str × Addr)} {pos : Pos}
theorem Paired.at {F : Value → Value → Prop} {l₁ l₂ : List Value} (h : Paired F l₁ l₂) : ∀ (i : Nat) (a b : Value), l₁[i]? = some a → l₂[i]? = some b → F a b := by
  induction h with
  | nil => intro i a b ha; simp at ha
  | cons h1 h2 ih =>
    intro i a b ha hb
    cases i with
    | zero => simp at ha hb; subst ha; subst hb; exact h1
    | succ i => exact ih i a b (by simpa using ha) (by simpa using hb)
theorem vs_range {vs : List Value} {n : Nat} {lo : Int} (hlen : vs.length = n) (hP : ∀ (j : Nat) (v : Value), vs[j]? = some v → ∃ t, v = .int (lo + j * 1) t) {ys : List Value} (G : Nat → Value → Prop)
    (hF : Paired (fun v y => ∃ i t, i < n ∧ v = .int (lo + (i : Nat)) t ∧ G i y) (vs.filter fun _ => true) ys) : ys.length = n ∧ ∀ (i : Nat) y, ys[i]? = some y → G i y := by
  rw [List.filter_eq_self.mpr (by simp)] at hF
  have hl := hF.length
  refine ⟨by omega, fun i y hy => ?_⟩
  have hi : i < ys.length := by
    rcases Nat.lt_or_ge i ys.length with q | q
    · exact q
    · rw [List.getElem?_eq_none q] at hy; cases hy
  obtain ⟨v, hv⟩ : ∃ v, vs[i]? = some v := ⟨vs[i]'(by omega), List.getElem?_eq_getElem (by omega)⟩
  obtain ⟨t, rfl⟩ := hP i v hv
  obtain ⟨i', t', _, e, g⟩ := Paired.at hF i _ _ hv hy
  injection e with e
  have : i' = i := by omega
  subst this
  exact g
theorem Walks.bnd {I : Addr} {fp wr : List Addr} {n : Nat} {P : Nat → Value → Prop} {St : Nat → Heap → Prop} (W : Walks prog w A I fp wr n P St) : Walks prog w A I fp wr n (fun i v => i < n ∧ P i v) St where
  sub := W.sub
  frame := W.frame
  item := fun i s Q E hi st hQ => W.item i s Q E hi st fun v h' tk hv => hQ v h' tk ⟨hi, hv⟩
  done := W.done
  self := W.self
theorem comp_range {Q : Value → Shared → Prop} {lo hi : Int} (n : Nat) (G : Nat → Value → Prop)
    (hclos : closureFor scope env = pure cl) (hcell : ∀ y ∈ scope.names, y.2 ≠ .cell) (hkind : scope.kind = .function)
    (hnames : ∀ y ∈ scope.names, y.2 = .local → scope.names.lookup y.1 = some .local) (hx : scope.names.lookup x = some .local)
    (hA : A.handled = none) (hn : n = (hi - lo).toNat) (hlo : -1000 ≤ lo ∧ lo ≤ 1000) (hhi : -1000 ≤ hi ∧ hi ≤ 1000)
    (hiter : wpAny (model prog w) A (eval iter env) (fun xv s₁ => ∃ r t u v h tk, xv = .ref r ∧ s₁ = { s with heap := h, toks := tk } ∧ IsRange h r lo hi 1 t u v ∧ Ext s.heap h ∧ s.toks ≤ tk) NoE s)
    (helt : ∀ (C : Addr) (i : Nat) (t : Tok) (s₃ : Shared) (m₃ : Str → Option Value), s.heap.get? C = none → i < n → s₃.heap.Ns C m₃ → m₃ x = some (.int (lo + i) t) → Ext s.heap s₃.heap → s.toks ≤ s₃.toks →
      wpAny (model prog w) A (eval elt (compEnvC scope cl C env)) (fun y s₄ => G i y ∧ Keeps s₃ s₄) NoE s₃)
    (done : ∀ D h' tk ys, s.heap.get? D = none → h'.PlainList D ys → ys.toList.length = n → (∀ (i : Nat) y, ys.toList[i]? = some y → G i y) → Ext s.heap h' → Q (.ref D) { s with heap := h', toks := tk })
    (hs : ∀ x, foldedSetIterable iter env x = pure x := by intro _; rfl) :
    wpAny (model prog w) A (eval (.ListComp elt [⟨.Name x px, iter, [], 0⟩] scope pos) env) Q NoE s := by
  refine wpAny_ListComp_free (fun _ => true) (fun v y => ∃ i t, i < n ∧ v = .int (lo + (i : Nat)) t ∧ G i y) hclos hcell hkind hnames hx (wpAny_mono hiter ?_ fun _ _ x => x.elim) hs
  rintro xv s₁ ⟨r, t, u, v, h, tk, rfl, rfl, hr, e, htk⟩
  refine wpAny_pyIter_range hr (rsmall hlo hhi) ?_
  rw [rsize hn]
  have hnone : ∀ C, h.objs.size ≤ C → s.heap.get? C = none := fun C hC => by
    cases q : s.heap.get? C with
    | none => rfl
    | some o => exact absurd (Nat.lt_of_lt_of_le (Heap.lt_size (e _ _ q)) hC) (Nat.lt_irrefl _)
  have hlt : ∀ b o, s.heap.get? b = some o → b ∉ [h.objs.size] := fun b o q => by
    simp only [List.mem_singleton]
    exact Nat.ne_of_lt (Heap.lt_size (e _ _ q))
  refine ⟨_, _, _, _, _, _, rfl, Walks.bnd (Walks.range hA h.objs.size lo 1 n), Nat.le_trans (by omega : n ≤ 2000) (by decide), ?_, ?_, ⟨?_, ?_⟩, ?_⟩
  · show IsRangeIter _ _ _ _ _
    have := Heap.get?_push_size h (o := { cls := .type "range_iterator", data := .fields #[rawInt lo, rawInt (n : Int), rawInt 1] }) rfl
    simpa [IsRangeIter] using this
  · intro b hb
    rw [List.mem_singleton.mp hb]
    dsimp only
    rw [Heap.size_push]
    exact Nat.lt_succ_self _
  · intro C i v s₃ m₃ E' hC hv hns hm hk htk
    exact wpAny_mono (tests_nil (s := s₃) (p := fun _ => true) (v := v) rfl) (fun _ _ x => x) fun _ _ x => x.elim
  · rintro C i v s₃ m₃ E' hC ⟨hi', t, rfl⟩ hp hns hm hk htk'
    have e1 : lo + (i : Int) * 1 = lo + i := by omega
    rw [e1] at hm ⊢
    dsimp only at hC
    rw [Heap.size_push] at hC
    exact wpAny_mono (helt C i t s₃ m₃ (hnone C (Nat.le_of_succ_le hC)) hi' hns hm (fun b o q => hk b o (hlt b o q) (Heap.get?_push_of_some _ (e _ _ q))) (Nat.le_trans htk htk')) (fun y s₄ x => ⟨⟨i, t, hi', rfl, x.1⟩, x.2⟩) fun _ _ x => x.elim
  · intro D h' tk' ys vs hD _ hpl hlen hP hF hk
    obtain ⟨l1, l2⟩ := vs_range hlen (fun j v hj => (hP j v hj).2) G hF
    refine done D h' tk' ys ?_ hpl l1 l2 fun b o q => hk b o (hlt b o q) (Heap.get?_push_of_some _ (e _ _ q))
    cases q : s.heap.get? D with
    | none => rfl
    | some o =>
      have e2 := none_of_push hD
      rw [e _ _ q] at e2; cases e2
theorem assign_range {Q : Flow → Shared → Prop} {lo hi : Int} {y : Str} {py spos : Pos} (n : Nat) (G : Nat → Value → Prop) (m : Str → Option Value)
    (hsw : swapsWith (.ListComp elt [⟨.Name x px, iter, [], 0⟩] scope pos) (some (.Name y py)) spos.line env = pure true)
    (hclos : closureFor scope env = pure cl) (hcell : ∀ y ∈ scope.names, y.2 ≠ .cell) (hkind : scope.kind = .function)
    (hnames : ∀ y ∈ scope.names, y.2 = .local → scope.names.lookup y.1 = some .local) (hx : scope.names.lookup x = some .local)
    (hy : env.kindOf y = some .local) (hp : (env.scope.kind == .class || (env.scope.kind == .module && env.locals != env.globals)) = false)
    (hA : A.handled = none) (hn : n = (hi - lo).toNat) (hlo : -1000 ≤ lo ∧ lo ≤ 1000) (hhi : -1000 ≤ hi ∧ hi ≤ 1000) (hL : s.heap.Ns env.locals m)
    (hiter : wpAny (model prog w) A (eval iter env) (fun xv s₁ => ∃ r t u v h tk, xv = .ref r ∧ s₁ = { s with heap := h, toks := tk } ∧ IsRange h r lo hi 1 t u v ∧ Ext s.heap h ∧ s.toks ≤ tk) NoE s)
    (helt : ∀ (C : Addr) (i : Nat) (t : Tok) (s₃ : Shared) (m₃ : Str → Option Value), s.heap.get? C = none → i < n → s₃.heap.Ns C m₃ → m₃ x = some (.int (lo + i) t) → Ext s.heap s₃.heap → s.toks ≤ s₃.toks →
      wpAny (model prog w) A (eval elt (compEnvC scope cl C env)) (fun y s₄ => G i y ∧ Keeps s₃ s₄) NoE s₃)
    (done : ∀ D h' tk ys, s.heap.get? D = none → h'.PlainList D ys → ys.toList.length = n → (∀ (i : Nat) y, ys.toList[i]? = some y → G i y) → h'.Ns env.locals (fun z => if z = y then some (.ref D) else m z) →
      (∀ b o, b ≠ env.locals → s.heap.get? b = some o → h'.get? b = some o) → Q .next { s with heap := h', toks := tk })
    (hs : ∀ x, foldedSetIterable iter env x = pure x := by intro _; rfl) :
    wpAny (model prog w) A (exec (.Assign [.Name y py] (.ListComp elt [⟨.Name x px, iter, [], 0⟩] scope pos) spos) env) Q NoE s := by
  refine wpAny_Assign_ListComp_free (fun _ => true) (fun v y => ∃ i t, i < n ∧ v = .int (lo + (i : Nat)) t ∧ G i y) hsw hclos hcell hkind hnames hx hy hp (wpAny_mono hiter ?_ fun _ _ x => x.elim) hs
  rintro xv s₁ ⟨r, t, u, v, h, tk, rfl, rfl, hr, e, htk⟩
  refine wpAny_pyIter_range hr (rsmall hlo hhi) ?_
  rw [rsize hn]
  have hnone : ∀ C, h.objs.size ≤ C → s.heap.get? C = none := fun C hC => by
    cases q : s.heap.get? C with
    | none => rfl
    | some o => exact absurd (Nat.lt_of_lt_of_le (Heap.lt_size (e _ _ q)) hC) (Nat.lt_irrefl _)
  have hlt : ∀ b o, s.heap.get? b = some o → b ∉ [h.objs.size] := fun b o q => by
    simp only [List.mem_singleton]
    exact Nat.ne_of_lt (Heap.lt_size (e _ _ q))
  refine ⟨_, _, _, _, _, _, m, rfl, Walks.bnd (Walks.range hA h.objs.size lo 1 n), Nat.le_trans (by omega : n ≤ 2000) (by decide), ?_, ?_, ?_, ?_, ⟨?_, ?_⟩, ?_⟩
  · show IsRangeIter _ _ _ _ _
    have := Heap.get?_push_size h (o := { cls := .type "range_iterator", data := .fields #[rawInt lo, rawInt (n : Int), rawInt 1] }) rfl
    simpa [IsRangeIter] using this
  · intro b hb
    rw [List.mem_singleton.mp hb]
    dsimp only
    rw [Heap.size_push]
    exact Nat.lt_succ_self _
  · obtain ⟨oL, _, _, ho, _⟩ := hL
    exact hlt _ _ ho
  · exact hL.at' fun o q => Heap.get?_push_of_some _ (e _ _ q)
  · intro C i v s₃ m₃ E' hC hv hns hm hk htk
    exact wpAny_mono (tests_nil (s := s₃) (p := fun _ => true) (v := v) rfl) (fun _ _ x => x) fun _ _ x => x.elim
  · rintro C i v s₃ m₃ E' hC ⟨hi', t, rfl⟩ hp hns hm hk htk'
    have e1 : lo + (i : Int) * 1 = lo + i := by omega
    rw [e1] at hm ⊢
    dsimp only at hC
    rw [Heap.size_push] at hC
    exact wpAny_mono (helt C i t s₃ m₃ (hnone C (Nat.le_of_succ_le hC)) hi' hns hm (fun b o q => hk b o (hlt b o q) (Heap.get?_push_of_some _ (e _ _ q))) (Nat.le_trans htk htk')) (fun y s₄ x => ⟨⟨i, t, hi', rfl, x.1⟩, x.2⟩) fun _ _ x => x.elim
  · intro D h' tk' ys vs hD _ hpl hlen hP hF hns hk
    obtain ⟨l1, l2⟩ := vs_range hlen (fun j v hj => (hP j v hj).2) G hF
    refine done D h' tk' ys ?_ hpl l1 l2 hns fun b o hbL q => hk b o hbL (hlt b o q) (Heap.get?_push_of_some _ (e _ _ q))
    cases q : s.heap.get? D with
    | none => rfl
    | some o =>
      have e2 := none_of_push hD
      rw [e _ _ q] at e2; cases e2
end
theorem tests_one {prog : Program} {w : World} {A : Around} {s : Shared} {e : Env} {c : Expr} {Q : Bool → Shared → Prop} (h : wpAny (model prog w) A (isTrue c e (eval c e)) Q NoE s) : wpAny (model prog w) A (testsOf [c] e) Q NoE s := by
  unfold testsOf
  rw [List.forIn_cons]
  simp only [if_true]
  refine wpAny_bind (wpAny_bind (wpAny_mono h (fun ok s' hq => ?_) fun _ _ x => x.elim))
  refine wpAny_pure ?_
  dsimp only
  rw [List.forIn_nil]
  exact wpAny_pure hq
/-- the frame and the ledger after a store into the locals -/
theorem frSet {g h h' : Heap} {L : Addr} {m m' : Str → Option Value} (F : Fr g L h m) (hn : h'.Ns L m') (hk : ∀ b o, b ≠ L → h.get? b = some o → h'.get? b = some o) : Fr g L h' m' :=
  ⟨hn, fun b o e => hk b o (Nat.ne_of_lt (Nat.lt_of_lt_of_le (Heap.lt_size e) F.above)) (F.keep b o e), F.above⟩
theorem newsSet {g h h' : Heap} {L : Addr} {news : List (Addr × Obj)} (N : News g L h news) (hk : ∀ b o, b ≠ L → h.get? b = some o → h'.get? b = some o) : News g L h' news := fun p hp => ⟨hk _ _ (N p hp).2.1 (N p hp).1, (N p hp).2⟩
end Mine
end
section
open PySem PySem.W PyProof.Rows PySem.Calls
set_option maxRecDepth 100000
namespace Mine
def PageM (M : List Addr) (g h : Heap) (a : Addr) (q : P3) : Prop := ∃ n t0 t1 t2, Has g h [(a, listOf #[.str (drow q.1) t0, .str (drow q.2.1) t1, .str (drow q.2.2) t2] n)] ∧ a ∉ M
def LeadL (w : World) (l : List (Addr × Obj)) (a : Addr) (st : WS) : Prop := ∃ (dx D D' : Addr) (vs : List Value) (tb tn tt : Tok) (k1 k2 k3 k4 k5 : Tok) (raw simple : Value),
    l = [(a, instObj 124 dx), (dx, dictOf [⟨PyData.keyHash w.params (Str.ofString "raw"), .str (Str.ofString "raw") k1, raw⟩, ⟨PyData.keyHash w.params (Str.ofString "n"), .str (Str.ofString "n") k2, .int st.n tn⟩,
      ⟨PyData.keyHash w.params (Str.ofString "nt"), .str (Str.ofString "nt") k3, .int st.nt tt⟩, ⟨PyData.keyHash w.params (Str.ofString "norm"), .str (Str.ofString "norm") k4, .ref D'⟩, ⟨PyData.keyHash w.params (Str.ofString "is_simple"), .str (Str.ofString "is_simple") k5, simple⟩] 5),
      (D', { cls := .type "tuple", data := .seq #[.ref D, .int st.b tb] }), (D, { cls := .type "tuple", data := .seq vs.toArray })] ∧ IntsAre vs st.cnt ∧ vs.length ≤ 100
def LeadM (w : World) (M : List Addr) (g h : Heap) (x : Addr) (st : WS) : Prop := ∃ l, LeadL w l x st ∧ Has g h l ∧ (∀ p ∈ l, p.1 ∉ M) ∧ ∀ p ∈ l, p.2.cls ≠ .type "list"
theorem Has.kb {M : List Addr} {g h h' : Heap} {l : List (Addr × Obj)} (H : Has g h l) (hM : ∀ p ∈ l, p.1 ∉ M) (k : KB M h h') : Has g h' l := fun p hp => ⟨k _ _ (hM p hp) (H p hp).1, (H p hp).2⟩
theorem PageM.kb {M : List Addr} {g h h' : Heap} {a : Addr} {q : P3} (x : PageM M g h a q) (k : KB M h h') : PageM M g h' a q := by
  obtain ⟨n, t0, t1, t2, H, ha⟩ := x
  exact ⟨n, t0, t1, t2, H.kb (fun p hp => by rw [List.mem_singleton.mp hp]; exact ha) k, ha⟩
theorem LeadM.kb {w : World} {M : List Addr} {g h h' : Heap} {a : Addr} {st : WS} (x : LeadM w M g h a st) (k : KB M h h') : LeadM w M g h' a st := by
  obtain ⟨l, f, H, ha, hc⟩ := x
  exact ⟨l, f, H.kb ha k, ha, hc⟩
theorem LeadM.lead {w : World} {M : List Addr} {g h : Heap} {a : Addr} {st : WS} (x : LeadM w M g h a st) : LeadN w g h a st := by
  obtain ⟨l, ⟨dx, D, D', vs, tb, tn, tt, k1, k2, k3, k4, k5, raw, simple, rfl, hi, hv⟩, H, _⟩ := x
  exact ⟨dx, D, D', vs, tb, tn, tt, k1, k2, k3, k4, k5, raw, simple, H, hi, hv⟩
theorem LeadM.more {w : World} {M M' : List Addr} {g h : Heap} {a : Addr} {st : WS} (x : LeadM w M g h a st) (hs : ∀ b ∈ M', b ∈ M ∨ h.get? b = none) : LeadM w M' g h a st := by
  obtain ⟨l, f, H, ha, hc⟩ := x
  refine ⟨l, f, H, fun p hp hm => ?_, hc⟩
  rcases hs _ hm with q | q
  · exact ha p hp q
  · rw [(H p hp).1] at q; cases q
theorem PageM.more {M M' : List Addr} {g h : Heap} {a : Addr} {q : P3} (x : PageM M g h a q) (hs : ∀ b ∈ M', b ∈ M ∨ h.get? b = none) : PageM M' g h a q := by
  obtain ⟨n, t0, t1, t2, H, ha⟩ := x
  refine ⟨n, t0, t1, t2, H, fun hm => ?_⟩
  rcases hs _ hm with q | q
  · exact ha q
  · have := (H _ (.head _)).1
    rw [q] at this; cases this
theorem leadM_of {w : World} {M : List Addr} {g h₁ h : Heap} {a : Addr} {st : WS} (x : LeadN w h₁ h a st) (e : Ext g h₁) (hM : ∀ b ∈ M, ∃ o, h₁.get? b = some o) : LeadM w M g h a st := by
  obtain ⟨dx, D, D', vs, tb, tn, tt, k1, k2, k3, k4, k5, raw, simple, H, hi, hv⟩ := x
  refine ⟨_, ⟨dx, D, D', vs, tb, tn, tt, k1, k2, k3, k4, k5, raw, simple, rfl, hi, hv⟩, H.base e, fun p hp hm => ?_, ?_⟩
  · obtain ⟨o, ho⟩ := hM _ hm
    have := (H p hp).2
    rw [ho] at this; cases this
  · intro p hp
    simp only [List.mem_cons, List.not_mem_nil, or_false] at hp
    rcases hp with rfl | rfl | rfl | rfl
    · intro q; cases q
    · show Value.type "dict" ≠ Value.type "list"; decide
    · show Value.type "tuple" ≠ Value.type "list"; decide
    · show Value.type "tuple" ≠ Value.type "list"; decide
theorem LeadM.addL {w : World} {M : List Addr} {g h : Heap} {a b : Addr} {st : WS} {o : Obj} (x : LeadM w M g h a st) (hb : h.get? b = some o) (hc : o.cls = .type "list") : LeadM w (b :: M) g h a st := by
  obtain ⟨l, f, H, ha, hl⟩ := x
  refine ⟨l, f, H, fun p hp hm => ?_, hl⟩
  rcases List.mem_cons.mp hm with q | q
  · have := (H p hp).1
    rw [q, hb] at this
    cases this
    exact hl p hp hc
  · exact ha p hp q
def OldM (M : List Addr) (h₀ h : Heap) : Prop := ∀ b o, h₀.get? b = some o → b ∉ M ∧ h.get? b = some o
theorem OldM.kb {M : List Addr} {h₀ h h' : Heap} (x : OldM M h₀ h) (k : KB M h h') : OldM M h₀ h' := fun b o e => ⟨(x b o e).1, k _ _ (x b o e).1 (x b o e).2⟩
theorem OldM.more {M M' : List Addr} {h₀ h : Heap} (x : OldM M h₀ h) (hs : ∀ b ∈ M', b ∈ M ∨ h.get? b = none) : OldM M' h₀ h := by
  intro b o e
  refine ⟨fun hm => ?_, (x b o e).2⟩
  rcases hs _ hm with q | q
  · exact (x b o e).1 q
  · have := (x b o e).2
    rw [q] at this
    cases this
def anyCell (o : Obj) : Prop := ∃ v, o.data = .cell v
def refCell (a : Addr) (o : Obj) : Prop := o.data = .cell (some (.ref a))
def intCell (i : Int) (o : Obj) : Prop := ∃ t, o.data = .cell (some (.int i t))
abbrev RM (L P Ld : Addr) : List Addr := [P, Ld, L + 1 + 1 + 1 + 1 + 1 + 1, L + 1 + 1 + 1 + 1 + 1, L + 1 + 1 + 1 + 1, L + 1 + 1 + 1, L + 1 + 1, L + 1, L]
theorem notRM {b L P Ld : Nat} (h : b < L) (hP : L + 6 < P) (hD : P < Ld) : b ∉ RM L P Ld := by
  intro m
  simp only [RM, List.mem_cons, List.not_mem_nil, or_false] at m
  have m' : b = P ∨ b = Ld ∨ b = L + 1 + 1 + 1 + 1 + 1 + 1 ∨ b = L + 1 + 1 + 1 + 1 + 1 ∨ b = L + 1 + 1 + 1 + 1 ∨ b = L + 1 + 1 + 1 ∨ b = L + 1 + 1 ∨ b = L + 1 ∨ b = L := m
  omega
/-- what stands between the steps of _law_reached -/
def RSt (w : World) (g : Heap) (L : Addr) (e : Str) (te : Tok) (P Ld : Addr) (s₀ : Shared) (X : List Addr) (d : Nat) (pages : List P3) (K : List (Addr × P3)) (c1 c2 c3 : Obj → Prop) (s' : Shared) : Prop :=
  ∃ (h : Heap) (tk : Nat) (m : Str → Option Value) (pr lr : List Addr) (nP nL : Nat) (o1 o2 o3 o4 o5 o6 : Obj) (td : Tok),
    s' = { s₀ with heap := h, toks := tk } ∧ 1 ≤ tk ∧ Fr g L h m ∧ AllAt m [(Str.ofString "pages", .ref P), (Str.ofString "leads", .ref Ld), (Str.ofString "done", .int d td), (Str.ofString "end", .str e te)] ∧
    News g L h [(P, listOf (pr.map Value.ref).toArray nP), (Ld, listOf (lr.map Value.ref).toArray nL), (L + 1 + 1 + 1 + 1 + 1 + 1, o6), (L + 1 + 1 + 1 + 1 + 1, o5), (L + 1 + 1 + 1 + 1, o4), (L + 1 + 1 + 1, o3), (L + 1 + 1, o2), (L + 1, o1)] ∧
    (c1 o1 ∧ c2 o2 ∧ c3 o3) ∧ (anyCell o1 ∧ anyCell o2 ∧ anyCell o3 ∧ anyCell o4 ∧ anyCell o5 ∧ anyCell o6) ∧ (pr.length = pages.length ∧ lr.length = pages.length) ∧
    (∀ (i : Nat) (q : P3), pages[i]? = some q → ∃ (a x : Addr), pr[i]? = some a ∧ lr[i]? = some x ∧ PageM (X ++ RM L P Ld) g h a q ∧ LeadM w (X ++ RM L P Ld) g h x (leadSt q)) ∧ OldM (X ++ RM L P Ld) s₀.heap h ∧ (∀ z ∈ K, PageM (X ++ RM L P Ld) g h z.1 z.2) ∧
    (∀ b ∈ X, g.get? b = none ∧ b ∉ RM L P Ld)
theorem KB.app {X M : List Addr} {h h' : Heap} (k : KB M h h') : KB (X ++ M) h h' := fun b o hb e => k b o (fun q => hb (List.mem_append_right _ q)) e
theorem KB.sub {X M : List Addr} {h h' : Heap} (k : KB M h h') (hs : ∀ b ∈ M, b ∈ X) : KB X h h' := fun b o hb e => k b o (fun q => hb (hs b q)) e
abbrev PgAll (w : World) (g h : Heap) (M : List Addr) (pages : List P3) (pr lr : List Addr) : Prop := ∀ (i : Nat) (q : P3), pages[i]? = some q → ∃ (a x : Addr), pr[i]? = some a ∧ lr[i]? = some x ∧ PageM M g h a q ∧ LeadM w M g h x (leadSt q)
theorem PgAll.kb {w : World} {g h h' : Heap} {M : List Addr} {pages : List P3} {pr lr : List Addr} (x : PgAll w g h M pages pr lr) (k : KB M h h') : PgAll w g h' M pages pr lr := fun i q hi => by
  obtain ⟨a, l, h1, h2, h3, h4⟩ := x i q hi
  exact ⟨a, l, h1, h2, h3.kb k, h4.kb k⟩
theorem PgAll.more {w : World} {g h : Heap} {M M' : List Addr} {pages : List P3} {pr lr : List Addr} (x : PgAll w g h M pages pr lr) (hs : ∀ b ∈ M', b ∈ M ∨ h.get? b = none) : PgAll w g h M' pages pr lr := fun i q hi => by
  obtain ⟨a, l, h1, h2, h3, h4⟩ := x i q hi
  exact ⟨a, l, h1, h2, h3.more hs, h4.more hs⟩
section
variable {w : World} {g : Heap} {L : Addr} {e : Str} {te : Tok} {P Ld : Addr} {s₀ : Shared} {X : List Addr} {d : Nat} {pages : List P3} {K : List (Addr × P3)} {c1 c2 c3 : Obj → Prop} {s' : Shared}
theorem RSt.rmHas (x : RSt w g L e te P Ld s₀ X d pages K c1 c2 c3 s') : ∀ b ∈ RM L P Ld, ∃ o, s'.heap.get? b = some o := by
  obtain ⟨h, tk, m, pr, lr, nP, nL, o1, o2, o3, o4, o5, o6, td, rfl, hk1, F, hm, N, hc, hcells, hl, hpg, hold, hK, hX⟩ := x
  intro b hb
  simp only [List.mem_cons, List.not_mem_nil, or_false] at hb
  rcases hb with rfl | rfl | rfl | rfl | rfl | rfl | rfl | rfl | rfl
  · exact ⟨_, (N _ (.head _)).1⟩
  · exact ⟨_, (N _ (.tail _ (.head _))).1⟩
  · exact ⟨_, (N _ (.tail _ (.tail _ (.head _)))).1⟩
  · exact ⟨_, (N _ (.tail _ (.tail _ (.tail _ (.head _))))).1⟩
  · exact ⟨_, (N _ (.tail _ (.tail _ (.tail _ (.tail _ (.head _)))))).1⟩
  · exact ⟨_, (N _ (.tail _ (.tail _ (.tail _ (.tail _ (.tail _ (.head _))))))).1⟩
  · exact ⟨_, (N _ (.tail _ (.tail _ (.tail _ (.tail _ (.tail _ (.tail _ (.head _)))))))).1⟩
  · exact ⟨_, (N _ (.tail _ (.tail _ (.tail _ (.tail _ (.tail _ (.tail _ (.tail _ (.head _))))))))).1⟩
  · obtain ⟨oL, _, _, hL', _⟩ := F.ns; exact ⟨oL, hL'⟩
theorem RSt.enterIt (x : RSt w g L e te P Ld s₀ X d pages K c1 c2 c3 s') (o : Obj) : RSt w g L e te P Ld s₀ (s'.heap.objs.size :: X) d pages K c1 c2 c3 { s' with heap := s'.heap.push o } := by
  have hr := x.rmHas
  obtain ⟨h, tk, m, pr, lr, nP, nL, o1, o2, o3, o4, o5, o6, td, rfl, hk1, F, hm, N, hc, hcells, hl, hpg, hold, hK, hX⟩ := x
  dsimp only at hr ⊢
  have hnone : h.get? h.objs.size = none := by
    cases q : h.get? h.objs.size with
    | none => rfl
    | some o => exact absurd (Heap.lt_size q) (Nat.lt_irrefl _)
  have hs : ∀ b ∈ (h.objs.size :: X) ++ RM L P Ld, b ∈ X ++ RM L P Ld ∨ h.get? b = none := by
    intro b hb
    rw [List.cons_append, List.mem_cons] at hb
    rcases hb with rfl | hb
    · exact .inr hnone
    · exact .inl hb
  have ke : KB ((h.objs.size :: X) ++ RM L P Ld) h (h.push o) := KB.of (extPush h o)
  refine ⟨_, _, m, pr, lr, nP, nL, o1, o2, o3, o4, o5, o6, td, rfl, hk1, frKeep F (extPush h o), hm, newsKeep N (extPush h o), hc, hcells, hl, PgAll.kb (PgAll.more hpg hs) ke, (hold.more hs).kb ke, fun z hz => ((hK z hz).more hs).kb ke, ?_⟩
  intro b hb
  rcases List.mem_cons.mp hb with rfl | hb
  · refine ⟨?_, fun hm => ?_⟩
    · cases q : g.get? h.objs.size with
      | none => rfl
      | some o' => have := F.keep _ _ q; rw [hnone] at this; cases this
    · obtain ⟨o', ho'⟩ := hr _ hm
      rw [hnone] at ho'; cases ho'
  · exact hX b hb
theorem RSt.stab {It : Addr} {h : Heap} {tk : Nat} (x : RSt w g L e te P Ld s₀ (It :: X) d pages K c1 c2 c3 s') (htk : s'.toks ≤ tk) (hk : ∀ b o, b ∉ [It] → s'.heap.get? b = some o → h.get? b = some o) : RSt w g L e te P Ld s₀ (It :: X) d pages K c1 c2 c3 { s' with heap := h, toks := tk } := by
  obtain ⟨h₁, tk₁, m, pr, lr, nP, nL, o1, o2, o3, o4, o5, o6, td, rfl, hk1, F, hm, N, hc, hcells, hl, hpg, hold, hK, hX⟩ := x
  dsimp only at hk htk ⊢
  obtain ⟨hg, hn⟩ := hX It (.head _)
  have ke : KB ((It :: X) ++ RM L P Ld) h₁ h := KB.sub (fun b o hb q => hk b o hb q) (fun b hb => by rw [List.mem_singleton.mp hb]; exact .head _)
  refine ⟨_, _, m, pr, lr, nP, nL, o1, o2, o3, o4, o5, o6, td, rfl, by omega, frStab F hg (fun q => hn (by rw [← q]; simp)) hk, hm, newsStab N ?_ hk, hc, hcells, hl, PgAll.kb hpg ke, hold.kb ke, fun z hz => (hK z hz).kb ke, hX⟩
  intro p hp q
  apply hn
  rw [← q]
  simp only [List.mem_cons, List.not_mem_nil, or_false] at hp
  rcases hp with rfl | rfl | rfl | rfl | rfl | rfl | rfl | rfl <;> simp
theorem RSt.leave {It : Addr} (x : RSt w g L e te P Ld s₀ (It :: X) d pages K c1 c2 c3 s') : RSt w g L e te P Ld s₀ X d pages K c1 c2 c3 s' := by
  obtain ⟨h₁, tk₁, m, pr, lr, nP, nL, o1, o2, o3, o4, o5, o6, td, rfl, hk1, F, hm, N, hc, hcells, hl, hpg, hold, hK, hX⟩ := x
  have hs : ∀ b ∈ X ++ RM L P Ld, b ∈ (It :: X) ++ RM L P Ld ∨ h₁.get? b = none := fun b hb => .inl (.tail _ hb)
  exact ⟨_, _, m, pr, lr, nP, nL, o1, o2, o3, o4, o5, o6, td, rfl, hk1, F, hm, N, hc, hcells, hl, PgAll.more hpg hs, hold.more hs, fun z hz => (hK z hz).more hs, fun b hb => hX b (.tail _ hb)⟩
theorem RSt.any1 (x : RSt w g L e te P Ld s₀ X d pages K c1 c2 c3 s') : RSt w g L e te P Ld s₀ X d pages K anyCell anyCell anyCell s' := by
  obtain ⟨h₁, tk₁, m, pr, lr, nP, nL, o1, o2, o3, o4, o5, o6, td, rfl, hk1, F, hm, N, hc, hcells, hl, hpg, hold, hK, hX⟩ := x
  exact ⟨_, _, m, pr, lr, nP, nL, o1, o2, o3, o4, o5, o6, td, rfl, hk1, F, hm, N, ⟨hcells.1, hcells.2.1, hcells.2.2.1⟩, hcells, hl, hpg, hold, hK, hX⟩
theorem RSt.any3 (x : RSt w g L e te P Ld s₀ X d pages K c1 c2 c3 s') : RSt w g L e te P Ld s₀ X d pages K c1 anyCell anyCell s' := by
  obtain ⟨h₁, tk₁, m, pr, lr, nP, nL, o1, o2, o3, o4, o5, o6, td, rfl, hk1, F, hm, N, hc, hcells, hl, hpg, hold, hK, hX⟩ := x
  exact ⟨_, _, m, pr, lr, nP, nL, o1, o2, o3, o4, o5, o6, td, rfl, hk1, F, hm, N, ⟨hc.1, hcells.2.1, hcells.2.2.1⟩, hcells, hl, hpg, hold, hK, hX⟩
end
theorem page_item (q : P3) (t0 t1 t2 : Tok) (i : Nat) (hi : i < 3) : ∃ t, (#[Value.str (drow q.1) t0, .str (drow q.2.1) t1, .str (drow q.2.2) t2] : Array Value)[i]? = some (.str (drow (q.sz i)) t) := by
  match i, hi with
  | 0, _ => exact ⟨t0, rfl⟩
  | 1, _ => exact ⟨t1, rfl⟩
  | 2, _ => exact ⟨t2, rfl⟩
theorem cut_row : ∀ n < 8, Txt.slice (drow n ++ Str.ofString "\x0d\n") none (some (-2)) = drow n := by decide +kernel
theorem cut_len : ∀ n < 8, (drow n ++ Str.ofString "\x0d\n").length ≤ 100 := by decide +kernel
theorem lead_uniq {w : World} {g g' h : Heap} {a : Addr} {st1 st2 : WS} (x : LeadN w g h a st1) (y : LeadN w g' h a st2) : st1.cnt = st2.cnt ∧ st1.b = st2.b := by
  obtain ⟨dx, D, D', vs, tb, tn, tt, k1, k2, k3, k4, k5, raw, simple, H1, hi1, hv1⟩ := x
  obtain ⟨dy, B, B', ws, tb2, tn2, tt2, j1, j2, j3, j4, j5, raw2, simple2, H2, hi2, hv2⟩ := y
  have e1 := (H1 _ (.head _)).1.symm.trans (H2 _ (.head _)).1
  have d1 : dx = dy := by
    have := congrArg (fun o : Option Obj => o.bind Obj.dict) e1
    simpa [instObj] using this
  subst d1
  have e2 := (H1 _ (.tail _ (.head _))).1.symm.trans (H2 _ (.tail _ (.head _))).1
  have d2 : D' = B' := by
    simp [dictOf] at e2
    exact e2.2.2.2.1.2
  subst d2
  have e3 := (H1 _ (.tail _ (.tail _ (.head _)))).1.symm.trans (H2 _ (.tail _ (.tail _ (.head _)))).1
  simp at e3
  obtain ⟨rfl, e3, -⟩ := e3
  have e4 := (H1 _ (.tail _ (.tail _ (.tail _ (.head _))))).1.symm.trans (H2 _ (.tail _ (.tail _ (.tail _ (.head _))))).1
  simp at e4
  subst e4
  exact ⟨hi1.numsOf.symm.trans hi2.numsOf, by omega⟩
theorem rm_has {g h : Heap} {L P Ld : Addr} {m : Str → Option Value} {oP oD o1 o2 o3 o4 o5 o6 : Obj} {r : List (Addr × Obj)} (F : Fr g L h m)
    (N : News g L h ((P, oP) :: (Ld, oD) :: (L + 1 + 1 + 1 + 1 + 1 + 1, o6) :: (L + 1 + 1 + 1 + 1 + 1, o5) :: (L + 1 + 1 + 1 + 1, o4) :: (L + 1 + 1 + 1, o3) :: (L + 1 + 1, o2) :: (L + 1, o1) :: r)) : ∀ b ∈ RM L P Ld, ∃ o, h.get? b = some o := by
  intro b hb
  simp only [List.mem_cons, List.not_mem_nil, or_false] at hb
  rcases hb with rfl | rfl | rfl | rfl | rfl | rfl | rfl | rfl | rfl
  · exact ⟨_, (N _ (.head _)).1⟩
  · exact ⟨_, (N _ (.tail _ (.head _))).1⟩
  · exact ⟨_, (N _ (.tail _ (.tail _ (.head _)))).1⟩
  · exact ⟨_, (N _ (.tail _ (.tail _ (.tail _ (.head _))))).1⟩
  · exact ⟨_, (N _ (.tail _ (.tail _ (.tail _ (.tail _ (.head _)))))).1⟩
  · exact ⟨_, (N _ (.tail _ (.tail _ (.tail _ (.tail _ (.tail _ (.head _))))))).1⟩
  · exact ⟨_, (N _ (.tail _ (.tail _ (.tail _ (.tail _ (.tail _ (.tail _ (.head _)))))))).1⟩
  · exact ⟨_, (N _ (.tail _ (.tail _ (.tail _ (.tail _ (.tail _ (.tail _ (.tail _ (.head _))))))))).1⟩
  · obtain ⟨oL, _, _, hL', _⟩ := F.ns; exact ⟨oL, hL'⟩
open Classical in
noncomputable def eqTest (lr : List Addr) (ps : List P3) (tgt : WS) (v : Value) : Bool := decide (∃ (i : Nat) (a : Addr) (r : P3), lr[i]? = some a ∧ ps[i]? = some r ∧ v = .ref a ∧ sameNorm (leadSt r) tgt = true)
open Classical in
theorem eqTest_at {w : World} {g h : Heap} {M : List Addr} {ps : List P3} {pr lr : List Addr} (x : PgAll w g h M ps pr lr) (tgt : WS) (i : Nat) (a : Addr) (r : P3) (ha : lr[i]? = some a) (hr : ps[i]? = some r) : eqTest lr ps tgt (.ref a) = sameNorm (leadSt r) tgt := by
  have key : (∃ (i : Nat) (a' : Addr) (r : P3), lr[i]? = some a' ∧ ps[i]? = some r ∧ Value.ref a = .ref a' ∧ sameNorm (leadSt r) tgt = true) ↔ sameNorm (leadSt r) tgt = true := by
    constructor
    · rintro ⟨i', a', r', h1, h2, h3, h4⟩
      injection h3 with h3
      subst h3
      obtain ⟨_, b1, _, c1, _, l1⟩ := x i r hr
      obtain ⟨_, b2, _, c2, _, l2⟩ := x i' r' h2
      rw [ha] at c1; cases c1
      rw [h1] at c2; cases c2
      obtain ⟨u1, u2⟩ := lead_uniq l1.lead l2.lead
      rw [← h4]
      unfold sameNorm
      rw [u1, u2]
    · intro hs
      exact ⟨i, a, r, ha, hr, rfl, hs⟩
  unfold eqTest
  cases hb : sameNorm (leadSt r) tgt with
  | true => exact decide_eq_true (key.mpr hb)
  | false => exact decide_eq_false fun q => by rw [key.mp q] at hb; cases hb
theorem eqTest_any {w : World} {g h : Heap} {M : List Addr} {ps : List P3} {pr lr : List Addr} (x : PgAll w g h M ps pr lr) (hl : lr.length = ps.length) (tgt : WS) : ((lr.map Value.ref).filter (eqTest lr ps tgt) = []) ↔ ps.any (fun r => sameNorm (leadSt r) tgt) = false := by
  rw [List.filter_eq_nil_iff, List.any_eq_false]
  constructor
  · intro hf r hr
    obtain ⟨i, hi, rfl⟩ := List.getElem_of_mem hr
    have h2 : ps[i]? = some ps[i] := List.getElem?_eq_getElem hi
    obtain ⟨_, b1, _, c1, _, l1⟩ := x i _ h2
    have h3 := hf (.ref b1) (List.mem_map_of_mem (List.mem_of_getElem? c1))
    rw [eqTest_at x tgt i b1 _ c1 h2] at h3
    exact h3
  · intro hf v hv
    obtain ⟨a, ha, rfl⟩ := List.mem_map.mp hv
    obtain ⟨i, hi, rfl⟩ := List.getElem_of_mem ha
    have h2 : ps[i]? = some ps[i] := List.getElem?_eq_getElem (by omega)
    rw [eqTest_at x tgt i _ _ (List.getElem?_eq_getElem hi) h2]
    exact hf _ (List.getElem_mem _)
theorem newsOf {g h : Heap} {L : Addr} {M : List Addr} {l : List (Addr × Obj)} (H : Has g h l) (hM : ∀ p ∈ l, p.1 ∉ M) (hL : L ∈ M) : News g L h l := fun p hp => ⟨(H p hp).1, fun q => hM p hp (q ▸ hL), (H p hp).2⟩
theorem trues_all {h : Heap} : ∀ (l : List Value), (∀ y ∈ l, y = .bool true) → ReadsAll h l (List.replicate l.length (.bool true)) []
  | [], _ => .nil
  | y :: r, hy => by
    rw [hy y (.head _)]
    exact ReadsAll.cons (as := []) (bs := []) (Reads.bool _) (trues_all r fun z hz => hy z (.tail _ hz))
theorem trues_reads {h : Heap} {D : Addr} {ys : Array Value} {n : Nat} (hd : h.get? D = some (listOf ys n)) (hy : ∀ y ∈ ys.toList, y = .bool true) : Reads h (.ref D) (.list (List.replicate ys.toList.length (.bool true))) [D] :=
  Reads.list hd rfl rfl (trues_all _ hy)
theorem trues_lay : ∀ k, PyData.canLayAll0 (List.replicate k (.bool true)) = true
  | 0 => rfl
  | k + 1 => by rw [List.replicate_succ]; simp [PyData.canLayAll0, PyData.canLay0, trues_lay k]
theorem trues_depth : ∀ k, PyData.depthAll (List.replicate k (.bool true)) ≤ 1
  | 0 => by decide
  | k + 1 => by rw [List.replicate_succ]; have := trues_depth k; simp [PyData.depthAll, PyData.depth]; omega
theorem trues_shaped (k : Nat) : SeqAt.shaped (.list (List.replicate k (.bool true))) = true := by
  have := trues_depth k
  simp [SeqAt.shaped, PyData.canLay0, PyData.depth, trues_lay k]
  omega
theorem trues_eqv (k : Nat) : PyData.eqv (.list (List.replicate k (.bool true))) (.list []) = decide (k = 0) := by
  cases k with
  | zero => simp [PyData.eqv, PyData.eqvAll]
  | succ k => rw [List.replicate_succ]; simp [PyData.eqv, PyData.eqvAll]
theorem PgAll.snoc {w : World} {g h : Heap} {M : List Addr} {ps : List P3} {pr lr : List Addr} {a y : Addr} {q : P3} (x : PgAll w g h M ps pr lr) (h1 : pr.length = ps.length) (h2 : lr.length = ps.length) (hp : PageM M g h a q) (hl : LeadM w M g h y (leadSt q)) : PgAll w g h M (ps ++ [q]) (pr ++ [a]) (lr ++ [y]) := by
  intro i r hi
  rcases Nat.lt_trichotomy i ps.length with hlt | heq | hgt
  · rw [List.getElem?_append_left hlt] at hi
    obtain ⟨b, z, e1, e2, e3⟩ := x i r hi
    exact ⟨b, z, by rw [List.getElem?_append_left (by omega)]; exact e1, by rw [List.getElem?_append_left (by omega)]; exact e2, e3⟩
  · subst heq
    rw [List.getElem?_append_right (Nat.le_refl _)] at hi
    simp at hi
    subst hi
    exact ⟨a, y, by rw [List.getElem?_append_right (by omega), h1]; simp, by rw [List.getElem?_append_right (by omega), h2]; simp, hp, hl⟩
  · rw [List.getElem?_eq_none (by simp; omega)] at hi
    cases hi
def foldT (q : P3) (ps : List P3) (g j : Nat) : List P3 := (List.range j).foldl (fun ps t => step1 q ps g t) ps
def foldG (q : P3) (ps : List P3) (i : Nat) : List P3 := (List.range i).foldl (fun ps g => stepG q ps g) ps
theorem foldT_succ (q : P3) (ps : List P3) (g j : Nat) : foldT q ps g (j + 1) = step1 q (foldT q ps g j) g j := by simp [foldT, List.range_succ]
theorem foldG_succ (q : P3) (ps : List P3) (i : Nat) : foldG q ps (i + 1) = stepG q (foldG q ps i) i := by simp [foldG, List.range_succ]
theorem foldT_len (q : P3) (ps : List P3) (g : Nat) : ∀ j, (foldT q ps g j).length ≤ ps.length + j
  | 0 => by simp [foldT]
  | j + 1 => by rw [foldT_succ]; have := (step1_len q (foldT q ps g j) g j).2; have := foldT_len q ps g j; omega
theorem foldG_len (q : P3) (ps : List P3) : ∀ i, (foldG q ps i).length ≤ ps.length + 3 * i
  | 0 => by simp [foldG]
  | i + 1 => by rw [foldG_succ]; have := stepG_len q (foldG q ps i) i; have := foldG_len q ps i; omega
theorem step1_ok {q : P3} (hq : okP q) {ps : List P3} (h : ∀ r ∈ ps, okP r) (g t : Nat) : ∀ r ∈ step1 q ps g t, okP r := by
  unfold step1
  split
  · split
    · exact h
    · intro r hr
      rcases List.mem_append.mp hr with hr | hr
      · exact h r hr
      · rw [List.mem_singleton.mp hr]; exact hq.gift g t (by assumption)
  · exact h
theorem foldT_ok {q : P3} (hq : okP q) {ps : List P3} (h : ∀ r ∈ ps, okP r) (g : Nat) : ∀ j, ∀ r ∈ foldT q ps g j, okP r
  | 0 => h
  | j + 1 => by rw [foldT_succ]; exact step1_ok hq (foldT_ok hq h g j) g j
theorem foldG_ok {q : P3} (hq : okP q) {ps : List P3} (h : ∀ r ∈ ps, okP r) : ∀ i, ∀ r ∈ foldG q ps i, okP r
  | 0 => h
  | i + 1 => by rw [foldG_succ]; exact foldT_ok hq (foldG_ok hq h i) i 3
theorem cells6 {cm : Str → Option Value} {n1 n2 n3 n4 n5 n6 : Str} {a1 a2 a3 a4 a5 a6 : Addr} {cells : List (Addr × Obj)} (x : CellsAre cm [(n6, a6), (n5, a5), (n4, a4), (n3, a3), (n2, a2), (n1, a1)] cells) :
    ∃ o6 o5 o4 o3 o2 o1, cells = [(a6, o6), (a5, o5), (a4, o4), (a3, o3), (a2, o2), (a1, o1)] ∧ o6.data = .cell (cm n6) ∧ o5.data = .cell (cm n5) ∧ o4.data = .cell (cm n4) ∧ o3.data = .cell (cm n3) ∧ o2.data = .cell (cm n2) ∧ o1.data = .cell (cm n1) := by
  cases x with | cons h6 x =>
  cases x with | cons h5 x =>
  cases x with | cons h4 x =>
  cases x with | cons h3 x =>
  cases x with | cons h2 x =>
  cases x with | cons h1 x =>
  cases x
  exact ⟨_, _, _, _, _, _, rfl, h6, h5, h4, h3, h2, h1⟩
end Mine
end
section
open PySem PySem.W PyProof.Rows PySem.Calls
set_option maxRecDepth 100000
namespace Mine
local macro_rules | `(tactic| walk_at "execs cons") => `(tactic| ((with_reducible refine wpAny_execs_cons ?_); try dsimp only))
local macro_rules | `(tactic| walk_at "execs nil") => `(tactic| (with_reducible refine wpAny_execs_nil ?_))
set_option maxHeartbeats 8000000 in
theorem reached_spec {prog : Program} {w : World} {mg mb : Str → Option Value} {A : Around} {s : Shared} {h₀ : Heap} {Q : Value → Shared → Prop} (R : Rd w mg mb h₀) (e₀ : Ext h₀ s.heap) (hr : A.depth + 20 < recursionLimit) (hh : A.handled = none) (hu : A.units + 200 < cLine) (hk : 1 ≤ s.toks)
    (p : Addr) (q : P3) (n : Nat) (t0 t1 t2 te : Tok) (e : Str) (he : e ∈ ends) (hq : okP q) (hp : Has h₀ s.heap [(p, listOf #[.str (drow q.1) t0, .str (drow q.2.1) t1, .str (drow q.2.2) t2] n)])
    (hret : ∀ (Ld : Addr) (h' : Heap) (tk' : Nat) (lr : List Addr) (nL : Nat) (out : List P3), reach 30 0 [q] = some out → Ext s.heap h' → 1 ≤ tk' → Has s.heap h' [(Ld, listOf (lr.map Value.ref).toArray nL)] → lr.length = out.length →
      (∀ (i : Nat) (r : P3), out[i]? = some r → ∃ x : Addr, lr[i]? = some x ∧ LeadM w [Ld] s.heap h' x (leadSt r)) → Q (.ref Ld) { s with heap := h', toks := tk' }) :
    wpAny (model prog w) A (call (.ref 140) [.ref p, .str e te]) Q NoE s := by
  obtain ⟨hd, dp, fr, gd, un⟩ := A
  dsimp only at hh hr hu
  subst hh
  w_on
  refine withTk hk ?_
  refine enterCH R e₀ hp (by show dp < _; omega) (by k_is) (by k_is) (binds := [(Str.ofString "first", .ref p), (Str.ofString "end", .str e te)]) (BindsTo.of_eq rfl) rfl (by decide) rfl rfl rfl ?_
  intro g h₁ tk cells htk Rg gs sg F N Y
  generalize hL : s.heap.objs.size = L at *
  replace Y : CellsAre (bindC _ _ fun _ => none) [(Str.ofString "lead", L + 1 + 1 + 1 + 1 + 1 + 1), (Str.ofString "more", L + 1 + 1 + 1 + 1 + 1), (Str.ofString "fewer", L + 1 + 1 + 1 + 1), (Str.ofString "taker", L + 1 + 1 + 1), (Str.ofString "giver", L + 1 + 1), (Str.ofString "page", L + 1)] cells := Y
  obtain ⟨o6, o5, o4, o3, o2, o1, rfl, y6, y5, y4, y3, y2, y1⟩ := cells6 Y
  replace y6 : o6.data = .cell none := y6
  replace y5 : o5.data = .cell none := y5
  replace y4 : o4.data = .cell none := y4
  replace y3 : o3.data = .cell none := y3
  replace y2 : o2.data = .cell none := y2
  replace y1 : o1.data = .cell none := y1
  have Xg := Rg.X
  have Tg := Rg.T
  dsimp only [List.cons_append, List.nil_append] at N
  repeat ((fail_if_success (with_reducible show wpAny _ _ (call (Value.ref _) _) _ _ _)); first | walk1 | (dsimp only; walk1))
  rename_i P hA F₁ N₁ lP
  have q1 := hq.1
  have q2 := hq.2.1
  have q3 := hq.2.2
  have E₁ : Ext g _ := F₁.keep
  have R₁ := Rg.keeps E₁
  refine lead_spec R₁ ?_ rfl ?_ p _ _ _ t0 t1 t2 ⟨_, (N₁ _ (.tail _ (.tail _ (.tail _ (.tail _ (.tail _ (.tail _ (.tail _ (.head _)))))))) ).1, rfl, _, rfl⟩ q.1 q.2.1 q.2.2 (by omega) (by omega) (by omega) (lead_drow (by omega) (by omega) (by omega)) ?_
  · show dp + 1 + 5 < _; omega
  · dsimp only; omega
  intro x h₂ tk₂ e₂ hk₂ hx
  dsimp only at e₂ hx
  have F₂ := frKeep F₁ e₂
  have hEW : Ext g h₂ := F₂.keep
  have N₂ := newsApp (newsKeep N₁ e₂) (news_rest (M := [P, L + 1 + 1 + 1 + 1 + 1 + 1, L + 1 + 1 + 1 + 1 + 1, L + 1 + 1 + 1 + 1, L + 1 + 1 + 1, L + 1 + 1, L + 1, p, L]))
  have hxM : LeadM w [P, L + 1 + 1 + 1 + 1 + 1 + 1, L + 1 + 1 + 1 + 1 + 1, L + 1 + 1 + 1 + 1, L + 1 + 1 + 1, L + 1 + 1, L + 1, p, L] g h₂ x (leadSt q) := by
    refine leadM_of hx E₁ ?_
    intro b hb
    simp only [List.mem_cons, List.not_mem_nil, or_false] at hb
    rcases hb with rfl | rfl | rfl | rfl | rfl | rfl | rfl | rfl | rfl
    · exact ⟨_, (N₁ _ (.head _)).1⟩
    · exact ⟨_, (N₁ _ (.tail _ (.head _))).1⟩
    · exact ⟨_, (N₁ _ (.tail _ (.tail _ (.head _)))).1⟩
    · exact ⟨_, (N₁ _ (.tail _ (.tail _ (.tail _ (.head _))))).1⟩
    · exact ⟨_, (N₁ _ (.tail _ (.tail _ (.tail _ (.tail _ (.head _)))))).1⟩
    · exact ⟨_, (N₁ _ (.tail _ (.tail _ (.tail _ (.tail _ (.tail _ (.head _))))))).1⟩
    · exact ⟨_, (N₁ _ (.tail _ (.tail _ (.tail _ (.tail _ (.tail _ (.tail _ (.head _)))))))).1⟩
    · exact ⟨_, (N₁ _ (.tail _ (.tail _ (.tail _ (.tail _ (.tail _ (.tail _ (.tail _ (.head _))))))))).1⟩
    · obtain ⟨oL, _, _, hL', _⟩ := F₁.ns; exact ⟨oL, hL'⟩
  clear F₁ N₁
  dsimp only [List.cons_append, List.nil_append] at N₂
  dsimp only
  repeat ((fail_if_success (with_reducible show wpAny _ _ (exec (Stmt.While _ _ _ _) _) _ _ _)); first | walk1 | (dsimp only; walk1))
  rename_i Ld _ lLd _ _ _ _ _ _ hW FW NW
  obtain ⟨out, hout⟩ := reach_all (a := q.1) (b := q.2.1) (c := q.2.2) hq
  have start : RSt w g L e te P Ld s [] 0 [q] [] anyCell anyCell anyCell { s with heap := hW, toks := tk₂ + 1 + 1 + 1 + 1 } := by
    refine ⟨_, _, _, [p], [x], 0, 0, o1, o2, o3, o4, o5, o6, _, rfl, by omega, FW, ⟨rfl, rfl, rfl, rfl, trivial⟩, newsSub NW ?_, ⟨⟨_, y1⟩, ⟨_, y2⟩, ⟨_, y3⟩⟩, ⟨⟨_, y1⟩, ⟨_, y2⟩, ⟨_, y3⟩, ⟨_, y4⟩, ⟨_, y5⟩, ⟨_, y6⟩⟩, ⟨rfl, rfl⟩, ?_, ?_, (fun z hz => by cases hz), ?_⟩
    · k_allIn
    · intro i q' hi
      cases i with
      | succ i => simp at hi
      | zero =>
        have e' : q = q' := by simpa using hi
        subst e'
        have hKB : KB [P, L + 1 + 1 + 1 + 1 + 1 + 1, L + 1 + 1 + 1 + 1 + 1, L + 1 + 1 + 1 + 1, L + 1 + 1 + 1, L + 1 + 1, L + 1, p, L] h₂ hW :=
          KB.rest FW hEW NW (fun _ hp => .tail _ (.tail _ (.tail _ (.tail _ (.tail _ (.tail _ (.tail _ (.tail _ (.tail _ (.tail _ hp)))))))))) (by simp)
        refine ⟨p, x, rfl, rfl, ⟨n, t0, t1, t2, ?_, ?_⟩, ?_⟩
        · intro z hz
          rw [List.mem_singleton.mp hz]
          exact ⟨(NW _ (by k_memK)).1, (NW _ (by k_memK)).2.2⟩
        · exact notRM (hL ▸ Heap.lt_size (hp _ (.head _)).1) lP.1 lLd.1
        · refine LeadM.more ((hxM.kb hKB).addL (NW (Ld, _) (by k_memK)).1 rfl) ?_
          intro b hb
          left
          simp only [List.nil_append, List.mem_cons, List.not_mem_nil, or_false] at hb ⊢
          rcases hb with rfl | rfl | rfl | rfl | rfl | rfl | rfl | rfl | rfl <;> simp
    · intro b o hb
      refine ⟨notRM (hL ▸ Heap.lt_size hb) lP.1 lLd.1, ?_⟩
      refine extHide sg FW.keep (fun z hz => ?_) (fun z hz => ?_) b o hb
      · exact (hp z hz).1
      · rw [List.mem_singleton.mp hz]
        exact (NW _ (by k_memK)).1
    · intro b hb; cases hb
  refine cut (fun f s' => Stop (f = .next ∧ ∃ d, RSt w g L e te P Ld s [] d out [] anyCell anyCell anyCell s')) ?_ ?_
  · refine while_any (fun k s' => ∃ d pages, reach k d pages = some out ∧ (∀ r ∈ pages, okP r) ∧ pages.length + 9 * k ≤ 271 ∧ RSt w g L e te P Ld s [] d pages [] anyCell anyCell anyCell s') ?_ 30 ⟨0, [q], hout, by simpa using hq, by simp, start⟩
    rintro k s' ⟨d, pages, hrc, hok, hlen, h, tk, m, pr, lr, nP, nL, o1, o2, o3, o4, o5, o6, td, rfl, hk1, F, hm, N, -, ⟨⟨v1, a1⟩, ⟨v2, a2⟩, ⟨v3, a3⟩, ⟨v4, a4⟩, ⟨v5, a5⟩, ⟨v6, a6⟩⟩, ⟨hpl, hll⟩, hpg, hold, hK, hX⟩
    clear FW NW start
    have F₅ := frAt _ F hm
    dsimp only [List.foldr] at F₅
    have R₅ := Rg.keeps F₅.keep
    have N₅ := newsApp N (news_rest (M := RM L P Ld) (h := h))
    dsimp only [List.cons_append, List.nil_append] at N₅
    have off : OwnOff (rest g L (RM L P Ld) h) [P, Ld, L + 1 + 1 + 1 + 1 + 1 + 1, L + 1 + 1 + 1 + 1 + 1, L + 1 + 1 + 1 + 1, L + 1 + 1 + 1, L + 1 + 1, L + 1, L] := off_rest
    have gPL : Ld ≠ P := Nat.ne_of_gt lLd.1
    have hgk : Ext g h := F.keep
    clear N
    repeat ((fail_if_success (with_reducible show wpAny _ _ (call (Value.builtin "len") _) _ _ _)); first | walk1 | (dsimp only; walk1))
    have hPl : h.IsList P (pr.map Value.ref).toArray := Heap.PlainList.isList ⟨nP, (N₅ _ (.head _)).1⟩
    have hsz : (pr.map Value.ref).toArray.size = pages.length := by simp [hpl]
    refine len_list hPl (by rw [hsz]; omega) ?_
    rw [hsz]
    repeat ((fail_if_success (with_reducible show wpAny _ _ (subscriptTail _ _ _ _) _ _ _)); first | walk1 | (dsimp only; walk1))
    rotate_left
    · rename_i hge
      replace hge : ¬ d < pages.length := by omega
      refine ⟨trivial, d, ?_⟩
      cases k with
      | zero => cases hrc
      | succ k =>
        rw [reach, if_neg hge] at hrc
        injection hrc with hrc
        subst hrc
        exact ⟨h, _, m, pr, lr, nP, nL, o1, o2, o3, o4, o5, o6, td, rfl, by dsimp only; omega, by assumption, hm, newsSub N₅ (by k_allIn), ⟨⟨v1, a1⟩, ⟨v2, a2⟩, ⟨v3, a3⟩⟩, ⟨⟨v1, a1⟩, ⟨v2, a2⟩, ⟨v3, a3⟩, ⟨v4, a4⟩, ⟨v5, a5⟩, ⟨v6, a6⟩⟩, ⟨hpl, hll⟩, hpg, hold, hK, hX⟩
    rename_i hlt
    replace hlt : d < pages.length := by omega
    obtain ⟨q', hq'⟩ : ∃ q', pages[d]? = some q' := ⟨pages[d], List.getElem?_eq_getElem hlt⟩
    obtain ⟨a, x', ha, hx', hPa, hLx'⟩ := hpg d q' hq'
    refine item_list hPl (by omega) (by omega) (x := .ref a) (by simp [ha]) ?_
    repeat ((fail_if_success (with_reducible show wpAny _ _ (exec (Stmt.For _ _ _ _ _) _) _ _ _)); first | walk1 | (dsimp only; walk1))
    rename_i h₆ o1' F₆ N₆ hc1
    have hKB : KB (RM L P Ld) h h₆ := KB.rest F₆ hgk N₆ (fun _ hp => .tail _ (.tail _ (.tail _ (.tail _ (.tail _ (.tail _ (.tail _ (.tail _ hp)))))))) (by simp)
    have hd0 := hrc
    cases k with
    | zero => cases hrc
    | succ k =>
    rw [reach, if_pos hlt, List.getD_eq_getElem?_getD, hq', Option.getD_some] at hrc
    have hokq : okP q' := hok q' (List.mem_of_getElem? hq')
    have st6 : RSt w g L e te P Ld s [] d pages [(a, q')] (refCell a) anyCell anyCell { s with heap := h₆, toks := tk + 1 + 1 } := by
      refine ⟨_, _, _, pr, lr, nP, nL, o1', o2, o3, o4, o5, o6, td, rfl, by omega, F₆, ⟨rfl, rfl, rfl, rfl, trivial⟩, newsSub N₆ (by k_allIn), ⟨hc1, ⟨v2, a2⟩, ⟨v3, a3⟩⟩, ⟨⟨_, hc1⟩, ⟨v2, a2⟩, ⟨v3, a3⟩, ⟨v4, a4⟩, ⟨v5, a5⟩, ⟨v6, a6⟩⟩, ⟨hpl, hll⟩, PgAll.kb hpg hKB, hold.kb hKB, ?_, hX⟩
      intro z hz
      rw [List.mem_singleton.mp hz]
      exact hPa.kb hKB
    refine cut (fun f s' => Stop (f = .next ∧ RSt w g L e te P Ld s [] d (stepP q' pages) [(a, q')] anyCell anyCell anyCell s')) ?_ ?_
    · refine wpAny_For ?_
      clear F₆ N₆ off hKB
      obtain ⟨h, tk, m, pr, lr, nP, nL, o1, o2, o3, o4, o5, o6, td, es, hk1, F, hm, N, hc, hcells, hl, hpg, hold, hK, hX⟩ := st6
      rw [es]
      clear es
      have F₅ := frAt _ F hm
      dsimp only [List.foldr] at F₅
      have N₅ := newsApp N (news_rest (M := RM L P Ld) (h := h))
      dsimp only [List.cons_append, List.nil_append] at N₅
      clear N hgk
      have hgk : Ext g h := F.keep
      refine withTk hk1 ?_
      repeat ((fail_if_success (with_reducible show wpAny _ _ (pyIter _) _ _ _)); first | walk1 | (dsimp only; walk1))
      rename_i h₇ tk₇ t₇ u₇ v₇ hr₇ F₇ N₇ e₇ hk₇
      have hKB : KB (RM L P Ld) h h₇ := KB.of e₇
      have st7 : RSt w g L e te P Ld s [] d pages [(a, q')] (refCell a) anyCell anyCell { s with heap := h₇, toks := tk₇ } :=
        ⟨h₇, _, _, pr, lr, nP, nL, o1, o2, o3, o4, o5, o6, _, rfl, hk₇, F₇, ⟨rfl, rfl, rfl, rfl, trivial⟩, newsSub N₇ (by k_allIn), hc, hcells, hl, PgAll.kb hpg hKB, hold.kb hKB, (fun z hz => (hK z hz).kb hKB), hX⟩
      clear F₇ N₇ hcells hl hpg hold hK hc e₇ hKB
      refine for_range 3 (fun i s' => RSt w g L e te P Ld s [h₇.objs.size] d (foldG q' pages i) [(a, q')] (refCell a) anyCell anyCell s') hr₇ rfl (by decide) (by decide) rfl (fun o _ => st7.enterIt o) ?_ ?_ ?_ ?_
      · intro v; rfl
      · intro i s' h tk x htk hk; exact x.stab htk hk
      · intro i t s' oI hi3 st8 hIt
        clear st7
        obtain ⟨h, tk, m, pr, lr, nP, nL, o1, o2, o3, o4, o5, o6, td, es, hk1, F, hm, N, hc, hcells, hl, hpg, hold, hK, hX⟩ := st8
        subst es
        have F₅ := frAt _ F hm
        dsimp only [List.foldr] at F₅
        have N₅ := newsApp N (news_rest (M := RM L P Ld) (h := h))
        dsimp only [List.cons_append, List.nil_append] at N₅
        have off : OwnOff (rest g L (RM L P Ld) h) [P, Ld, L + 1 + 1 + 1 + 1 + 1 + 1, L + 1 + 1 + 1 + 1 + 1, L + 1 + 1 + 1 + 1, L + 1 + 1 + 1, L + 1 + 1, L + 1, L] := off_rest
        clear N hgk
        have hgk : Ext g h := F.keep
        have b1 := hcells.1
        obtain ⟨vb2, b2⟩ := hcells.2.1
        dsimp only
        rw [Int.zero_add]
        refine wpAny_assign_Name ?_
        repeat ((fail_if_success (with_reducible show wpAny _ _ (exec (Stmt.For _ _ _ _ _) _) _ _ _)); first | walk1 | (dsimp only; walk1))
        rename_i h₈ o2' F₈ N₈ hc2
        have hKB : KB (RM L P Ld) h h₈ := KB.rest F₈ hgk N₈ (fun _ hp => .tail _ (.tail _ (.tail _ (.tail _ (.tail _ (.tail _ (.tail _ (.tail _ hp)))))))) (by simp)
        have st8 : RSt w g L e te P Ld s [h₇.objs.size] d (foldG q' pages i) [(a, q')] (refCell a) (intCell i) anyCell { s with heap := h₈, toks := tk } :=
          ⟨h₈, _, _, pr, lr, nP, nL, o1, o2', o3, o4, o5, o6, _, rfl, hk1, F₈, ⟨rfl, rfl, rfl, rfl, trivial⟩, newsSub N₈ (by k_allIn), ⟨hc.1, ⟨t, hc2⟩, hc.2.2⟩, ⟨hcells.1, ⟨_, hc2⟩, hcells.2.2⟩, hl, PgAll.kb hpg hKB.app, hold.kb hKB.app, (fun z hz => (hK z hz).kb hKB.app), hX⟩
        have hIt8 : h₈.get? h₇.objs.size = some oI := hKB _ _ (hX _ (.head _)).2 hIt
        have hgl := foldG_len q' pages i
        have hgo := foldG_ok hokq hok i
        rw [foldG_succ]
        generalize foldG q' pages i = ps at *
        generalize h₇.objs.size = It1 at *
        clear F₈ N₈ hcells hl hpg hold hK hc hKB hX hIt off hr₇ b1 b2
        refine cut (fun f s' => Stop (f = .next ∧ RSt w g L e te P Ld s [It1] d (stepG q' ps i) [(a, q')] (refCell a) anyCell anyCell s' ∧ s'.heap.get? It1 = some oI)) ?_ ?_
        · refine wpAny_For ?_
          obtain ⟨h, tk, m, pr, lr, nP, nL, o1, o2, o3, o4, o5, o6, td, es, hk1, F, hm, N, hc, hcells, hl, hpg, hold, hK, hX⟩ := st8
          injection es with es1 _ _ es2
          subst es1
          subst es2
          have F₅ := frAt _ F hm
          dsimp only [List.foldr] at F₅
          have N₅ := newsApp N (news_rest (M := RM L P Ld) (h := h₈))
          dsimp only [List.cons_append, List.nil_append] at N₅
          clear N hgk
          have hgk : Ext g h₈ := F.keep
          refine withTk hk1 ?_
          repeat ((fail_if_success (with_reducible show wpAny _ _ (pyIter _) _ _ _)); first | walk1 | (dsimp only; walk1))
          rename_i h₉ tk₉ t₉ u₉ v₉ hr₉ F₉ N₉ e₉ hk₉
          have hKB : KB (RM L P Ld) h₈ h₉ := KB.of e₉
          have st9 : RSt w g L e te P Ld s [It1] d ps [(a, q')] (refCell a) (intCell i) anyCell { s with heap := h₉, toks := tk₉ } :=
            ⟨h₉, _, _, pr, lr, nP, nL, o1, o2, o3, o4, o5, o6, _, rfl, hk₉, F₉, ⟨rfl, rfl, rfl, rfl, trivial⟩, newsSub N₉ (by k_allIn), hc, hcells, hl, PgAll.kb hpg hKB.app, hold.kb hKB.app, (fun z hz => (hK z hz).kb hKB.app), hX⟩
          have hIt9 : h₉.get? It1 = some oI := e₉ _ _ hIt8
          clear F₉ N₉ hcells hl hpg hold hK hc e₉ hKB hIt8
          have hne : It1 ≠ h₉.objs.size := Nat.ne_of_lt (Heap.lt_size hIt9)
          refine for_range 3 (fun j s' => RSt w g L e te P Ld s [h₉.objs.size, It1] d (foldT q' ps i j) [(a, q')] (refCell a) (intCell i) anyCell s' ∧ s'.heap.get? It1 = some oI) hr₉ rfl (by decide) (by decide) rfl (fun o _ => ⟨st9.enterIt o, Heap.get?_push_of_some _ hIt9⟩) ?_ ?_ ?_ ?_
          · intro v; rfl
          · intro j s' h tk x htk hk; exact ⟨x.1.stab htk hk, hk _ _ (by simpa using hne) x.2⟩
          · rintro j t2 s' oJ hj3 ⟨st10, hIt10⟩ hJt
            clear st9
            obtain ⟨h, tk, m, pr, lr, nP, nL, o1, o2, o3, o4, o5, o6, td, es, hk1, F, hm, N, hc, hcells, hl, hpg, hold, hK, hX⟩ := st10
            subst es
            have F₅ := frAt _ F hm
            dsimp only [List.foldr] at F₅
            have N₅ := newsApp N (news_rest (M := RM L P Ld) (h := h))
            dsimp only [List.cons_append, List.nil_append] at N₅
            have off : OwnOff (rest g L (RM L P Ld) h) [P, Ld, L + 1 + 1 + 1 + 1 + 1 + 1, L + 1 + 1 + 1 + 1 + 1, L + 1 + 1 + 1 + 1, L + 1 + 1 + 1, L + 1 + 1, L + 1, L] := off_rest
            clear N hgk
            have hgk : Ext g h := F.keep
            obtain ⟨b1, ⟨tg, b2⟩, -⟩ := hc
            replace b1 : o1.data = .cell (some (.ref a)) := b1
            obtain ⟨-, -, ⟨vb3, b3⟩, ⟨vb4, b4⟩, ⟨vb5, b5⟩, ⟨vb6, b6⟩⟩ := hcells
            dsimp only
            rw [Int.zero_add]
            refine wpAny_assign_Name ?_
            repeat ((fail_if_success (with_reducible show wpAny _ _ (subscriptTail _ _ _ _) _ _ _)); first | walk1 | (dsimp only; walk1))
            rename_i h₁₀ o3' F₁₀ N₁₀ hc3
            have toKB : ∀ {h' : Heap} {m' : Str → Option Value} {u1 u2 u3 u4 u5 u6 u7 u8 : Addr × Obj}, Fr g L h' m' → News g L h' (u1 :: u2 :: u3 :: u4 :: u5 :: u6 :: u7 :: u8 :: rest g L (RM L P Ld) h) → KB (RM L P Ld) h h' :=
              fun F' N' => KB.rest F' hgk N' (fun _ hp => .tail _ (.tail _ (.tail _ (.tail _ (.tail _ (.tail _ (.tail _ (.tail _ hp)))))))) (by simp)
            obtain ⟨na, p0, p1, p2, hPa', hPn⟩ := hK _ (.head _)
            have hPm : a ∉ RM L P Ld := fun q => hPn (List.mem_append_right _ q)
            have pg : ∀ {h' : Heap}, KB (RM L P Ld) h h' → h'.IsList a #[.str (drow q'.1) p0, .str (drow q'.2.1) p1, .str (drow q'.2.2) p2] := fun kb => Heap.PlainList.isList ⟨na, kb _ _ hPm (hPa' _ (.head _)).1⟩
            obtain ⟨ti, hti⟩ := page_item q' p0 p1 p2 i hi3
            obtain ⟨tj, htj⟩ := page_item q' p0 p1 p2 j hj3
            have hsi := hokq.at i
            have hsj := hokq.at j
            have hdi := drow_len (q'.sz i)
            have hdj := drow_len (q'.sz j)
            refine item_list (pg (toKB F₁₀ N₁₀)) (by omega) (by omega) (by simpa using hti) ?_
            repeat ((fail_if_success (with_reducible show wpAny _ _ (subscriptTail _ _ _ _) _ _ _)); first | walk1 | (dsimp only; walk1))
            refine item_list (pg (toKB F₁₀ N₁₀)) (by omega) (by omega) (by simpa using htj) ?_
            repeat ((fail_if_success (with_reducible show wpAny _ _ (subscriptTail _ _ _ _) _ _ _)); (fail_if_success (with_reducible show And _ _)); first | walk1 | (dsimp only; walk1))
            rotate_left
            · rename_i hno
              have hno' : ¬ q'.sz i > q'.sz j + 1 := by omega
              have kb := toKB F₁₀ N₁₀
              refine wpAny_execs_nil (wpAny_execs_nil ?_)
              rw [foldT_succ, step1, if_neg hno']
              refine ⟨⟨?_, ?_⟩, ?_⟩
              · exact ⟨h₁₀, _, _, pr, lr, nP, nL, o1, o2, o3', o4, o5, o6, _, rfl, by dsimp only; omega, F₁₀, ⟨rfl, rfl, rfl, rfl, trivial⟩, newsSub N₁₀ (by k_allIn), ⟨b1, ⟨_, b2⟩, ⟨_, hc3⟩⟩, ⟨⟨_, b1⟩, ⟨_, b2⟩, ⟨_, hc3⟩, ⟨_, b4⟩, ⟨_, b5⟩, ⟨_, b6⟩⟩, hl, PgAll.kb hpg kb.app, hold.kb kb.app, (fun z hz => (hK z hz).kb kb.app), hX⟩
              · exact kb _ _ (hX _ (.tail _ (.head _))).2 hIt10
              · exact kb _ _ (hX _ (.head _)).2 hJt
            rename_i hyes
            have hyes' : q'.sz i > q'.sz j + 1 := by omega
            refine item_list (pg (toKB F₁₀ N₁₀)) (by omega) (by omega) (by simpa using hti) ?_
            repeat ((fail_if_success (with_reducible show wpAny _ _ (call (Value.builtin "str.replace") _) _ _ _)); first | walk1 | (dsimp only; walk1))
            refine withTk (by dsimp only; omega) ?_
            refine SC.replaceW (by show (_ : Nat) ≠ (0 : Nat); omega) (by show (_ : Nat) ≠ (0 : Nat); omega) (by show (_ : Nat) ≠ (_ : Nat); omega) (by decide) (by omega) (by decide) ?_
            intro t3 tk3 hk3
            rw [drow_blank]
            repeat ((fail_if_success (with_reducible show wpAny _ _ (call (Value.ref _) _) _ _ _)); first | walk1 | (dsimp only; walk1))
            have E₁₀ : Ext g h₁₀ := F₁₀.keep
            have R₁₀ := Rg.keeps E₁₀
            dsimp only at hk3
            refine withTk (by dsimp only; omega) ?_
            refine strip_spec R₁₀ ?_ (q'.sz i) 1 t3 _ (by omega) (by omega) ?_
            · show dp + 1 < _; omega
            intro t4 h₁₁ tk4 e₁₁ hk4
            dsimp only at hk4
            dsimp only at e₁₁
            have kb₁₁ : KB (RM L P Ld) h h₁₁ := (toKB F₁₀ N₁₀).trans (KB.of e₁₁)
            have F₁₁ := frKeep F₁₀ e₁₁
            have N₁₁ := newsKeep N₁₀ e₁₁
            clear F₁₀ N₁₀
            dsimp only
            repeat ((fail_if_success (with_reducible show wpAny _ _ (call (Value.builtin "str.replace") _) _ _ _)); first | walk1 | (dsimp only; walk1))
            have hbl := brow_len (q'.sz i - 1)
            refine withTk (by dsimp only; omega) ?_
            refine SC.replaceW (by show (_ : Nat) ≠ (0 : Nat); omega) (by show (_ : Nat) ≠ (0 : Nat); omega) (by show (_ : Nat) ≠ (_ : Nat); omega) (by decide) (by omega) (by decide) ?_
            intro t5 tk5 hk5
            dsimp only at hk5
            rw [brow_dot]
            repeat ((fail_if_success (with_reducible show wpAny _ _ (subscriptTail _ _ _ _) _ _ _)); first | walk1 | (dsimp only; walk1))
            rename_i h₁₂ o4' F₁₂ N₁₂ hc4
            refine item_list (pg (toKB F₁₂ N₁₂)) (by omega) (by omega) (by simpa using htj) ?_
            have hel : e.length ≤ 2 := by
              have : ∀ x ∈ ends, Str.length x ≤ 2 := by decide
              exact this e he
            repeat ((fail_if_success (with_reducible show wpAny _ _ (binaryOp _ _ _) _ _ _)); first | walk1 | (dsimp only; walk1))
            refine withTk (by dsimp only; omega) ?_
            repeat ((fail_if_success (with_reducible show wpAny _ _ (call (Value.ref _) _) _ _ _)); first | walk1 | (dsimp only; walk1))
            rename_i t6 tk6 _ hk6
            have E₁₂ : Ext g h₁₂ := F₁₂.keep
            have R₁₂ := Rg.keeps E₁₂
            refine withTk (by dsimp only at hk6 ⊢; omega) ?_
            refine quote_spec R₁₂ ?_ _ _ t6 (okQ_all (q'.sz j) (by omega) e he (by omega)) ?_
            · show dp + 1 < _; omega
            intro t7 h₁₃ tk7 e₁₃ hk7
            dsimp only at e₁₃ hk7
            have F₁₃ := frKeep F₁₂ e₁₃
            have N₁₃ := newsKeep N₁₂ e₁₃
            clear F₁₂ N₁₂
            dsimp only
            repeat ((fail_if_success (with_reducible show wpAny _ _ (subscriptTail _ _ _ _) _ _ _)); first | walk1 | (dsimp only; walk1))
            refine withTk (by dsimp only; omega) ?_
            refine slice_strN_ns (s := ⟨_, _, _, _, _⟩) F₁₃ N₁₃ ?_ (hsz := Nat.le_trans (cut_len (q'.sz j + 1) (by omega)) (by decide))
            intro h₁₄ t8 tk8 F₁₄ N₁₄ hk8
            rw [cut_row (q'.sz j + 1) (by omega)]
            clear F₁₃ N₁₃
            repeat ((fail_if_success (with_reducible show wpAny _ _ (exec (Stmt.Assign [Expr.Name _ _] (Expr.ListComp _ _ _ _) _) _) _ _ _)); first | walk1 | (dsimp only; walk1))
            rename_i h₁₅ o5' F₁₅ N₁₅ hc5
            replace hk8 : 1 ≤ tk8 := hk8
            refine withTk hk8 ?_
            have kb₁₅ := toKB F₁₅ N₁₅
            have E₁₅ : Ext g h₁₅ := F₁₅.keep
            have hMhas : ∀ b ∈ [h₉.objs.size, It1] ++ RM L P Ld, ∃ o, h₁₅.get? b = some o := by
              intro b hb
              rcases List.mem_append.mp hb with hb | hb
              · simp only [List.mem_cons, List.not_mem_nil, or_false] at hb
                rcases hb with rfl | rfl
                · exact ⟨_, kb₁₅ _ _ (hX _ (.head _)).2 hJt⟩
                · exact ⟨_, kb₁₅ _ _ (hX _ (.tail _ (.head _))).2 hIt10⟩
              · exact rm_has F₁₅ N₁₅ b hb
            refine assign_range (s := { s with heap := h₁₅, toks := tk8 }) (lo := 0) (hi := 3) 3 (fun k y => ∃ t, y = .str (drow (newSz q' i j k)) t) _ rfl rfl (by decide) rfl (by decide) rfl rfl rfl rfl rfl (by decide) (by decide) F₁₅.ns ?_ ?_ ?_
            · refine withTkN tk8 (Nat.le_refl _) ?_
              repeat ((fail_if_success (with_reducible show Exists _)); first | walk1 | (dsimp only; walk1))
              rename_i h₁₆ tk₁₆ t₁₆ u₁₆ v₁₆ hr₁₆ _ _ e₁₆ hk₁₆
              exact ⟨_, _, _, _, h₁₆, tk₁₆, rfl, rfl, hr₁₆, e₁₆, hk₁₆⟩
            · intro C kk t s₃ m₃ hC hkk hns hm e htk₃
              rw [Int.zero_add] at hm
              obtain ⟨oC, hoC, F₃, H₃, N₃⟩ := blockNews F₁₅ hC e hns
              have N₄ := newsApp N₃ (newsKeep N₁₅ e)
              have kb₃ : KB (RM L P Ld) h s₃.heap := kb₁₅.trans (KB.of e)
              clear F₁₅ N₁₅
              dsimp only [List.cons_append, List.nil_append] at N₄
              dsimp only at htk₃
              obtain ⟨tkk, htkk⟩ := page_item q' p0 p1 p2 kk hkk
              repeat ((fail_if_success (with_reducible show And _ _)); (fail_if_success (with_reducible show wpAny _ _ (subscriptTail _ _ _ _) _ _ _)); first | walk1 | (dsimp only; walk1))
              · rename_i hka
                have hka' : kk = i := by omega
                refine ⟨⟨t5, ?_⟩, ⟨_, _, rfl, fun _ _ q => q⟩⟩
                rw [newSz, if_pos hka']
              rename_i hka
              have hka' : ¬ kk = i := by omega
              repeat ((fail_if_success (with_reducible show And _ _)); (fail_if_success (with_reducible show wpAny _ _ (subscriptTail _ _ _ _) _ _ _)); first | walk1 | (dsimp only; walk1))
              · rename_i hkb
                have hkb' : kk = j := by omega
                refine ⟨⟨t8, ?_⟩, ⟨_, _, rfl, fun _ _ q => q⟩⟩
                rw [newSz, if_neg hka', if_pos hkb']
              rename_i hkb
              have hkb' : ¬ kk = j := by omega
              repeat ((fail_if_success (with_reducible show And _ _)); (fail_if_success (with_reducible show wpAny _ _ (subscriptTail _ _ _ _) _ _ _)); first | walk1 | (dsimp only; walk1))
              refine item_list (pg kb₃) (by omega) (by omega) (by simpa using htkk) ?_
              refine ⟨⟨tkk, ?_⟩, ⟨_, _, rfl, fun _ _ q => q⟩⟩
              rw [newSz, if_neg hka', if_neg hkb']
            · intro D h' tk' ys hD hpl hlen' hG hns hkL hk9
              have F₁₇ := frSet F₁₅ hns hkL
              have N₁₇ := newsSet N₁₅ hkL
              have e3 : ∃ u0 u1 u2, ys = #[.str (drow (gift q' i j).1) u0, .str (drow (gift q' i j).2.1) u1, .str (drow (gift q' i j).2.2) u2] := by
                obtain ⟨l⟩ := ys
                match l, hlen', hG with
                | [y0, y1, y2], _, hG =>
                  obtain ⟨u0, r0⟩ := hG 0 y0 rfl
                  obtain ⟨u1, r1⟩ := hG 1 y1 rfl
                  obtain ⟨u2, r2⟩ := hG 2 y2 rfl
                  rw [r0, r1, r2]
                  exact ⟨u0, u1, u2, rfl⟩
              obtain ⟨u0, u1, u2, rfl⟩ := e3
              obtain ⟨nD, hD'⟩ := id hpl
              have kb₁₇ := toKB F₁₇ N₁₇
              have hgi := hokq.gift i j hyes'
              clear F₁₅ N₁₅
              dsimp only at hk9 hD
              dsimp only
              have hMhas' : ∀ b ∈ [h₉.objs.size, It1] ++ RM L P Ld, ∃ o, h'.get? b = some o := by
                intro b hb
                rcases List.mem_append.mp hb with hb | hb
                · simp only [List.mem_cons, List.not_mem_nil, or_false] at hb
                  rcases hb with rfl | rfl
                  · exact ⟨_, kb₁₇ _ _ (hX _ (.head _)).2 hJt⟩
                  · exact ⟨_, kb₁₇ _ _ (hX _ (.tail _ (.head _))).2 hIt10⟩
                · exact rm_has F₁₇ N₁₇ b hb
              have hDM : D ∉ [h₉.objs.size, It1] ++ RM L P Ld := fun hm => by
                obtain ⟨o, ho⟩ := hMhas D hm
                rw [hD] at ho; cases ho
              have E₁₇ : Ext g h' := F₁₇.keep
              have hgD : g.get? D = none := by
                cases q : g.get? D with
                | none => rfl
                | some o =>
                  have := E₁₅ _ _ q
                  rw [hD] at this; cases this
              have R₁₇ := Rg.keeps E₁₇
              repeat ((fail_if_success (with_reducible show wpAny _ _ (call (Value.ref _) _) _ _ _)); first | walk1 | (dsimp only; walk1))
              have g1 := hgi.1
              have g2 := hgi.2.1
              have g3 := hgi.2.2
              refine lead_spec R₁₇ ?_ rfl ?_ D _ _ _ u0 u1 u2 hpl.isList (gift q' i j).1 (gift q' i j).2.1 (gift q' i j).2.2 (by omega) (by omega) (by omega) (lead_drow (by omega) (by omega) (by omega)) ?_
              · show dp + 1 + 5 < _; omega
              · dsimp only; omega
              intro x₁₈ h₁₈ tk₁₈ e₁₈ hk₁₈ hx₁₈
              dsimp only at e₁₈ hx₁₈
              have kb₁₈ : KB (RM L P Ld) h h₁₈ := kb₁₇.trans (KB.of e₁₈)
              have hPageD : PageM ([h₉.objs.size, It1] ++ RM L P Ld) g h₁₈ D (gift q' i j) := ⟨nD, u0, u1, u2, fun z hz => by
                rw [List.mem_singleton.mp hz]
                exact ⟨e₁₈ _ _ hD', hgD⟩, hDM⟩
              have hLead18 : LeadM w ([h₉.objs.size, It1] ++ RM L P Ld) g h₁₈ x₁₈ (leadSt (gift q' i j)) := leadM_of hx₁₈ E₁₇ hMhas'
              have F₁₈ := frKeep F₁₇ e₁₈
              have N₁₈ := newsApp (newsSub (news' := [(P, listOf (pr.map Value.ref).toArray nP), (Ld, listOf (lr.map Value.ref).toArray nL), (L + 1 + 1 + 1 + 1 + 1 + 1, o6), (L + 1 + 1 + 1 + 1 + 1, o5'), (L + 1 + 1 + 1 + 1, o4'), (L + 1 + 1 + 1, o3'), (L + 1 + 1, o2), (L + 1, o1)]) (newsKeep N₁₇ e₁₈) (by k_allIn)) (news_rest (M := RM L P Ld) (h := h₁₈))
              dsimp only [List.cons_append, List.nil_append] at N₁₈
              clear F₁₇ N₁₇ off
              have off : OwnOff (rest g L (RM L P Ld) h₁₈) [P, Ld, L + 1 + 1 + 1 + 1 + 1 + 1, L + 1 + 1 + 1 + 1 + 1, L + 1 + 1 + 1 + 1, L + 1 + 1 + 1, L + 1 + 1, L + 1, L] := off_rest
              have hgk18 : Ext g h₁₈ := F₁₈.keep
              dsimp only
              repeat ((fail_if_success (with_reducible show wpAny _ _ (eval (Expr.ListComp _ _ _ _) _) _ _ _)); first | walk1 | (dsimp only; walk1))
              rename_i h₁₉ o6' F₁₉ N₁₉ hc6
              have kb₁₉' : KB (RM L P Ld) h₁₈ h₁₉ := KB.rest F₁₉ hgk18 N₁₉ (fun _ hp => .tail _ (.tail _ (.tail _ (.tail _ (.tail _ (.tail _ (.tail _ (.tail _ hp)))))))) (by simp)
              have kb₁₉ : KB (RM L P Ld) h h₁₉ := kb₁₈.trans kb₁₉'
              have hPg19 := PgAll.kb hpg kb₁₉.app
              have hLead19 := hLead18.kb kb₁₉'.app
              have hl19 : h₁₉.IsList Ld (lr.map Value.ref).toArray := Heap.PlainList.isList ⟨nL, (N₁₉ _ (.tail _ (.head _))).1⟩
              have hps2 := foldT_len q' ps i j
              refine withTk (by dsimp only; omega) ?_
              refine comp_list (eqTest lr (foldT q' ps i j) (leadSt (gift q' i j))) (fun v y => y = .bool true) (cl := [(Str.ofString "lead", L + 1 + 1 + 1 + 1 + 1 + 1)]) rfl (by decide) rfl (by decide) rfl rfl (fun Q' hq => ?_) hl19 ?_ ?_ ?_ ?_
              · walk1
                exact hq
              · simp; omega
              · intro C i₂ v s₃ m₃ hC hv hns hm₂ e₂₀ htk₃
                refine tests_one ?_
                obtain ⟨oC, hoC, F₃, H₃, N₃⟩ := blockNews F₁₉ hC e₂₀ hns
                have hv' : ∃ a₂ r₂, v = .ref a₂ ∧ lr[i₂]? = some a₂ ∧ (foldT q' ps i j)[i₂]? = some r₂ := by
                  simp only [List.getElem?_toArray, List.getElem?_map, Option.map_eq_some_iff] at hv
                  obtain ⟨a₂, h1, h2⟩ := hv
                  have hlt : i₂ < lr.length := by
                    rcases Nat.lt_or_ge i₂ lr.length with q | q
                    · exact q
                    · rw [List.getElem?_eq_none q] at h1; cases h1
                  exact ⟨a₂, _, h2.symm, h1, List.getElem?_eq_getElem (by rw [← hl.2]; exact hlt)⟩
                obtain ⟨a₂, r₂, rfl, ha₂, hr₂⟩ := hv'
                rw [eqTest_at hPg19 _ i₂ a₂ r₂ ha₂ hr₂]
                obtain ⟨_, x₂, _, hx₂, _, hLx₂⟩ := hPg19 i₂ r₂ hr₂
                rw [ha₂] at hx₂
                injection hx₂ with hx₂
                subst hx₂
                have L₁ := (hLx₂.kb (KB.of e₂₀)).lead
                have L₂ := (hLead19.kb (KB.of e₂₀)).lead
                have E₃ : Ext g s₃.heap := F₃.keep
                have R₃ := Rg.keeps E₃
                obtain ⟨_, ⟨dx, D1, D', vs, tb, tn, tt, k1, k2, k3, k4, k5, raw, simple, rfl, hi1, hv1⟩, H1, hM1, _⟩ := hLx₂.kb (KB.of e₂₀)
                have N₄ := newsApp (newsApp N₃ (newsOf H1 hM1 (by simp))) (newsKeep N₁₉ e₂₀)
                clear F₁₉ N₁₉
                dsimp only [List.cons_append, List.nil_append] at N₄
                dsimp only at htk₃
                repeat ((fail_if_success (with_reducible show And _ _)); (fail_if_success (with_reducible show wpAny _ _ (call (Value.ref _) _) _ _ _)); first | walk1 | (dsimp only; walk1))
                refine ⟨R₃.X, ?_⟩
                refine equal_spec (h₀ := g) Rg ?_ ?_ ?_ ?_ a₂ x₁₈ (leadSt r₂) (leadSt (gift q' i j)) ?_ ?_ ?_
                rotate_left 3
                rotate_left 1
                · exact L₁
                · exact L₂
                rotate_left 1
                · exact E₃
                · show dp + 1 + 5 < _; omega
                · rfl
                · show un + 3 + 100 < cLine; omega
                intro h₂₀ tk₂₀ e₂₁
                have F₄ := frKeep F₃ e₂₁
                have N₅ := newsKeep N₄ e₂₁
                clear F₃ N₄
                repeat ((fail_if_success (with_reducible show And _ _)); first | walk1 | (dsimp only; walk1))
                k_unfold
                exact ⟨by cases sameNorm (leadSt r₂) (leadSt (gift q' i j)) <;> rfl, keeps_of e₂₁⟩
              · intro C i₂ v s₃ m₃ hC hv hp hns hm₂ e₂₀ htk₃
                repeat ((fail_if_success (with_reducible show And _ _)); first | walk1 | (dsimp only; walk1))
                exact ⟨rfl, ⟨_, _, rfl, fun _ _ q => q⟩⟩
              · intro D₂ h₂₁ tk₂₁ ys hD₂ hpl₂ hpair e₂₁ hk₂₁
                have F₂₁ := frKeep F₁₉ e₂₁
                obtain ⟨nD₂, hD₂'⟩ := id hpl₂
                have HD₂ : Has h₁₉ h₂₁ [(D₂, listOf ys nD₂)] := fun z hz => by
                  rw [List.mem_singleton.mp hz]
                  exact ⟨hD₂', hD₂⟩
                have N₂₁ := newsApp (HD₂.news F₁₉) (newsKeep N₁₉ e₂₁)
                dsimp only [List.cons_append, List.nil_append] at N₂₁
                have hys : ∀ y ∈ ys.toList, y = .bool true := fun y hy => by
                  obtain ⟨_, r⟩ := hpair.right y hy
                  exact r
                have hylen := hpair.length
                clear F₁₉ N₁₉
                dsimp only at hk₂₁ e₂₁ hD₂
                dsimp only
                repeat ((fail_if_success (with_reducible show wpAny _ _ (compareOp _ _ _) _ _ _)); first | walk1 | (dsimp only; walk1))
                rename_i l₂₂ h₂₂ F₂₂ N₂₂ l1₂₂
                refine eq_dataH (trues_reads (N₂₂ _ (.tail _ (.head _))).1 hys) (trues_reads (N₂₂ _ (.head _)).1 (by intro y hy; simp at hy)) (trues_shaped _) (trues_shaped _) (by show un + 3 + 64 < cLine; omega) ?_
                rw [show List.replicate (#[] : Array Value).toList.length (PyData.bool true) = [] from rfl, trues_eqv]
                repeat ((fail_if_success (with_reducible show And _ _)); (fail_if_success (with_reducible show wpAny _ _ (call (Value.builtin "list.append") _) _ _ _)); first | walk1 | (dsimp only; walk1))
                · rename_i hnone
                  have N₂₃ := newsSub (news' := (P, listOf (pr.map Value.ref).toArray nP) :: (Ld, listOf (lr.map Value.ref).toArray nL) :: (L + 1 + 1 + 1 + 1 + 1 + 1, o6') :: (L + 1 + 1 + 1 + 1 + 1, o5') :: (L + 1 + 1 + 1 + 1, o4') :: (L + 1 + 1 + 1, o3') :: (L + 1 + 1, o2) :: (L + 1, o1) :: rest g L (RM L P Ld) h₁₈) N₂₂ (fun p hp => .tail _ (.tail _ hp))
                  clear N₂₂ l1₂₂
                  repeat ((fail_if_success (with_reducible show And _ _)); first | walk1 | (dsimp only; walk1))
                  rename_i _ h₂₄ F₂₄ N₂₄
                  have kb₂₄' : KB (RM L P Ld) h₁₈ h₂₄ := KB.rest F₂₄ hgk18 N₂₄ (fun _ hp => .tail _ (.tail _ (.tail _ (.tail _ (.tail _ (.tail _ (.tail _ (.tail _ hp)))))))) (by simp)
                  have kb₂₄ : KB (RM L P Ld) h h₂₄ := kb₁₈.trans kb₂₄'
                  have hany := (eqTest_any hPg19 hl.2 (leadSt (gift q' i j))).mp (List.length_eq_zero_iff.mp (by simpa using hylen.trans hnone))
                  have ep : (pr.map Value.ref).toArray.push (.ref D) = ((pr ++ [D]).map Value.ref).toArray := by simp
                  have el : (lr.map Value.ref).toArray.push (.ref x₁₈) = ((lr ++ [x₁₈]).map Value.ref).toArray := by simp
                  rw [ep, el] at N₂₄
                  rw [foldT_succ, step1, if_pos hyes', if_neg (by rw [hany]; decide)]
                  refine ⟨⟨?_, ?_⟩, ?_⟩
                  · exact ⟨h₂₄, _, _, pr ++ [D], lr ++ [x₁₈], nP + 1, nL + 1, o1, o2, o3', o4', o5', o6', _, rfl, by dsimp only; omega, F₂₄, ⟨rfl, rfl, rfl, rfl, trivial⟩, newsSub N₂₄ (by k_allIn), ⟨b1, ⟨_, b2⟩, ⟨_, hc3⟩⟩, ⟨⟨_, b1⟩, ⟨_, b2⟩, ⟨_, hc3⟩, ⟨_, hc4⟩, ⟨_, hc5⟩, ⟨_, hc6⟩⟩, ⟨by simp [hl.1], by simp [hl.2]⟩,
                      PgAll.snoc (PgAll.kb hpg kb₂₄.app) hl.1 hl.2 (hPageD.kb kb₂₄'.app) (hLead18.kb kb₂₄'.app), hold.kb kb₂₄.app, (fun z hz => (hK z hz).kb kb₂₄.app), hX⟩
                  · exact kb₂₄ _ _ (hX _ (.tail _ (.head _))).2 hIt10
                  · exact kb₂₄ _ _ (hX _ (.head _)).2 hJt
                · rename_i hsome
                  have hany : (foldT q' ps i j).any (fun r => sameNorm (leadSt r) (leadSt (gift q' i j))) = true := by
                    cases hb : (foldT q' ps i j).any (fun r => sameNorm (leadSt r) (leadSt (gift q' i j))) with
                    | true => rfl
                    | false =>
                      have := (eqTest_any hPg19 hl.2 (leadSt (gift q' i j))).mpr hb
                      exact absurd (by rw [← hylen]; simp [this]) hsome
                  have N₂₃ := newsSub (news' := (P, listOf (pr.map Value.ref).toArray nP) :: (Ld, listOf (lr.map Value.ref).toArray nL) :: (L + 1 + 1 + 1 + 1 + 1 + 1, o6') :: (L + 1 + 1 + 1 + 1 + 1, o5') :: (L + 1 + 1 + 1 + 1, o4') :: (L + 1 + 1 + 1, o3') :: (L + 1 + 1, o2) :: (L + 1, o1) :: rest g L (RM L P Ld) h₁₈) N₂₂ (fun p hp => .tail _ (.tail _ hp))
                  have kb₂₄' : KB (RM L P Ld) h₁₈ h₂₂ := KB.rest F₂₂ hgk18 N₂₃ (fun _ hp => .tail _ (.tail _ (.tail _ (.tail _ (.tail _ (.tail _ (.tail _ (.tail _ hp)))))))) (by simp)
                  have kb₂₄ : KB (RM L P Ld) h h₂₂ := kb₁₈.trans kb₂₄'
                  refine wpAny_execs_nil (wpAny_execs_nil (wpAny_execs_nil ?_))
                  rw [foldT_succ, step1, if_pos hyes', if_pos hany]
                  refine ⟨⟨?_, ?_⟩, ?_⟩
                  · exact ⟨h₂₂, _, _, pr, lr, nP, nL, o1, o2, o3', o4', o5', o6', _, rfl, by dsimp only; omega, F₂₂, ⟨rfl, rfl, rfl, rfl, trivial⟩, newsSub N₂₃ (by k_allIn), ⟨b1, ⟨_, b2⟩, ⟨_, hc3⟩⟩, ⟨⟨_, b1⟩, ⟨_, b2⟩, ⟨_, hc3⟩, ⟨_, hc4⟩, ⟨_, hc5⟩, ⟨_, hc6⟩⟩, hl,
                      PgAll.kb hpg kb₂₄.app, hold.kb kb₂₄.app, (fun z hz => (hK z hz).kb kb₂₄.app), hX⟩
                  · exact kb₂₄ _ _ (hX _ (.tail _ (.head _))).2 hIt10
                  · exact kb₂₄ _ _ (hX _ (.head _)).2 hJt
          · intro s' x
            exact ⟨rfl, x.1.leave.any3, x.2⟩
        · rintro f s' ⟨rfl, x, y⟩
          exact wpAny_execs_nil ⟨x, y⟩
      · intro s' x
        have x' : RSt w g L e te P Ld s [] d (stepP q' pages) [(a, q')] (refCell a) anyCell anyCell s' := x.leave
        exact ⟨rfl, x'.any1⟩
    · rintro f s' ⟨rfl, st7⟩
      clear st6 F₆ N₆ off
      obtain ⟨h, tk, m, pr, lr, nP, nL, o1, o2, o3, o4, o5, o6, td, rfl, hk1, F, hm, N, -, hcells, hl, hpg, hold, hK, hX⟩ := st7
      have F₅ := frAt _ F hm
      dsimp only [List.foldr] at F₅
      have N₅ := newsApp N (news_rest (M := RM L P Ld) (h := h))
      dsimp only [List.cons_append, List.nil_append] at N₅
      clear N hgk
      have hgk : Ext g h := F.keep
      repeat ((fail_if_success (with_reducible show Exists _)); first | walk1 | (dsimp only; walk1))
      rename_i h₇ F₇ N₇
      have hKB : KB (RM L P Ld) h h₇ := KB.rest F₇ hgk N₇ (fun _ hp => .tail _ (.tail _ (.tail _ (.tail _ (.tail _ (.tail _ (.tail _ (.tail _ hp)))))))) (by simp)
      refine ⟨k, Nat.lt_succ_self _, d + 1, stepP q' pages, hrc, ?_, ?_, ?_⟩
      · exact foldG_ok hokq hok 3
      · have := stepP_len q' pages; omega
      · exact ⟨h₇, _, _, pr, lr, nP, nL, o1, o2, o3, o4, o5, o6, _, rfl, by dsimp only; omega, F₇, ⟨rfl, rfl, rfl, rfl, trivial⟩, newsSub N₇ (by k_allIn), ⟨hcells.1, hcells.2.1, hcells.2.2.1⟩, hcells, hl, PgAll.kb hpg hKB, hold.kb hKB, (fun z hz => by cases hz), hX⟩
  · rintro f s' ⟨rfl, d, h, tk, m, pr, lr, nP, nL, o1, o2, o3, o4, o5, o6, td, rfl, hk1, F, hm, N, -, hcells, ⟨hpl, hll⟩, hpg, hold, hK, hX⟩
    clear FW NW start
    have F₅ := frAt _ F hm
    dsimp only [List.foldr] at F₅
    dsimp only
    k_steps
    have hE : Ext s.heap h := fun b o e => (hold b o e).2
    refine hret Ld h _ lr nL out hout hE (by assumption) ?_ hll ?_
    · intro z hz
      rw [List.mem_singleton.mp hz]
      refine ⟨(N _ (by k_memK)).1, ?_⟩
      cases hc : s.heap.get? Ld with
      | none => rfl
      | some o => exact absurd (by simp) (hold _ _ hc).1
    · intro i r hi
      obtain ⟨a, x, h1, h2, h3, h4⟩ := hpg i r hi
      refine ⟨x, h2, ?_⟩
      obtain ⟨l, f, H, ha, hc⟩ := h4.more (M' := [Ld]) (fun b hb => .inl (by rw [List.mem_singleton.mp hb]; simp))
      refine ⟨l, f, fun z hz => ⟨(H z hz).1, ?_⟩, ha, hc⟩
      cases hs : s.heap.get? z.1 with
      | none => rfl
      | some o =>
        exfalso
        by_cases hz' : z.1 = p
        · have e1 := (H z hz).1
          have e2 := hE _ _ (hp _ (.head _)).1
          dsimp only at e2
          rw [hz', e2] at e1
          injection e1 with e1
          exact hc z hz (by rw [← e1])
        · have := sg _ _ hs (by simpa using hz')
          rw [(H z hz).2] at this
          cases this
end Mine
end
section
open PySem PySem.W PyProof.Rows PySem.Calls
namespace Mine
def leftN (q : P3) (k : Nat) : Nat := (wsRun (wsL (q.1 - k) ++ wsL (q.2.1 - k) ++ wsL (q.2.2 - k))).n
def runsN (q : P3) : Nat := max ((leadSt q).cnt.length - 1) (leadSt q).b
def wholeN (q : P3) : Nat := q.1 + q.2.1 + q.2.2
def loN (q : P3) : Nat := min q.1 (min q.2.1 q.2.2)
def hiN (q : P3) : Nat := max q.1 (max q.2.1 q.2.2)
def pageOf (q : P3) (h l : Nat) : P3 := (h, wholeN q - h - l, l)
def dueB (q : P3) (h l : Nat) : Bool := decide (h ≤ hiN q) && decide (loN q ≤ l)
def cameN (out : List P3) (p : P3) : Nat := (out.filter fun r => sameNorm (leadSt r) (leadSt p)).length
def leftB (q p : P3) : Bool := (List.range (runsN q)).all fun k => decide (leftN p (k + 1) ≤ leftN q (k + 1))
abbrev fits (q : P3) (h l : Nat) : Prop := l ≤ wholeN q - h - l ∧ wholeN q - h - l ≤ h
def turnCame (q : P3) (out : List P3) (h l : Nat) : Nat := if fits q h l then cameN out (pageOf q h l) else 0
def okTurn (q : P3) (out : List P3) (h l : Nat) : Bool := if fits q h l then decide (cameN out (pageOf q h l) = if dueB q h l then 1 else 0) && (leftB q (pageOf q h l) == dueB q h l) else true
def innerSum (q : P3) (out : List P3) (h : Nat) : Nat → Nat
  | 0 => 0
  | j + 1 => innerSum q out h j + turnCame q out h (j + 1)
def outerSum (q : P3) (out : List P3) : Nat → Nat
  | 0 => 0
  | i + 1 => outerSum q out i + innerSum q out (i + 1) (i + 1)
def lawOK (q : P3) : Bool := match reach 30 0 [q] with
  | none => false
  | some out => decide (out[0]? = some q) && decide (out.length ≤ 100) && decide (runsN q ≤ 5) && ((List.range (wholeN q - 2)).all fun i => (List.range (i + 1)).all fun j => okTurn q out (i + 1) (j + 1)) && decide (outerSum q out (wholeN q - 2) = out.length)
theorem lawDec1 : ((List.range 6).all fun b => (List.range 6).all fun c => decide (b = 0) || decide (c = 0) || lawOK (1, b, c)) = true := by decide +kernel
theorem lawDec2 : ((List.range 6).all fun b => (List.range 6).all fun c => decide (b = 0) || decide (c = 0) || lawOK (2, b, c)) = true := by decide +kernel
theorem lawDec3 : ((List.range 6).all fun b => (List.range 6).all fun c => decide (b = 0) || decide (c = 0) || lawOK (3, b, c)) = true := by decide +kernel
theorem lawDec4 : ((List.range 6).all fun b => (List.range 6).all fun c => decide (b = 0) || decide (c = 0) || lawOK (4, b, c)) = true := by decide +kernel
theorem lawDec5 : ((List.range 6).all fun b => (List.range 6).all fun c => decide (b = 0) || decide (c = 0) || lawOK (5, b, c)) = true := by decide +kernel
theorem law_pick {a b c : Nat} (h : ((List.range 6).all fun b => (List.range 6).all fun c => decide (b = 0) || decide (c = 0) || lawOK (a, b, c)) = true) (hb : 1 ≤ b ∧ b ≤ 5) (hc : 1 ≤ c ∧ c ≤ 5) : lawOK (a, b, c) = true := by
  have h2 := List.all_eq_true.mp h b (List.mem_range.mpr (by omega))
  have h3 := List.all_eq_true.mp h2 c (List.mem_range.mpr (by omega))
  simp only [Bool.or_eq_true, decide_eq_true_eq] at h3
  rcases h3 with (h3 | h3) | h3
  · omega
  · omega
  · exact h3
theorem law_all {q : P3} (h : okP q) : lawOK q = true := by
  obtain ⟨a, b, c⟩ := q
  obtain ⟨ha, hb, hc⟩ := h
  dsimp only at ha hb hc
  have : a = 1 ∨ a = 2 ∨ a = 3 ∨ a = 4 ∨ a = 5 := by omega
  rcases this with rfl | rfl | rfl | rfl | rfl
  · exact law_pick lawDec1 hb hc
  · exact law_pick lawDec2 hb hc
  · exact law_pick lawDec3 hb hc
  · exact law_pick lawDec4 hb hc
  · exact law_pick lawDec5 hb hc
structure LawFacts (q : P3) (out : List P3) : Prop where
  zero : out[0]? = some q
  len : out.length ≤ 100
  runs : runsN q ≤ 5
  turn : ∀ i j, i < wholeN q - 2 → j < i + 1 → okTurn q out (i + 1) (j + 1) = true
  sum : outerSum q out (wholeN q - 2) = out.length
theorem law_facts {q : P3} {out : List P3} (h : okP q) (ho : reach 30 0 [q] = some out) : LawFacts q out := by
  have e := law_all h
  unfold lawOK at e
  rw [ho] at e
  simp only [Bool.and_eq_true, decide_eq_true_eq] at e
  obtain ⟨⟨⟨⟨e1, e2⟩, e3⟩, e4⟩, e5⟩ := e
  exact ⟨e1, e2, e3, fun i j hi hj => List.all_eq_true.mp (List.all_eq_true.mp e4 i (List.mem_range.mpr hi)) j (List.mem_range.mpr hj), e5⟩
theorem turn_ok {q : P3} {out : List P3} (f : LawFacts q out) {i j : Nat} (hi : i < wholeN q - 2) (hj : j < i + 1) (hf : fits q (i + 1) (j + 1)) :
    cameN out (pageOf q (i + 1) (j + 1)) = (if dueB q (i + 1) (j + 1) then 1 else 0) ∧ leftB q (pageOf q (i + 1) (j + 1)) = dueB q (i + 1) (j + 1) := by
  have e := f.turn i j hi hj
  unfold okTurn at e
  rw [if_pos hf, Bool.and_eq_true, decide_eq_true_eq, beq_iff_eq] at e
  exact e
end Mine
end
section
open PySem PySem.W PyProof.Rows PySem.Calls
set_option maxRecDepth 100000
namespace Mine
def dots (n : Nat) : Str := ⟨(List.replicate n 46).toArray⟩
theorem dots_len (n : Nat) : (dots n).length = n := by simp [dots, Str.length]
theorem dots_mul : ∀ n < 21, Txt.mul (Str.ofString ".") ((n : Nat) : Int) = dots n := by decide +kernel
theorem dots_row : ∀ n < 21, dots n ++ Str.ofString "a" = drow n := by decide +kernel
theorem cellsNe {g h : Heap} {L : Nat} {D : Addr} {o1 o2 o3 o4 : Obj} (N : News g L h [(L + 1 + 1 + 1 + 1, o4), (L + 1 + 1 + 1, o3), (L + 1 + 1, o2), (L + 1, o1)]) (hD : h.get? D = none) :
    @Ne Nat D (L + 1 + 1 + 1 + 1) ∧ @Ne Nat D (L + 1 + 1 + 1) ∧ @Ne Nat D (L + 1 + 1) ∧ @Ne Nat D (L + 1) := by
  have key : ∀ p ∈ [(L + 1 + 1 + 1 + 1, o4), (L + 1 + 1 + 1, o3), (L + 1 + 1, o2), (L + 1, o1)], @Ne Nat D p.1 := fun p hp q => by
    have := (N p hp).1
    rw [← show D = p.1 from q, hD] at this
    cases this
  exact ⟨key _ (.head _), key _ (.tail _ (.head _)), key _ (.tail _ (.tail _ (.head _))), key _ (.tail _ (.tail _ (.tail _ (.head _))))⟩
theorem LeadM.rebase {w : World} {M₀ M : List Addr} {g h₁ h : Heap} {a : Addr} {st : WS} (x : LeadM w M₀ h₁ h a st) (e : Ext g h₁) (hM : ∀ b ∈ M, ∃ o, h₁.get? b = some o) : LeadM w M g h a st := by
  obtain ⟨l, f, H, _, hc⟩ := x
  refine ⟨l, f, H.base e, fun p hp hm => ?_, hc⟩
  obtain ⟨o, ho⟩ := hM _ hm
  have := (H p hp).2
  rw [ho] at this
  cases this
/-- what a turn of law may change -/
abbrev LM (L : Addr) : List Addr := [L + 1 + 1 + 1 + 1, L + 1 + 1 + 1, L + 1 + 1, L + 1, L]
theorem lm_has {g h : Heap} {L : Addr} {m : Str → Option Value} {o1 o2 o3 o4 : Obj} (F : Fr g L h m) (N : News g L h [(L + 1 + 1 + 1 + 1, o4), (L + 1 + 1 + 1, o3), (L + 1 + 1, o2), (L + 1, o1)]) : ∀ b ∈ LM L, ∃ o, h.get? b = some o := by
  intro b hb
  simp only [List.mem_cons, List.not_mem_nil, or_false] at hb
  rcases hb with rfl | rfl | rfl | rfl | rfl
  · exact ⟨_, (N _ (.head _)).1⟩
  · exact ⟨_, (N _ (.tail _ (.head _))).1⟩
  · exact ⟨_, (N _ (.tail _ (.tail _ (.head _)))).1⟩
  · exact ⟨_, (N _ (.tail _ (.tail _ (.tail _ (.head _))))).1⟩
  · obtain ⟨oL, _, _, hL', _⟩ := F.ns; exact ⟨oL, hL'⟩
abbrev LeadsAll (w : World) (g h : Heap) (M : List Addr) (out : List P3) (lr : List Addr) : Prop := ∀ (i : Nat) (r : P3), out[i]? = some r → ∃ x : Addr, lr[i]? = some x ∧ LeadM w M g h x (leadSt r)
theorem LeadsAll.kb {w : World} {g h h' : Heap} {M : List Addr} {out : List P3} {lr : List Addr} (x : LeadsAll w g h M out lr) (k : KB M h h') : LeadsAll w g h' M out lr := fun i r hi => by
  obtain ⟨a, h1, h2⟩ := x i r hi
  exact ⟨a, h1, h2.kb k⟩
theorem sorted3 {a b c : Nat} {l : List Int} (hp : l.Perm [(a : Int), b, c]) (hs : l.Pairwise (· ≤ ·)) : ∃ r : Int, l = [((loN (a, b, c) : Nat) : Int), r, ((hiN (a, b, c) : Nat) : Int)] := by
  have hl := hp.length_eq
  match l, hl with
  | [x, y, z], _ =>
    have h1 : (a : Int) ∈ [x, y, z] := hp.mem_iff.mpr (by simp)
    have h2 : (b : Int) ∈ [x, y, z] := hp.mem_iff.mpr (by simp)
    have h3 : (c : Int) ∈ [x, y, z] := hp.mem_iff.mpr (by simp)
    have h4 : x ∈ [(a : Int), b, c] := hp.mem_iff.mp (by simp)
    have h5 : z ∈ [(a : Int), b, c] := hp.mem_iff.mp (by simp)
    simp only [List.pairwise_cons, List.mem_cons, List.not_mem_nil, or_false, forall_eq_or_imp, forall_eq] at h1 h2 h3 h4 h5 hs
    obtain ⟨⟨s1, s2⟩, s3, -⟩ := hs
    refine ⟨y, ?_⟩
    have a1 : x ≤ a ∧ (a : Int) ≤ z := by rcases h1 with h | h | h <;> rw [h] <;> exact ⟨by omega, by omega⟩
    have b1 : x ≤ b ∧ (b : Int) ≤ z := by rcases h2 with h | h | h <;> rw [h] <;> exact ⟨by omega, by omega⟩
    have c1 : x ≤ c ∧ (c : Int) ≤ z := by rcases h3 with h | h | h <;> rw [h] <;> exact ⟨by omega, by omega⟩
    clear hp hl h1 h2 h3 s1 s2 s3
    have e1 : x = ((loN (a, b, c) : Nat) : Int) := by
      show x = ((min a (min b c) : Nat) : Int)
      clear h5
      rcases h4 with rfl | rfl | rfl <;> omega
    have e2 : z = ((hiN (a, b, c) : Nat) : Int) := by
      show z = ((max a (max b c) : Nat) : Int)
      clear h4 e1
      rcases h5 with rfl | rfl | rfl <;> omega
    rw [e1, e2]
theorem none_size {h : Heap} {C : Nat} (hC : h.objs.size ≤ C) : h.get? C = none := by
  cases q : h.get? C with
  | none => rfl
  | some o => exact absurd (Nat.lt_of_lt_of_le (Heap.lt_size q) hC) (Nat.lt_irrefl _)
theorem paired3 {F : Value → Value → Prop} {v0 v1 v2 : Value} {l : List Value} (h : Paired F [v0, v1, v2] l) : ∃ y0 y1 y2, l = [y0, y1, y2] ∧ F v0 y0 ∧ F v1 y1 ∧ F v2 y2 := by
  cases h with
  | cons h0 h =>
    cases h with
    | cons h1 h =>
      cases h with
      | cons h2 h =>
        cases h
        exact ⟨_, _, _, rfl, h0, h1, h2⟩
/-- a row's size, of a number of the script -/
def szZ (x : Int) : Nat := (1 + x % 5).toNat
theorem szZ_cast (x : Int) : ((szZ x : Nat) : Int) = 1 + x % 5 := by unfold szZ; omega
theorem szZ_le (x : Int) : 1 ≤ szZ x ∧ szZ x ≤ 5 := by unfold szZ; omega

open Classical in
theorem eqTest_atL {w : World} {g h : Heap} {M : List Addr} {ps : List P3} {lr : List Addr} (x : LeadsAll w g h M ps lr) (tgt : WS) (i : Nat) (a : Addr) (r : P3) (ha : lr[i]? = some a) (hr : ps[i]? = some r) : eqTest lr ps tgt (.ref a) = sameNorm (leadSt r) tgt := by
  have key : (∃ (i : Nat) (a' : Addr) (r : P3), lr[i]? = some a' ∧ ps[i]? = some r ∧ Value.ref a = .ref a' ∧ sameNorm (leadSt r) tgt = true) ↔ sameNorm (leadSt r) tgt = true := by
    constructor
    · rintro ⟨i', a', r', h1, h2, h3, h4⟩
      injection h3 with h3
      subst h3
      obtain ⟨b1, c1, l1⟩ := x i r hr
      obtain ⟨b2, c2, l2⟩ := x i' r' h2
      rw [ha] at c1; cases c1
      rw [h1] at c2; cases c2
      obtain ⟨u1, u2⟩ := lead_uniq l1.lead l2.lead
      rw [← h4]
      unfold sameNorm
      rw [u1, u2]
    · intro hs
      exact ⟨i, a, r, ha, hr, rfl, hs⟩
  unfold eqTest
  cases hb : sameNorm (leadSt r) tgt with
  | true => exact decide_eq_true (key.mpr hb)
  | false => exact decide_eq_false fun q => by rw [key.mp q] at hb; cases hb
theorem filter_len {α β : Type} (p : α → Bool) (p' : β → Bool) : ∀ (l : List α) (l' : List β), l.length = l'.length → (∀ (i : Nat) (a : α) (b : β), l[i]? = some a → l'[i]? = some b → p a = p' b) → (l.filter p).length = (l'.filter p').length
  | [], [], _, _ => rfl
  | a :: l, b :: l', hl, h => by
    have h0 := h 0 a b rfl rfl
    have ih := filter_len p p' l l' (by simpa using hl) fun i x y hx hy => h (i + 1) x y (by simpa using hx) (by simpa using hy)
    rw [List.filter_cons, List.filter_cons, h0]
    split
    · rw [List.length_cons, List.length_cons, ih]
    · exact ih
theorem came_count {w : World} {g h : Heap} {M : List Addr} {out : List P3} {lr : List Addr} (x : LeadsAll w g h M out lr) (hl : lr.length = out.length) (p : P3) : ((lr.map Value.ref).filter (eqTest lr out (leadSt p))).length = cameN out p := by
  unfold cameN
  refine filter_len _ _ _ _ (by simpa using hl) fun i a b ha hb => ?_
  rw [List.getElem?_map, Option.map_eq_some_iff] at ha
  obtain ⟨a', h1, rfl⟩ := ha
  exact eqTest_atL x _ i a' b h1 hb
theorem bools_all {h : Heap} : ∀ (bs : List Bool), ReadsAll h (bs.map Value.bool) (bs.map PyData.bool) []
  | [] => .nil
  | b :: r => ReadsAll.cons (as := []) (bs := []) (Reads.bool b) (bools_all r)
theorem bools_lay : ∀ bs : List Bool, PyData.canLayAll0 (bs.map PyData.bool) = true
  | [] => rfl
  | b :: r => by simp [PyData.canLayAll0, PyData.canLay0, bools_lay r]
theorem bools_any : ∀ bs : List Bool, ((bs.map PyData.bool).any fun y => PyData.eqv y (.bool false)) = !(bs.all fun b => b)
  | [] => rfl
  | b :: r => by
    rw [List.map_cons, List.any_cons, List.all_cons, bools_any r]
    cases b <;> simp [PyData.eqv]
theorem list_range {ys : List Value} {n : Nat} {f : Nat → Value} (hl : ys.length = n) (h : ∀ (i : Nat) y, ys[i]? = some y → y = f i) : ys = (List.range n).map f := by
  apply List.ext_getElem?
  intro i
  by_cases hi : i < n
  · obtain ⟨y, hy⟩ : ∃ y, ys[i]? = some y := ⟨ys[i]'(by omega), List.getElem?_eq_getElem (by omega)⟩
    rw [hy, h i y hy]
    simp [hi]
  · rw [List.getElem?_eq_none (by omega), List.getElem?_eq_none (by simp; omega)]
theorem notIn_bools {prog : Program} {w : World} {A : Around} {E : Value → Shared → Prop} {s : Shared} {D : Addr} {ys : Array Value} {n : Nat} {bs : List Bool} {Q : Value → Shared → Prop} (hd : s.heap.get? D = some (listOf ys n)) (hb : ys.toList = bs.map Value.bool) (hu : A.units + 10 < cLine)
    (h : Q (.bool (bs.all fun b => b)) s) : wpAny (model prog w) A (compareOp .NotIn (.bool false) (.ref D)) Q E s := by
  refine SeqAt.notIn_list_reads (Reads.list hd rfl rfl (hb ▸ bools_all bs)) (Reads.bool false) (bools_lay bs) rfl ?_ ?_
  · have : PyData.depth (.bool false) = 0 := rfl
    rw [this]
    omega
  · rw [bools_any, Bool.not_not]
    exact h
section
variable {prog : Program} {w : World} {A : Around} {env : Env} {s : Shared} {elt iter : Expr} {x : Str} {px : Pos} {scope : Scope} {cl : List (Str × Addr)} {pos : Pos} {Q : Value → Shared → Prop}
theorem comp_tup {items : Array Value} (Fv : Value → Value → Prop)
    (hclos : closureFor scope env = pure cl) (hcell : ∀ y ∈ scope.names, y.2 ≠ .cell) (hkind : scope.kind = .function)
    (hnames : ∀ y ∈ scope.names, y.2 = .local → scope.names.lookup y.1 = some .local) (hx : scope.names.lookup x = some .local)
    (hA : A.handled = none) (hsz : items.size ≤ 1000)
    (hiter : wpAny (model prog w) A (eval iter env) (fun xv s₁ => ∃ r h tk, xv = .ref r ∧ s₁ = { s with heap := h, toks := tk } ∧ h.IsTuple r items ∧ Ext s.heap h ∧ s.toks ≤ tk) NoE s)
    (helt : ∀ (C : Addr) (i : Nat) (v : Value) (s₃ : Shared) (m₃ : Str → Option Value), s.heap.get? C = none → items[i]? = some v → s₃.heap.Ns C m₃ → m₃ x = some v → Ext s.heap s₃.heap → s.toks ≤ s₃.toks →
      wpAny (model prog w) A (eval elt (compEnvC scope cl C env)) (fun y s₄ => Fv v y ∧ Keeps s₃ s₄) NoE s₃)
    (done : ∀ D h' tk ys, s.heap.get? D = none → h'.PlainList D ys → Paired Fv items.toList ys.toList → Ext s.heap h' → Q (.ref D) { s with heap := h', toks := tk })
    (hs : ∀ x, foldedSetIterable iter env x = pure x := by intro _; rfl) :
    wpAny (model prog w) A (eval (.ListComp elt [⟨.Name x px, iter, [], 0⟩] scope pos) env) Q NoE s := by
  refine wpAny_ListComp_free (fun _ => true) Fv hclos hcell hkind hnames hx (wpAny_mono hiter ?_ fun _ _ x => x.elim) hs
  rintro xv s₁ ⟨ax, h, tk, rfl, rfl, hl, e, htk⟩
  have hlt : ∀ b o, h.get? b = some o → b ≠ h.objs.size := fun b o e => Nat.ne_of_lt (Heap.lt_size e)
  have hax : ax < h.objs.size := by obtain ⟨o, ho, _⟩ := hl; exact Heap.lt_size ho
  have hnone : ∀ C, h.objs.size + 1 ≤ C → s.heap.get? C = none := fun C hC => by
    cases q : s.heap.get? C with
    | none => rfl
    | some o => exact absurd (Nat.lt_of_lt_of_le (Heap.lt_size (e _ _ q)) (Nat.le_of_succ_le hC)) (Nat.lt_irrefl _)
  refine wpAny_pyIter_tuple hl ?_
  refine ⟨_, _, _, _, _, _, rfl, Walks.tuple hA _ ax (Nat.ne_of_lt hax) items, Nat.le_trans hsz (by decide), ⟨⟨_, Heap.get?_push_size _ rfl, rfl, rfl⟩, hl.push _⟩, ?_, ⟨?_, ?_⟩, ?_⟩
  · intro b hb
    simp only [List.mem_cons, List.not_mem_nil, or_false] at hb
    rw [Heap.size_push]
    rcases hb with rfl | rfl
    · exact Nat.lt_succ_self _
    · exact Nat.lt_succ_of_lt hax
  · intro C i v s₃ m₃ E' hC hv hns hm hk htk'
    exact wpAny_mono (tests_nil (s := s₃) (p := fun _ => true) (v := v) rfl) (fun _ _ x => x) fun _ _ x => x.elim
  · intro C i v s₃ m₃ E' hC hv hp hns hm hk htk'
    rw [Heap.size_push] at hC
    exact wpAny_mono (helt C i v s₃ m₃ (hnone C hC) hv hns hm (fun b o q => hk b o (by simpa using hlt b o (e _ _ q)) (Heap.get?_push_of_some _ (e _ _ q))) (Nat.le_trans htk htk')) (fun _ _ x => x) fun _ _ x => x.elim
  · intro D h' tk' ys vs hD _ hpl hlen hP hF hk
    have hvs := listEq hlen hP
    subst hvs
    rw [List.filter_eq_self.mpr (by simp)] at hF
    refine done D h' tk' ys ?_ hpl hF fun b o q => hk b o (by simpa using hlt b o (e _ _ q)) (Heap.get?_push_of_some _ (e _ _ q))
    have hD' := none_of_push hD
    cases q : s.heap.get? D with
    | none => rfl
    | some o => have e2 := e _ _ q; rw [hD'] at e2; cases e2
end
/-- what stands between the steps of law's loops -/
def LSt (w : World) (g : Heap) (L : Nat) (fx : List (Addr × Obj)) (B Ld Rk : Addr) (q : P3) (out : List P3) (lr : List Addr) (s₀ : Shared) (X : List Addr) (K : List (Str × Value)) (c : Nat) (s' : Shared) : Prop :=
  ∃ (h : Heap) (tk : Nat) (m : Str → Option Value) (o1 o2 o3 o4 : Obj) (tw tc : Tok),
    s' = { s₀ with heap := h, toks := tk } ∧ 1 ≤ tk ∧ Fr g L h m ∧ AllAt m ((Str.ofString "leads", .ref Ld) :: (Str.ofString "ranks", .ref Rk) :: (Str.ofString "whole", .int (wholeN q : Nat) tw) :: (Str.ofString "count", .int (c : Nat) tc) :: K) ∧
    News g L h (fx ++ [(L + 1 + 1 + 1 + 1, o4), (L + 1 + 1 + 1, o3), (L + 1 + 1, o2), (L + 1, o1)]) ∧ (anyCell o4 ∧ anyCell o3 ∧ refCell B o2) ∧ LeadsAll w g h (X ++ LM L) out lr ∧
    (∀ b ∈ X, g.get? b = none ∧ b ∉ LM L ∧ ∀ p ∈ fx, p.1 ≠ b)
/-- the lists that stand through law's loops -/
abbrev lawFx (B : Addr) (ys : Array Value) (nB : Nat) (Ld : Addr) (lr : List Addr) (nL : Nat) (Rk : Addr) (q : P3) (w0 : Tok) (r1 : Int) (w1 w2 : Tok) (er : Nat) : List (Addr × Obj) :=
  [(B, listOf ys nB), (Ld, listOf (lr.map Value.ref).toArray nL), (Rk, listOf #[.int ((loN q : Nat) : Int) w0, .int r1 w1, .int ((hiN q : Nat) : Int) w2] er)]
section
variable {w : World} {g : Heap} {L : Nat} {fx : List (Addr × Obj)} {B Ld Rk : Addr} {q : P3} {out : List P3} {lr : List Addr} {s₀ : Shared} {X : List Addr} {K : List (Str × Value)} {c : Nat} {s' : Shared}
theorem LSt.lmHas (x : LSt w g L fx B Ld Rk q out lr s₀ X K c s') : ∀ b ∈ LM L, ∃ o, s'.heap.get? b = some o := by
  obtain ⟨h, tk, m, o1, o2, o3, o4, tw, tc, rfl, hk1, F, hm, N, hc, hls, hX⟩ := x
  exact lm_has F (newsSub N fun p hp => List.mem_append_right _ hp)
theorem LSt.enterIt (x : LSt w g L fx B Ld Rk q out lr s₀ X K c s') (o : Obj) : LSt w g L fx B Ld Rk q out lr s₀ (s'.heap.objs.size :: X) K c { s' with heap := s'.heap.push o } := by
  have hr := x.lmHas
  obtain ⟨h, tk, m, o1, o2, o3, o4, tw, tc, rfl, hk1, F, hm, N, hc, hls, hX⟩ := x
  dsimp only at hr ⊢
  have hnone : h.get? h.objs.size = none := none_size (Nat.le_refl _)
  have hs : ∀ b ∈ (h.objs.size :: X) ++ LM L, b ∈ X ++ LM L ∨ h.get? b = none := by
    intro b hb
    rw [List.cons_append, List.mem_cons] at hb
    rcases hb with rfl | hb
    · exact .inr hnone
    · exact .inl hb
  have ke : KB ((h.objs.size :: X) ++ LM L) h (h.push o) := KB.of (extPush h o)
  refine ⟨_, _, m, o1, o2, o3, o4, tw, tc, rfl, hk1, frKeep F (extPush h o), hm, newsKeep N (extPush h o), hc, fun i r hi => ?_, ?_⟩
  · obtain ⟨a, h1, h2⟩ := hls i r hi
    exact ⟨a, h1, (h2.more hs).kb ke⟩
  · intro b hb
    rcases List.mem_cons.mp hb with rfl | hb
    · refine ⟨?_, fun hm => ?_, fun p hp q => ?_⟩
      · cases q : g.get? h.objs.size with
        | none => rfl
        | some o' => have := F.keep _ _ q; rw [hnone] at this; cases this
      · obtain ⟨o', ho'⟩ := hr _ hm
        rw [hnone] at ho'; cases ho'
      · have := (N p (List.mem_append_left _ hp)).1
        rw [q, hnone] at this; cases this
    · exact hX b hb
theorem LSt.stab {It : Addr} {h : Heap} {tk : Nat} (x : LSt w g L fx B Ld Rk q out lr s₀ (It :: X) K c s') (htk : s'.toks ≤ tk) (hk : ∀ b o, b ∉ [It] → s'.heap.get? b = some o → h.get? b = some o) : LSt w g L fx B Ld Rk q out lr s₀ (It :: X) K c { s' with heap := h, toks := tk } := by
  obtain ⟨h₁, tk₁, m, o1, o2, o3, o4, tw, tc, rfl, hk1, F, hm, N, hc, hls, hX⟩ := x
  dsimp only at hk htk ⊢
  obtain ⟨hg, hn, hf⟩ := hX It (.head _)
  have ke : KB ((It :: X) ++ LM L) h₁ h := KB.sub (fun b o hb q => hk b o hb q) (fun b hb => by rw [List.mem_singleton.mp hb]; exact .head _)
  refine ⟨_, _, m, o1, o2, o3, o4, tw, tc, rfl, by omega, frStab F hg (fun q => hn (by rw [← q]; simp)) hk, hm, newsStab N ?_ hk, hc, LeadsAll.kb hls ke, hX⟩
  intro p hp q
  rcases List.mem_append.mp hp with hp | hp
  · exact hf p hp q
  · apply hn
    rw [← q]
    simp only [List.mem_cons, List.not_mem_nil, or_false] at hp
    rcases hp with rfl | rfl | rfl | rfl <;> simp
theorem LSt.leave {It : Addr} (x : LSt w g L fx B Ld Rk q out lr s₀ (It :: X) K c s') : LSt w g L fx B Ld Rk q out lr s₀ X K c s' := by
  obtain ⟨h₁, tk₁, m, o1, o2, o3, o4, tw, tc, rfl, hk1, F, hm, N, hc, hls, hX⟩ := x
  refine ⟨_, _, m, o1, o2, o3, o4, tw, tc, rfl, hk1, F, hm, N, hc, fun i r hi => ?_, fun b hb => hX b (.tail _ hb)⟩
  obtain ⟨a, h1, h2⟩ := hls i r hi
  exact ⟨a, h1, h2.more fun b hb => .inl (.tail _ hb)⟩
theorem LSt.drop (x : LSt w g L fx B Ld Rk q out lr s₀ X K c s') : LSt w g L fx B Ld Rk q out lr s₀ X [] c s' := by
  obtain ⟨h₁, tk₁, m, o1, o2, o3, o4, tw, tc, rfl, hk1, F, hm, N, hc, hls, hX⟩ := x
  exact ⟨_, _, m, o1, o2, o3, o4, tw, tc, rfl, hk1, F, ⟨hm.1, hm.2.1, hm.2.2.1, hm.2.2.2.1, trivial⟩, N, hc, hls, hX⟩
end
end Mine
end
section
open PySem PySem.W PyProof.Rows PySem.Calls
set_option maxRecDepth 100000
namespace Mine
local macro_rules | `(tactic| walk_at "execs cons") => `(tactic| ((with_reducible refine wpAny_execs_cons ?_); try dsimp only))
local macro_rules | `(tactic| walk_at "execs nil") => `(tactic| (with_reducible refine wpAny_execs_nil ?_))
set_option maxHeartbeats 8000000 in
theorem law_spec {prog : Program} {w : World} {mg mb : Str → Option Value} {A : Around} {s : Shared} {Q : Value → Shared → Prop} (R : Rd w mg mb s.heap) (hr : A.depth + 40 < recursionLimit) (hh : A.handled = none) (hu : A.units + 300 < cLine)
    (l : Addr) (vs : List Value) (ns : List Int) (hl : s.heap.IsList l vs.toArray) (hi : IntsAre vs ns) (hn : vs.length ≤ 63)
    (hret : ∀ h' tk', Ext s.heap h' → Q (.bool true) { s with heap := h', toks := tk' }) :
    wpAny (model prog w) A (call (.ref 150) [.ref l]) Q NoE s := by
  obtain ⟨hd, dp, fr, gd, un⟩ := A
  dsimp only at hh hr hu
  subst hh
  have X := R.X
  have T := R.T
  w_on
  refine enterC R (by show dp < _; omega) (by k_is) (by k_is) (binds := [(Str.ofString "script", .ref l)]) (BindsTo.of_eq rfl) rfl (by decide) rfl rfl rfl ?_
  intro h₁ tk cells htk F N Y
  generalize hL : s.heap.objs.size = L at *
  obtain ⟨o4, o3, o2, o1, rfl, y4, y3, y2, y1⟩ := CellsAre.four (show CellsAre _ [(Str.ofString "told", L + 1 + 1 + 1 + 1), (Str.ofString "page", L + 1 + 1 + 1), (Str.ofString "bounds", L + 1 + 1), (Str.ofString "first", L + 1)] cells from Y)
  replace y4 : o4.data = .cell none := y4
  replace y3 : o3.data = .cell none := y3
  replace y2 : o2.data = .cell none := y2
  replace y1 : o1.data = .cell none := y1
  clear Y
  repeat ((fail_if_success (with_reducible show wpAny _ _ (call (Value.builtin "len") _) _ _ _)); first | walk1 | (dsimp only; walk1))
  rename Fr _ _ _ _ => F₁
  refine len_list (hl.at fun o e => F₁.keep _ _ e) (by simp; omega) ?_
  rw [List.size_toArray]
  repeat ((fail_if_success (with_reducible show wpAny _ _ (subscriptTail _ _ _ _) _ _ _)); first | walk1 | (dsimp only; walk1))
  rename News _ _ _ _ => N₁
  refine kba_turn (value' := Expr.Name (Str.ofString "x") ⟨0, 0, 0, 0⟩) (fun _ => rfl) ?_
  refine kmk_slice_ints F₁ N₁ (News.isList N₁ (.head _)) (IsPart.int _ _) IsPart.none (lo := some _) (hi := none) (.cons 3 _ (.cons 1 _ (.cons 1 _ .nil))) (kmk_from (.cons 3 _ (.cons 1 _ (.cons 1 _ .nil))) (by omega)) rfl ?_ (by with_unfolding_all rfl) (by kmk_pure) (Nat.le_trans (m := 3) (by simp) (by decide))
  intro D₂ ws₂ h₂ F₂ N₂ l₂ hj hj1 hj2
  clear F₁ N₁
  dsimp only at F₂ N₂ ⊢
  rw [Int.toNat_natCast] at hj
  have hl₂ := hl.at fun o e => F₂.keep _ _ e
  have hjl := hj.length
  have hil := hi.length
  rw [List.length_drop] at hjl
  dsimp only [List.length_cons, List.length_nil] at hjl
  refine add_arrays_ints F₂ N₂ hl₂ (News.isList N₂ (.head _)) (by simpa using hi) (by simpa using hj) ?_ (hsz := Nat.le_trans (m := 100) (by simp; omega) (by decide))
  intro h₃ F₃ N₃ hi₃
  clear F₂ N₂
  dsimp only at F₃ N₃ hi₃ ⊢
  generalize h₂.objs.size = D₃ at *
  repeat ((fail_if_success (with_reducible show wpAny _ _ (subscriptTail _ _ _ _) _ _ _)); first | walk1 | (dsimp only; walk1))
  refine kba_turn (value' := Expr.Name (Str.ofString "x") ⟨0, 0, 0, 0⟩) (fun _ => rfl) ?_
  have hjl2 := hi₃.length
  have hn₃ : (vs ++ ws₂).length ≤ 100 := by rw [List.length_append]; omega
  refine kmk_slice_ints F₃ N₃ (News.isList N₃ (.head _)) IsPart.none (IsPart.int _ _) (lo := none) (hi := some _) hi₃ (kmk_upto hi₃ (by omega)) rfl ?_ (by with_unfolding_all rfl) (by kmk_pure) (Nat.le_trans (m := 100) (by rw [List.size_toArray]; exact hn₃) (by decide))
  intro D₄ ws₄ h₄ F₄ N₄ l₄ hi₄ hj1 hj2
  clear F₃ N₃
  dsimp only at F₄ N₄ hi₄ ⊢
  obtain ⟨x0, x1, x2, e3⟩ : ∃ x0 x1 x2 : Int, List.take (Int.toNat 3) (ns ++ List.drop vs.length [3, 1, 1]) = [x0, x1, x2] := by
    rw [hil]
    match ns with
    | [] => exact ⟨_, _, _, rfl⟩
    | [a] => exact ⟨_, _, _, rfl⟩
    | [a, b] => exact ⟨_, _, _, rfl⟩
    | a :: b :: c :: r => exact ⟨_, _, _, rfl⟩
  rw [e3] at hi₄
  clear hj1 hj2 l₄ l₂
  cases hi₄ with | cons _ tx0 hi₄ =>
  cases hi₄ with | cons _ tx1 hi₄ =>
  cases hi₄ with | cons _ tx2 hi₄ =>
  cases hi₄
  repeat ((fail_if_success (with_reducible show wpAny _ _ (exec (Stmt.Assign [Expr.Tuple _ _ _] _ _) _) _ _ _)); first | walk1 | (dsimp only; walk1))
  refine Assign_Tuple_swapped ?_
  repeat ((fail_if_success (with_reducible show wpAny _ _ (eval (Expr.ListComp _ _ _ _) _) _ _ _)); first | walk1 | (dsimp only; walk1))
  clear e3 hjl hil hjl2 hi₃ hn₃
  rename Fr _ _ _ _ => F₅
  rename News _ _ _ _ => N₅
  obtain ⟨m₅, F₆, hm₅⟩ : ∃ m, Fr s.heap L _ m ∧ m (Str.ofString "numbers") = some (.ref D₄) := ⟨_, F₅, rfl⟩
  clear F₅
  have F₅ := frAt [(Str.ofString "numbers", .ref D₄)] F₆ ⟨hm₅, trivial⟩
  dsimp only [List.foldr] at F₅
  clear F₆
  have N₆ := newsSub (news' := [(D₄, listOf #[.int x0 tx0, .int x1 tx1, .int x2 tx2] 0), (L + 1 + 1 + 1 + 1, o4), (L + 1 + 1 + 1, o3), (L + 1 + 1, o2), (L + 1, o1)]) N₅ (by k_allIn)
  clear N₅
  have hl₅ := News.isList N₆ (.head _)
  refine withTk (by dsimp only; omega) ?_
  refine comp_list (fun _ => true) (fun v y => ∃ n t t', v = .int n t ∧ y = .int (szZ n : Nat) t') (cl := []) rfl (by decide) rfl (by decide) rfl rfl (fun Q' hq => ?_) hl₅ (by simp) ?_ ?_ ?_
  · walk1
    exact hq
  · intro C i v s₃ m₃ hC hv hns hm e htk₃
    exact tests_nil (p := fun _ => true) (v := v) rfl
  · intro C i v s₃ m₃ hC hv _ hns hm e htk₃
    obtain ⟨oC, hoC, F₃, H₃, N₃⟩ := blockNews F₅ hC e hns
    have N₄ := newsApp N₃ (newsKeep N₆ e)
    have hv' : ∃ n t, v = .int n t := by
      match i, hv with
      | 0, hv => exact ⟨x0, tx0, by simpa using hv.symm⟩
      | 1, hv => exact ⟨x1, tx1, by simpa using hv.symm⟩
      | 2, hv => exact ⟨x2, tx2, by simpa using hv.symm⟩
      | i + 3, hv => simp at hv
    obtain ⟨n, t, rfl⟩ := hv'
    clear F₅ N₆ hl₅ hv
    dsimp only [List.cons_append, List.nil_append] at N₄
    repeat ((fail_if_success (with_reducible show And _ _)); first | walk1 | (dsimp only; walk1))
    rw [Int.fmod_eq_emod_of_nonneg n (by decide), ← szZ_cast]
    exact ⟨⟨n, t, _, rfl, rfl⟩, ⟨_, _, rfl, fun _ _ q => q⟩⟩
  · intro D h' tk' ys hD hpl hpair e hk'
    have e3 : ∃ u0 u1 u2, ys = #[.int (szZ x0 : Nat) u0, .int (szZ x1 : Nat) u1, .int (szZ x2 : Nat) u2] := by
      obtain ⟨l⟩ := ys
      replace hpair : Paired _ [Value.int x0 tx0, Value.int x1 tx1, Value.int x2 tx2] l := hpair
      cases hpair with
      | cons h0 hp1 =>
        cases hp1 with
        | cons h1 hp2 =>
          cases hp2 with
          | cons h2 hp3 =>
            cases hp3
            obtain ⟨n0, _, v0, q0, rfl⟩ := h0
            obtain ⟨n1, _, v1, q1, rfl⟩ := h1
            obtain ⟨n2, _, v2, q2, rfl⟩ := h2
            injection q0 with q0; injection q1 with q1; injection q2 with q2
            subst q0; subst q1; subst q2
            exact ⟨v0, v1, v2, rfl⟩
    obtain ⟨u0, u1, u2, rfl⟩ := e3
    obtain ⟨nD, hD'⟩ := id hpl
    have F₇ := frKeep F₅ e
    have HD : Has _ h' [(D, listOf #[.int (szZ x0 : Nat) u0, .int (szZ x1 : Nat) u1, .int (szZ x2 : Nat) u2] nD)] := fun z hz => by
      rw [List.mem_singleton.mp hz]
      exact ⟨hD', hD⟩
    have N₇ := newsApp (HD.news F₅) (newsKeep N₆ e)
    have neD := cellsNe (newsSub N₆ (by k_allIn)) hD
    clear F₅ N₆ hl₅ e HD hD hpl hpair hD'
    dsimp only [List.cons_append, List.nil_append] at N₇
    dsimp only at hk' ⊢
    repeat ((fail_if_success (with_reducible show wpAny _ _ (subscriptTail _ _ _ _) _ _ _)); first | walk1 | (dsimp only; walk1))
    dsimp only
    rename Fr _ _ _ _ => F₈
    rename News _ _ _ _ => N₈
    refine withTk ?_ ?_
    · dsimp only; omega
    have hz0 := Int.fmod_eq_emod_of_nonneg (x0 + (x1 + (x2 + 0))) (b := 3) (by decide)
    rw [hz0]
    have hz1 : 0 ≤ (x0 + (x1 + (x2 + 0))) % 3 := Int.emod_nonneg _ (by decide)
    have hz2 : (x0 + (x1 + (x2 + 0))) % 3 < 3 := Int.emod_lt_of_pos _ (by decide)
    generalize (x0 + (x1 + (x2 + 0))) % 3 = z at *
    refine KTb.item_tup (ws := ends) (News.isTup N₈ (.head _)) (.cons _ _ (.cons _ _ (.cons _ _ .nil))) hz1 (by simpa [ends] using hz2) (by omega) ?_
    intro te hlt hk₈
    have he : ends.getD z.toNat Str.empty ∈ ends := by
      rw [List.getD_eq_getElem?_getD, List.getElem?_eq_getElem hlt]
      exact List.getElem_mem hlt
    generalize ends.getD z.toNat Str.empty = e at *
    clear hz0 hz1 hz2 hlt
    have hs0 := szZ_le x0
    have hs1 := szZ_le x1
    have hs2 := szZ_le x2
    generalize szZ x0 = a at *
    generalize szZ x1 = b at *
    generalize szZ x2 = c at *
    repeat ((fail_if_success (with_reducible show wpAny _ _ (eval (Expr.ListComp _ _ _ _) _) _ _ _)); first | walk1 | (dsimp only; walk1))
    rename Fr _ _ _ _ => F₉
    rename News _ _ _ _ => N₉
    obtain ⟨m₉, F₈, hm₉⟩ : ∃ m, Fr s.heap L _ m ∧ AllAt m [(Str.ofString "sizes", .ref D), (Str.ofString "end", .str e te)] := ⟨_, F₉, rfl, rfl, trivial⟩
    clear F₉
    have F₉ := frAt _ F₈ hm₉
    dsimp only [List.foldr] at F₉
    clear F₈
    have N₁₀ := newsSub (news' := [(D, listOf #[.int a u0, .int b u1, .int c u2] nD), (L + 1 + 1 + 1 + 1, o4), (L + 1 + 1 + 1, o3), (L + 1 + 1, o2), (L + 1, o1)]) N₉ (by k_allIn)
    clear N₉
    have hl₉ := News.isList N₁₀ (.head _)
    refine withTk (by dsimp only at hk₈ ⊢; omega) ?_
    refine comp_list (fun _ => true) (fun v y => ∃ (n : Nat) (t t' : Tok), v = .int n t ∧ y = .str (drow n) t') (cl := []) rfl (by decide) rfl (by decide) rfl rfl (fun Q' hq => ?_) hl₉ (by simp) ?_ ?_ ?_
    · walk1
      exact hq
    · intro C i v s₃ m₃ hC hv hns hm e htk₃
      exact tests_nil (p := fun _ => true) (v := v) rfl
    · intro C i v s₃ m₃ hC hv _ hns hm e htk₃
      obtain ⟨oC, hoC, F₃, H₃, N₃⟩ := blockNews F₉ hC e hns
      have N₄ := newsApp N₃ (newsKeep N₁₀ e)
      have hv' : ∃ (n : Nat) (t : Tok), n ≤ 5 ∧ v = .int n t := by
        match i, hv with
        | 0, hv => exact ⟨a, u0, by omega, by simpa using hv.symm⟩
        | 1, hv => exact ⟨b, u1, by omega, by simpa using hv.symm⟩
        | 2, hv => exact ⟨c, u2, by omega, by simpa using hv.symm⟩
        | i + 3, hv => simp at hv
      obtain ⟨n, t, hn5, rfl⟩ := hv'
      clear F₉ N₁₀ hl₉ hv
      dsimp only [List.cons_append, List.nil_append] at N₄
      dsimp only at htk₃
      have hdl := dots_len n
      repeat ((fail_if_success (with_reducible show wpAny _ _ (binaryOp _ _ _) _ _ _)); first | walk1 | (dsimp only; walk1))
      refine withTk (by dsimp only at hk₈ ⊢; omega) ?_
      refine SB.mul (mulOk_of 16 1048576 (by decide) (by omega) (by omega) (by decide) (by decide)) ?_
      intro t4 tk4 hk4
      rw [dots_mul n (by omega)]
      repeat ((fail_if_success (with_reducible show And _ _)); first | walk1 | (dsimp only; walk1))
      rw [dots_row n (by omega)]
      exact ⟨⟨n, t, _, rfl, rfl⟩, ⟨_, _, rfl, fun _ _ q => q⟩⟩
    · intro P h' tk₉ ys hD hpl hpair e₉ hk₉
      obtain ⟨l₉⟩ := ys
      obtain ⟨_, _, _, rfl, ⟨n0, _, v0, q0, rfl⟩, ⟨n1, _, v1, q1, rfl⟩, ⟨n2, _, v2, q2, rfl⟩⟩ := paired3 hpair
      injection q0 with q0; injection q1 with q1; injection q2 with q2
      obtain rfl : n0 = a := by omega
      obtain rfl : n1 = b := by omega
      obtain rfl : n2 = c := by omega
      obtain ⟨nP, hP'⟩ := id hpl
      have F₁₀ := frKeep F₉ e₉
      have HP : Has _ h' [(P, listOf #[.str (drow n0) v0, .str (drow n1) v1, .str (drow n2) v2] nP)] := fun z hz => by
        rw [List.mem_singleton.mp hz]
        exact ⟨hP', hD⟩
      have N₁₁ := newsApp (HP.news F₉) (newsKeep N₁₀ e₉)
      have neP := cellsNe (newsSub N₁₀ (by k_allIn)) hD
      clear F₉ N₁₀ hl₉ e₉ HP hD hpl hpair hP'
      dsimp only [List.cons_append, List.nil_append] at N₁₁
      dsimp only at hk₉ ⊢
      repeat ((fail_if_success (with_reducible show wpAny _ _ (call (Value.ref _) _) _ _ _)); first | walk1 | (dsimp only; walk1))
      rename Fr _ _ _ _ => F₁₀
      rename News _ _ _ _ => N₁₁
      rename_i h₁₀ o1' hc1
      have hq : okP (n0, n1, n2) := ⟨hs0, hs1, hs2⟩
      have HP : Has s.heap h₁₀ [(P, listOf #[.str (drow n0) v0, .str (drow n1) v1, .str (drow n2) v2] nP)] := fun z hz => by
        rw [List.mem_singleton.mp hz]
        exact ⟨(N₁₁ _ (.head _)).1, (N₁₁ _ (.head _)).2.2⟩
      refine reached_spec (s := { s with heap := h₁₀, toks := tk₉ }) R F₁₀.keep ?_ rfl ?_ hk₉ P (n0, n1, n2) nP v0 v1 v2 te e he hq HP ?_
      · show dp + 1 + 20 < _; omega
      · show un + 3 + 200 < _; omega
      intro Ld h₁₁ tk₁₁ lr nL out hout e₁₁ hk₁₁ HL hll hlds
      dsimp only at e₁₁ HL hlds
      have LF := law_facts hq hout
      have F₁₁ := frKeep F₁₀ e₁₁
      have hlds' : LeadsAll w s.heap h₁₁ (LM L) out lr := fun i r hi => by
        obtain ⟨x, h1, h2⟩ := hlds i r hi
        exact ⟨x, h1, h2.rebase F₁₀.keep (lm_has F₁₀ (newsSub N₁₁ (by k_allIn)))⟩
      have neLd := cellsNe (newsSub N₁₁ (by k_allIn)) (HL _ (.head _)).2
      dsimp only at neLd
      have hgk : Ext s.heap h₁₁ := F₁₁.keep
      have N₁₂ := newsApp (newsApp (HL.news F₁₀) (newsKeep N₁₁ e₁₁)) (news_rest (M := LM L) (h := h₁₁))
      have off : OwnOff (rest s.heap L (LM L) h₁₁) (LM L) := off_rest
      clear F₁₀ N₁₁ HP hlds e₁₁ HL
      dsimp only [List.cons_append, List.nil_append] at N₁₂
      dsimp only
      repeat ((fail_if_success (with_reducible show wpAny _ _ (eval (Expr.ListComp _ _ _ _) _) _ _ _)); first | walk1 | (dsimp only; walk1))
      rename_i h₁₂ F₁₂ N₁₃
      have kb₁₂ : KB (LM L) h₁₁ h₁₂ := KB.rest F₁₂ hgk N₁₃ (fun _ hp => .tail _ (.tail _ (.tail _ (.tail _ (.tail _ (.tail _ (.tail _ hp))))))) (by simp)
      have hlds₂ := LeadsAll.kb hlds' kb₁₂
      obtain ⟨xl, hxl, hLx⟩ := hlds₂ 0 _ LF.zero
      obtain ⟨_, ⟨dx, D1, D', vs', tb, tn, tt, k1, k2, k3, k4, k5, raw, simple, rfl, hi1, hv1⟩, Hx, hMx, _⟩ := id hLx
      have N₁₄ := newsApp (newsOf Hx hMx (by simp)) N₁₃
      dsimp only [List.cons_append, List.nil_append] at N₁₄
      have hLdl : h₁₂.IsList Ld (lr.map Value.ref).toArray := Heap.PlainList.isList ⟨nL, (N₁₃ _ (.head _)).1⟩
      have E₁₂ : Ext s.heap h₁₂ := F₁₂.keep
      have hruns := LF.runs
      have hrunsI : ((runsN (n0, n1, n2) : Nat) : Int) = max (((leadSt (n0, n1, n2)).cnt.length : Int) - 1) (leadSt (n0, n1, n2)).b := by
        unfold runsN; omega
      have hb5 : (leadSt (n0, n1, n2)).b ≤ 100 := by
        have := hruns; unfold runsN at this; omega
      refine withTk (by dsimp only; omega) ?_
      refine comp_range (lo := 1) (hi := ((runsN (n0, n1, n2) : Nat) : Int) + 1) (runsN (n0, n1, n2)) (fun i y => ∃ t, y = .int (leftN (n0, n1, n2) (i + 1) : Nat) t) (cl := [(Str.ofString "first", L + 1)]) rfl (by decide) rfl (by decide) rfl rfl (by omega) (by decide) (by omega) ?_ ?_ ?_
      · clear N₁₃
        refine withTkN (tk₁₁ + 1) (Nat.le_refl _) ?_
        repeat ((fail_if_success (with_reducible show wpAny _ _ (subscriptTail _ _ _ _) _ _ _)); first | walk1 | (dsimp only; walk1))
        refine item_list hLdl (by omega) (by omega) (x := .ref xl) (by simp [hxl]) ?_
        repeat ((fail_if_success (with_reducible show And _ _)); (fail_if_success (with_reducible show wpAny _ _ (call (Value.ref _) _) _ _ _)); first | walk1 | (dsimp only; walk1))
        dsimp only [List.cons_append, List.nil_append]
        refine longest_spec (s := ⟨_, _, _, _, _⟩) R E₁₂ ?_ ?_ ?_ xl _ hLx.lead hb5 ?_
        · show dp + 1 + 5 < _; omega
        · rfl
        · show un + 3 + 100 < cLine; omega
        intro t₁₃ h₁₃ tk₁₃ e₁₃
        dsimp only at e₁₃
        rw [← hrunsI]
        have F₁₃ := frKeep F₁₂ e₁₃
        have N₁₅ := newsKeep N₁₄ e₁₃
        clear F₁₂ N₁₄
        repeat ((fail_if_success (with_reducible show Exists _)); first | walk1 | (dsimp only; walk1))
        rename_i h₁₅ tk₁₅ t₁ u₁ v₁ hr₁ _ _ e₁₅ hk₁₅
        exact ⟨_, _, _, _, h₁₅, tk₁₅, rfl, rfl, hr₁, e₁₃.trans e₁₅, hk₁₅⟩
      · intro C kk t s₃ m₃ hC hkk hns hm e₁₃ htk₃
        obtain ⟨oC, hoC, F₃, H₃, N₃⟩ := blockNews F₁₂ hC e₁₃ hns
        have N₄ := newsApp N₃ (newsKeep N₁₃ e₁₃)
        have R₃ : Rd w mg mb s₃.heap := R.keeps F₃.keep
        clear F₁₂ N₁₃ N₁₄
        dsimp only [List.cons_append, List.nil_append] at N₄
        dsimp only at htk₃
        repeat ((fail_if_success (with_reducible show wpAny _ _ (call (Value.ref _) _) _ _ _)); first | walk1 | (dsimp only; walk1))
        have e1 : (1 + (kk : Int)) = ((kk + 1 : Nat) : Int) := by omega
        rw [e1]
        refine left_spec (s := s₃) R₃ ?_ ?_ ?_ ?_ P n0 n1 n2 (kk + 1) v0 v1 v2 t (News.isList N₄ (.tail _ (.tail _ (.head _)))) (by omega) (by omega) (by omega) (by omega) ?_
        · show dp + 1 + 9 < _; omega
        · rfl
        · show un + 3 + 100 < cLine; omega
        · omega
        intro t' h' tk' e' hk'
        k_unfold
        exact ⟨⟨t', rfl⟩, keeps_of e'⟩
      · intro B h₁₄ tk₁₄ ys hD hpl hlen hG e₁₄ hk₁₄
        obtain ⟨nB, hB'⟩ := id hpl
        dsimp only at hD e₁₄ hk₁₄
        have F₁₃ := frKeep F₁₂ e₁₄
        have HB : Has h₁₂ h₁₄ [(B, listOf ys nB)] := fun z hz => by
          rw [List.mem_singleton.mp hz]
          exact ⟨hB', hD⟩
        have N₁₅ := newsApp (HB.news F₁₂) (newsKeep N₁₃ e₁₄)
        have neB := cellsNe (newsSub N₁₃ (by k_allIn)) hD
        clear F₁₂ N₁₃ N₁₄ HB hD e₁₄ hpl Hx hMx hLx hB' E₁₂ hlds₂ kb₁₂
        dsimp only [List.cons_append, List.nil_append] at N₁₅
        dsimp only
        repeat ((fail_if_success (with_reducible show wpAny _ _ (call (Value.builtin "sum") _) _ _ _)); first | walk1 | (dsimp only; walk1))
        refine withTk (by dsimp only at hk₁₄ ⊢; omega) ?_
        walk1
        intro hk₁₅
        try dsimp only at hk₁₅
        repeat ((fail_if_success (with_reducible show wpAny _ _ (call (Value.builtin "sorted") _) _ _ _)); first | walk1 | (dsimp only; walk1))
        rename_i h₁₆ tk₁₆ t₁₆ F₁₆ N₁₆
        refine sorted_N F₁₆ N₁₆ (vs := [_, _, _]) (News.isList N₁₆ (.tail _ (.tail _ (.tail _ (.head _))))) (.cons (n0 : Int) u0 (.cons (n1 : Int) u1 (.cons (n2 : Int) u2 .nil))) (by simp) ?_
        intro h₁₇ vr nr er F₁₇ N₁₇ hir hpr hsr
        have neR := cellsNe (D := _ + 1) (newsSub N₁₆ (by k_allIn)) (none_size (Nat.le_succ _))
        obtain ⟨r1, rfl⟩ := sorted3 hpr hsr
        cases hir with | cons _ w0 hir =>
        cases hir with | cons _ w1 hir =>
        cases hir with | cons _ w2 hir =>
        cases hir
        clear F₁₆ N₁₆ hpr hsr
        dsimp only at F₁₇ N₁₇ neR ⊢
        obtain ⟨Rk, hRk⟩ : ∃ x : Nat, h₁₆.objs.size + 1 = x := ⟨_, rfl⟩
        rw [hRk] at N₁₇ neR ⊢
        clear hRk
        repeat ((fail_if_success (with_reducible show wpAny _ _ (exec (Stmt.For _ _ _ _ _) _) _ _ _)); first | walk1 | (dsimp only; walk1))
        rename_i h₂₀ F₁₈ N₁₈
        have hlds₂₀ := LeadsAll.kb hlds' (KB.rest F₁₈ hgk N₁₈ (fun _ hp => .tail _ (.tail _ (.tail _ (.tail _ (.tail _ (.tail _ (.tail _ (.tail _ (.tail _ (.tail _ hp)))))))))) (by simp))
        have ew : (n0 : Int) + (n1 + (n2 + 0)) = ((wholeN (n0, n1, n2) : Nat) : Int) := by unfold wholeN; dsimp only; omega
        rw [ew] at F₁₈
        have start : LSt w s.heap L (lawFx B ys nB Ld lr nL Rk (n0, n1, n2) w0 r1 w1 w2 er) B Ld Rk (n0, n1, n2) out lr s [] [] 0 { s with heap := h₂₀, toks := tk₁₆ + 1 + 1 + 1 + 1 } := by
          refine ⟨h₂₀, _, _, _, _, _, _, _, _, rfl, by omega, F₁₈, ⟨rfl, rfl, rfl, rfl, trivial⟩, newsSub N₁₈ (by k_allIn), ⟨⟨_, y4⟩, ⟨_, y3⟩, by assumption⟩, hlds₂₀, fun b hb => by cases hb⟩
        clear F₁₈ N₁₈ hlds₂₀ hlds' ew hgk off
        generalize hqq : (n0, n1, n2) = q at *
        clear hi1 hruns hrunsI hb5 hk₁₄ hLdl hk₁₅ hxl hv1 hk₁₁ hk₉ hm₉ hk₈ neP hm₅ hj hj1 hj2 hl₂ hi hl hn htk y1 y2 y3 y4 hk' neD X T
        have keep := Stop.mk (And.intro neB (And.intro neLd neR))
        clear neB neLd neR
        repeat (with_reducible rename (_ ∧ _) => zz; clear zz)
        obtain ⟨neB, neLd, neR⟩ := keep.out
        have X := R.X
        have T := R.T
        clear keep
        have hq1 := hq.1
        have hq2 := hq.2.1
        have hq3 := hq.2.2
        have hw3 : 3 ≤ wholeN q ∧ wholeN q ≤ 15 := by unfold wholeN; omega
        refine cut (fun f s' => Stop (f = .next ∧ LSt w s.heap L (lawFx B ys nB Ld lr nL Rk q w0 r1 w1 w2 er) B Ld Rk q out lr s [] [] (outerSum q out (wholeN q - 2)) s')) ?_ ?_
        · refine wpAny_For ?_
          obtain ⟨h, tk, m, o1, o2, o3, o4, tw, tc, es, hk1, F, hm, N, hc, hls, hX⟩ := start
          rw [es]
          clear es
          have F₅ := frAt _ F hm
          dsimp only [List.foldr] at F₅
          have N₅ := newsApp N (news_rest (M := LM L) (h := h))
          dsimp only [lawFx, List.cons_append, List.nil_append] at N₅
          clear N
          refine withTk hk1 ?_
          repeat ((fail_if_success (with_reducible show wpAny _ _ (pyIter _) _ _ _)); first | walk1 | (dsimp only; walk1))
          rename_i h₇ tk₇ t₇ u₇ v₇ hr₇ F₇ N₇ e₇ hk₇
          have st7 : LSt w s.heap L (lawFx B ys nB Ld lr nL Rk q w0 r1 w1 w2 er) B Ld Rk q out lr s [] [] 0 { s with heap := h₇, toks := tk₇ } :=
            ⟨h₇, _, _, o1, o2, o3, o4, _, _, rfl, hk₇, F₇, ⟨rfl, rfl, rfl, rfl, trivial⟩, newsSub N₇ (by k_allIn), hc, LeadsAll.kb hls (KB.of e₇), hX⟩
          clear F₇ N₇ hls hc e₇
          refine for_range (wholeN q - 2) (fun i s' => LSt w s.heap L (lawFx B ys nB Ld lr nL Rk q w0 r1 w1 w2 er) B Ld Rk q out lr s [h₇.objs.size] [] (outerSum q out i) s') hr₇ (by omega) (by decide) (by omega) rfl (fun o _ => st7.enterIt o) ?_ ?_ ?_ ?_
          · intro v; rfl
          · intro i s' h tk x htk hk; exact x.stab htk hk
          · intro i t s' oI hi3 st8 hIt
            clear st7
            obtain ⟨h, tk, m, o1, o2, o3, o4, tw, tc, es, hk1, F, hm, N, hc, hls, hX⟩ := st8
            subst es
            have F₅ := frAt _ F hm
            dsimp only [List.foldr] at F₅
            have N₅ := newsApp N (news_rest (M := LM L) (h := h))
            dsimp only [lawFx, List.cons_append, List.nil_append] at N₅
            have off : OwnOff (rest s.heap L (LM L) h) (LM L) := off_rest
            clear N
            have hgk : Ext s.heap h := F.keep
            dsimp only
            rw [show (1 + (i : Int)) = ((i + 1 : Nat) : Int) by omega]
            refine wpAny_assign_Name ?_
            repeat ((fail_if_success (with_reducible show wpAny _ _ (exec (Stmt.For _ _ _ _ _) _) _ _ _)); first | walk1 | (dsimp only; walk1))
            rename_i h₈ F₈ N₈
            have hKB : KB (LM L) h h₈ := KB.rest F₈ hgk N₈ (fun _ hp => .tail _ (.tail _ (.tail _ (.tail _ (.tail _ (.tail _ (.tail _ hp))))))) (by simp)
            have st8 : LSt w s.heap L (lawFx B ys nB Ld lr nL Rk q w0 r1 w1 w2 er) B Ld Rk q out lr s [h₇.objs.size] [(Str.ofString "high", .int ((i + 1 : Nat) : Int) t)] (outerSum q out i) { s with heap := h₈, toks := tk + 1 } :=
              ⟨h₈, _, _, o1, o2, o3, o4, _, _, rfl, by omega, F₈, ⟨rfl, rfl, rfl, rfl, rfl, trivial⟩, newsSub N₈ (by k_allIn), hc, LeadsAll.kb hls hKB.app, hX⟩
            have hIt8 : h₈.get? h₇.objs.size = some oI := hKB _ _ (hX _ (.head _)).2.1 hIt
            generalize h₇.objs.size = It1 at *
            clear F₈ N₈ hc hls hX hKB hIt off hr₇ hgk
            refine cut (fun f s' => Stop (f = .next ∧ LSt w s.heap L (lawFx B ys nB Ld lr nL Rk q w0 r1 w1 w2 er) B Ld Rk q out lr s [It1] [] (outerSum q out (i + 1)) s' ∧ s'.heap.get? It1 = some oI)) ?_ ?_
            · refine wpAny_For ?_
              obtain ⟨h, tk, m, o1, o2, o3, o4, tw, tc, es, hk1, F, hm, N, hc, hls, hX⟩ := st8
              injection es with es1 _ _ es2
              subst es1
              have F₅ := frAt _ F hm
              dsimp only [List.foldr] at F₅
              have N₅ := newsApp N (news_rest (M := LM L) (h := h₈))
              dsimp only [lawFx, List.cons_append, List.nil_append] at N₅
              clear N
              rw [es2]
              clear es2
              refine withTk hk1 ?_
              repeat ((fail_if_success (with_reducible show wpAny _ _ (pyIter _) _ _ _)); first | walk1 | (dsimp only; walk1))
              rename_i h₉ tk₉ t₉ u₉ v₉ hr₉ F₉ N₉ e₉ hk₉
              have hKB : KB (LM L) h₈ h₉ := KB.of e₉
              have st9 : LSt w s.heap L (lawFx B ys nB Ld lr nL Rk q w0 r1 w1 w2 er) B Ld Rk q out lr s [It1] [(Str.ofString "high", .int ((i + 1 : Nat) : Int) t)] (outerSum q out i + innerSum q out (i + 1) 0) { s with heap := h₉, toks := tk₉ } :=
                ⟨h₉, _, _, o1, o2, o3, o4, _, _, rfl, hk₉, F₉, ⟨rfl, rfl, rfl, rfl, rfl, trivial⟩, newsSub N₉ (by k_allIn), hc, LeadsAll.kb hls hKB.app, hX⟩
              have hIt9 : h₉.get? It1 = some oI := e₉ _ _ hIt8
              clear F₉ N₉ hc hls e₉ hKB hIt8 hX
              have hne : It1 ≠ h₉.objs.size := Nat.ne_of_lt (Heap.lt_size hIt9)
              refine for_range (i + 1) (fun j s' => LSt w s.heap L (lawFx B ys nB Ld lr nL Rk q w0 r1 w1 w2 er) B Ld Rk q out lr s [h₉.objs.size, It1] [(Str.ofString "high", .int ((i + 1 : Nat) : Int) t)] (outerSum q out i + innerSum q out (i + 1) j) s' ∧ s'.heap.get? It1 = some oI) hr₉ (by omega) (by decide) (by omega) rfl (fun o _ => ⟨st9.enterIt o, Heap.get?_push_of_some _ hIt9⟩) ?_ ?_ ?_ ?_
              · intro v; rfl
              · intro j s' h tk x htk hk; exact ⟨x.1.stab htk hk, hk _ _ (by simpa using hne) x.2⟩
              · rintro j t2 s' oJ hj3 ⟨st10, hIt10⟩ hJt
                clear st9
                obtain ⟨h, tk, m, o1, o2, o3, o4, tw, tc, es, hk1, F, hm, N, hc, hls, hX⟩ := st10
                subst es
                have F₅ := frAt _ F hm
                dsimp only [List.foldr] at F₅
                have N₅ := newsApp N (news_rest (M := LM L) (h := h))
                dsimp only [lawFx, List.cons_append, List.nil_append] at N₅
                have off : OwnOff (rest s.heap L (LM L) h) (LM L) := off_rest
                clear N
                have hgk : Ext s.heap h := F.keep
                obtain ⟨⟨vb4, b4⟩, ⟨vb3, b3⟩, b2⟩ := hc
                replace b2 : o2.data = .cell (some (.ref B)) := b2
                dsimp only
                rw [show (1 + (j : Int)) = ((j + 1 : Nat) : Int) by omega]
                refine wpAny_assign_Name ?_
                repeat ((fail_if_success (with_reducible show wpAny _ _ (exec (Stmt.If _ _ _ _) _) _ _ _)); first | walk1 | (dsimp only; walk1))
                rename_i h₁₀ F₁₀ N₁₀
                repeat ((fail_if_success (with_reducible show wpAny _ _ (eval (Expr.ListComp _ _ _ _) _) _ _ _)); (fail_if_success (with_reducible show And _ _)); first | walk1 | (dsimp only; walk1))
                rotate_left
                · rename_i hy1 hn1
                  have hno : ¬ fits q (i + 1) (j + 1) := by show ¬ (_ ∧ _); omega
                  have ec : innerSum q out (i + 1) (j + 1) = innerSum q out (i + 1) j := by
                    show _ + turnCame q out (i + 1) (j + 1) = _
                    unfold turnCame; rw [if_neg hno]; rfl
                  have kb : KB (LM L) h h₁₀ := KB.rest F₁₀ hgk N₁₀ (fun _ hp => .tail _ (.tail _ (.tail _ (.tail _ (.tail _ (.tail _ (.tail _ hp))))))) (by simp)
                  refine wpAny_execs_nil (wpAny_execs_nil ?_)
                  rw [ec]
                  refine ⟨⟨?_, ?_⟩, ?_⟩
                  · exact ⟨h₁₀, _, _, o1, o2, o3, o4, _, _, rfl, by omega, F₁₀, ⟨rfl, rfl, rfl, rfl, rfl, trivial⟩, newsSub N₁₀ (by k_allIn), ⟨⟨_, b4⟩, ⟨_, b3⟩, b2⟩, LeadsAll.kb hls kb.app, hX⟩
                  · exact kb _ _ (hX _ (.tail _ (.head _))).2.1 hIt10
                  · exact kb _ _ (hX _ (.head _)).2.1 hJt
                · rename_i hn1
                  have hno : ¬ fits q (i + 1) (j + 1) := by show ¬ (_ ∧ _); omega
                  have ec : innerSum q out (i + 1) (j + 1) = innerSum q out (i + 1) j := by
                    show _ + turnCame q out (i + 1) (j + 1) = _
                    unfold turnCame; rw [if_neg hno]; rfl
                  have kb : KB (LM L) h h₁₀ := KB.rest F₁₀ hgk N₁₀ (fun _ hp => .tail _ (.tail _ (.tail _ (.tail _ (.tail _ (.tail _ (.tail _ hp))))))) (by simp)
                  rw [if_neg (by decide)]
                  refine wpAny_execs_nil (wpAny_execs_nil ?_)
                  rw [ec]
                  refine ⟨⟨?_, ?_⟩, ?_⟩
                  · exact ⟨h₁₀, _, _, o1, o2, o3, o4, _, _, rfl, by omega, F₁₀, ⟨rfl, rfl, rfl, rfl, rfl, trivial⟩, newsSub N₁₀ (by k_allIn), ⟨⟨_, b4⟩, ⟨_, b3⟩, b2⟩, LeadsAll.kb hls kb.app, hX⟩
                  · exact kb _ _ (hX _ (.tail _ (.head _))).2.1 hIt10
                  · exact kb _ _ (hX _ (.head _)).2.1 hJt
                rename_i hy1 hy2
                have hfit : fits q (i + 1) (j + 1) := by show _ ∧ _; omega
                have em : (wholeN q : Int) - ((i + 1 : Nat) : Int) - ((j + 1 : Nat) : Int) = ((wholeN q - (i + 1) - (j + 1) : Nat) : Int) := by omega
                rw [em] at F₁₀
                have hmd : wholeN q - (i + 1) - (j + 1) ≤ 13 := by omega
                have epg : pageOf q (i + 1) (j + 1) = (i + 1, wholeN q - (i + 1) - (j + 1), j + 1) := rfl
                generalize hmdd : wholeN q - (i + 1) - (j + 1) = md at *
                clear hy1 hy2 em
                have E₁₀ : Ext s.heap h₁₀ := F₁₀.keep
                refine withTk (by dsimp only; omega) ?_
                refine comp_tup (items := #[.int ((i + 1 : Nat) : Int) t,   .int (md : Nat) (tk + 1 + 1), .int ((j + 1 : Nat) : Int) t2]) (fun v y => ∃ (n : Nat) (t t' : Tok), v = .int n t ∧ y = .str (drow n) t') (cl := []) rfl (by decide) rfl (by decide) rfl rfl (by simp) ?_ ?_ ?_
                · repeat ((fail_if_success (with_reducible show wpAny _ _ (newTuple _) _ _ _)); first | walk1 | (dsimp only; walk1))
                  refine wpAny_newTuple ?_ (hsz := by simp only [List.length_cons, List.length_nil]; decide)
                  exact ⟨_, _, _, rfl, rfl, ⟨_, Heap.get?_push_size _ rfl, rfl, _, rfl⟩, extPush _ _, Nat.le_refl _⟩
                · intro C i₂ v s₃ m₃ hC hv hns hm₃ e₁₁ htk₃
                  obtain ⟨oC, hoC, F₃, H₃, N₃⟩ := blockNews F₁₀ hC e₁₁ hns
                  have N₄ := newsApp N₃ (newsKeep N₁₀ e₁₁)
                  have hv' : ∃ (n : Nat) (t : Tok), n ≤ 13 ∧ v = .int n t := by
                    match i₂, hv with
                    | 0, hv => exact ⟨i + 1, t, by omega, by simpa using hv.symm⟩
                    | 1, hv => exact ⟨md, _, by omega, by simpa using hv.symm⟩
                    | 2, hv => exact ⟨j + 1, t2, by omega, by simpa using hv.symm⟩
                    | i₂ + 3, hv => simp at hv
                  obtain ⟨n, t', hn5, rfl⟩ := hv'
                  clear F₁₀ N₁₀ hv
                  dsimp only [List.cons_append, List.nil_append] at N₄
                  dsimp only at htk₃
                  have hdl := dots_len n
                  repeat ((fail_if_success (with_reducible show wpAny _ _ (binaryOp _ _ _) _ _ _)); first | walk1 | (dsimp only; walk1))
                  refine withTk (by dsimp only; omega) ?_
                  refine SB.mul (mulOk_of 16 1048576 (by decide) (by omega) (by omega) (by decide) (by decide)) ?_
                  intro t4 tk4 hk4
                  rw [dots_mul n (by omega)]
                  repeat ((fail_if_success (with_reducible show And _ _)); first | walk1 | (dsimp only; walk1))
                  rw [dots_row n (by omega)]
                  exact ⟨⟨n, t', _, rfl, rfl⟩, ⟨_, _, rfl, fun _ _ q => q⟩⟩
                · intro Pg h₁₂ tk₁₂ ys₂ hD hpl hpair e₁₂ hk₁₂
                  obtain ⟨l₁₂⟩ := ys₂
                  obtain ⟨_, _, _, rfl, ⟨m0, _, p0, q0, rfl⟩, ⟨m1, _, p1, q1', rfl⟩, ⟨m2, _, p2, q2, rfl⟩⟩ := paired3 hpair
                  injection q0 with q0; injection q1' with q1'; injection q2 with q2
                  have g0 : m0 = i + 1 := by omega
                  have g1 : m1 = md := by omega
                  have g2 : m2 = j + 1 := by omega
                  have hI20 : i + 1 ≤ 20 := by clear q0 q1' q2 g0 g1 g2; omega
                  have hJ20 : j + 1 ≤ 20 := by clear q0 q1' q2 g0 g1 g2 hI20; omega
                  have hM20 : m1 ≤ 20 := by clear q0 q1' q2 g0 g2 hI20 hJ20; omega
                  subst g0; subst g1; subst g2
                  obtain ⟨nPg, hPg'⟩ := id hpl
                  dsimp only at hD e₁₂ hk₁₂
                  have F₁₁ := frKeep F₁₀ e₁₂
                  have HPg : Has h₁₀ h₁₂ [(Pg, listOf #[.str (drow (i + 1)) p0, .str (drow m1) p1, .str (drow (j + 1)) p2] nPg)] := fun z hz => by
                    rw [List.mem_singleton.mp hz]
                    exact ⟨hPg', hD⟩
                  have N₁₁ := newsApp (HPg.news F₁₀) (newsKeep N₁₀ e₁₂)
                  have nePg := cellsNe (newsSub N₁₀ (by k_allIn)) hD
                  have kb₁₂ : KB (LM L) h h₁₂ := (KB.rest F₁₀ hgk N₁₀ (fun _ hp => .tail _ (.tail _ (.tail _ (.tail _ (.tail _ (.tail _ (.tail _ hp))))))) (by simp)).trans (KB.of e₁₂)
                  clear F₁₀ N₁₀ HPg hD hpl hpair hPg' E₁₀ e₁₂
                  dsimp only [List.cons_append, List.nil_append] at N₁₁
                  dsimp only
                  repeat ((fail_if_success (with_reducible show wpAny _ _ (eval (Expr.BoolOp _ _ _) _) _ _ _)); first | walk1 | (dsimp only; walk1))
                  rename_i h₁₃ o3' F₁₃ N₁₃ hc3
                  replace hk₁₂ : 1 ≤ tk₁₂ := hk₁₂
                  refine cut (fun v s' => Stop (v = .bool (dueB q (i + 1) (j + 1)) ∧ ∃ tk', 1 ≤ tk' ∧ s' = { s with heap := h₁₃, toks := tk' })) ?_ ?_
                  · have hRk : h₁₃.IsList Rk #[.int ((loN q : Nat) : Int) w0, .int r1 w1, .int ((hiN q : Nat) : Int) w2] := News.isList N₁₃ (.tail _ (.tail _ (.tail _ (.head _))))
                    repeat ((fail_if_success (with_reducible show wpAny _ _ (subscriptTail _ _ _ _) _ _ _)); first | walk1 | (dsimp only; walk1))
                    refine item_list hRk (by omega) (by omega) (x := .int ((hiN q : Nat) : Int) w2) rfl ?_
                    repeat ((fail_if_success (with_reducible show Stop _)); (fail_if_success (with_reducible show wpAny _ _ (subscriptTail _ _ _ _) _ _ _)); first | walk1 | (dsimp only; walk1))
                    rotate_left
                    · rename_i hno
                      refine Stop.mk ⟨?_, _, ?_, rfl⟩
                      · unfold dueB
                        rw [decide_eq_false hno, decide_eq_false (p := i + 1 ≤ hiN q) (by omega), Bool.false_and]
                      · dsimp only; omega
                    rename_i hyes
                    repeat ((fail_if_success (with_reducible show wpAny _ _ (subscriptTail _ _ _ _) _ _ _)); first | walk1 | (dsimp only; walk1))
                    refine item_list hRk (by omega) (by omega) (x := .int ((loN q : Nat) : Int) w0) rfl ?_
                    repeat ((fail_if_success (with_reducible show Stop _)); first | walk1 | (dsimp only; walk1))
                    refine Stop.mk ⟨?_, _, ?_, rfl⟩
                    · unfold dueB
                      rw [decide_eq_true (p := i + 1 ≤ hiN q) (by omega), Bool.true_and]
                      congr 1
                      simp only [decide_eq_decide]
                      omega
                    · dsimp only; omega
                  · rintro v s' ⟨rfl, tk₁₃, hk₁₃, rfl⟩
                    dsimp only
                    repeat ((fail_if_success (with_reducible show wpAny _ _ (call (Value.ref _) _) _ _ _)); first | walk1 | (dsimp only; walk1))
                    rename_i h₁₄ F₁₄ N₁₄
                    have E₁₄ : Ext s.heap h₁₄ := F₁₄.keep
                    have kb₁₄ : KB (LM L) h h₁₄ := KB.rest F₁₄ hgk N₁₄ (fun _ hp => .tail _ (.tail _ (.tail _ (.tail _ (.tail _ (.tail _ (.tail _ (.tail _ hp)))))))) (by simp)
                    have R₁₄ : Rd w mg mb h₁₄ := R.keeps E₁₄
                    refine lead_spec R₁₄ ?_ rfl ?_ Pg _ _ _ p0 p1 p2 (News.isList N₁₄ (.head _)) (i + 1) m1 (j + 1) hI20 hM20 hJ20 (lead_drow hI20 hM20 hJ20) ?_
                    · show dp + 1 + 5 < _; omega
                    · dsimp only; omega
                    intro xt h₁₅ tk₁₅ e₁₅ hk₁₅' hxt
                    dsimp only at e₁₅ hxt
                    have F₁₅ := frKeep F₁₄ e₁₅
                    have N₁₅ := newsApp (newsSub (news' := [(Pg, listOf #[.str (drow (i + 1)) p0, .str (drow m1) p1, .str (drow (j + 1)) p2] nPg), (B, listOf ys nB), (Ld, listOf (lr.map Value.ref).toArray nL), (Rk, listOf #[.int ((loN q : Nat) : Int) w0, .int r1 w1, .int ((hiN q : Nat) : Int) w2] er),
                      (L + 1 + 1 + 1 + 1, o4), (L + 1 + 1 + 1, o3'), (L + 1 + 1, o2), (L + 1, o1)]) (newsKeep N₁₄ e₁₅) (by k_allIn)) (news_rest (M := LM L) (h := h₁₅))
                    dsimp only [List.cons_append, List.nil_append] at N₁₅
                    have hLt : LeadM w (LM L) s.heap h₁₅ xt (leadSt (i + 1, m1, j + 1)) := leadM_of hxt E₁₄ (lm_has F₁₄ (newsSub N₁₄ (by k_allIn)))
                    have kb₁₅ := kb₁₄.trans (KB.of (M := LM L) e₁₅)
                    clear F₁₄ N₁₄ hxt e₁₅ kb₁₂ kb₁₄ off
                    have off : OwnOff (rest s.heap L (LM L) h₁₅) (LM L) := off_rest
                    have hgk15 : Ext s.heap h₁₅ := F₁₅.keep
                    dsimp only
                    repeat ((fail_if_success (with_reducible show wpAny _ _ (eval (Expr.ListComp _ _ _ _) _) _ _ _)); first | walk1 | (dsimp only; walk1))
                    rename_i h₁₆ o4' F₁₆ N₁₆ hc4
                    have kb₁₆' : KB (LM L) h₁₅ h₁₆ := KB.rest F₁₆ hgk15 N₁₆ (fun _ hp => .tail _ (.tail _ (.tail _ (.tail _ (.tail _ (.tail _ (.tail _ (.tail _ hp)))))))) (by simp)
                    have kb₁₆ := kb₁₅.trans kb₁₆'
                    have hLs16 := LeadsAll.kb hls kb₁₆.app
                    have hLt16 := hLt.kb kb₁₆'
                    have hl16 : h₁₆.IsList Ld (lr.map Value.ref).toArray := Heap.PlainList.isList ⟨nL, (N₁₆ _ (.tail _ (.tail _ (.head _)))).1⟩
                    have hlen16 := LF.len
                    refine withTk (by dsimp only; omega) ?_
                    refine comp_list (eqTest lr out (leadSt (i + 1, m1, j + 1))) (fun v y => y = .bool true) (cl := [(Str.ofString "told", L + 1 + 1 + 1 + 1)]) rfl (by decide) rfl (by decide) rfl rfl (fun Q' hq => ?_) hl16 ?_ ?_ ?_ ?_
                    · walk1
                      exact hq
                    · simp; omega
                    · intro C i₂ v s₃ m₃ hC hv hns hm₂ e₂₀ htk₃
                      refine tests_one ?_
                      obtain ⟨oC, hoC, F₃, H₃, N₃⟩ := blockNews F₁₆ hC e₂₀ hns
                      have hv' : ∃ a₂ r₂, v = .ref a₂ ∧ lr[i₂]? = some a₂ ∧ out[i₂]? = some r₂ := by
                        simp only [List.getElem?_toArray, List.getElem?_map, Option.map_eq_some_iff] at hv
                        obtain ⟨a₂, h1, h2⟩ := hv
                        have hlt : i₂ < lr.length := by
                          rcases Nat.lt_or_ge i₂ lr.length with q | q
                          · exact q
                          · rw [List.getElem?_eq_none q] at h1; cases h1
                        exact ⟨a₂, _, h2.symm, h1, List.getElem?_eq_getElem (by rw [← hll]; exact hlt)⟩
                      obtain ⟨a₂, r₂, rfl, ha₂, hr₂⟩ := hv'
                      rw [eqTest_atL hLs16 _ i₂ a₂ r₂ ha₂ hr₂]
                      obtain ⟨x₂, hx₂, hLx₂⟩ := hLs16 i₂ r₂ hr₂
                      rw [ha₂] at hx₂
                      injection hx₂ with hx₂
                      subst hx₂
                      have L₁ := (hLx₂.kb (KB.of e₂₀)).lead
                      have L₂ := (hLt16.kb (KB.of e₂₀)).lead
                      have E₃ : Ext s.heap s₃.heap := F₃.keep
                      have R₃ := R.keeps E₃
                      obtain ⟨_, ⟨dx, D1, D', vs, tb, tn, tt, k1, k2, k3, k4, k5, raw, simple, rfl, hi1, hv1⟩, H1, hM1, _⟩ := hLx₂.kb (KB.of e₂₀)
                      have N₄ := newsApp (newsApp N₃ (newsOf H1 hM1 (by simp))) (newsKeep N₁₆ e₂₀)
                      clear F₁₆ N₁₆
                      dsimp only [List.cons_append, List.nil_append] at N₄
                      dsimp only at htk₃
                      repeat ((fail_if_success (with_reducible show And _ _)); (fail_if_success (with_reducible show wpAny _ _ (call (Value.ref _) _) _ _ _)); first | walk1 | (dsimp only; walk1))
                      refine ⟨R₃.X, ?_⟩
                      refine equal_spec (h₀ := s.heap) R ?_ ?_ ?_ ?_ a₂ xt (leadSt r₂) (leadSt (i + 1, m1, j + 1)) ?_ ?_ ?_
                      rotate_left 3
                      rotate_left 1
                      · exact L₁
                      · exact L₂
                      rotate_left 1
                      · exact E₃
                      · show dp + 1 + 5 < _; omega
                      · rfl
                      · show un + 3 + 100 < cLine; omega
                      intro h₂₀ tk₂₀ e₂₁
                      have F₄ := frKeep F₃ e₂₁
                      have N₅ := newsKeep N₄ e₂₁
                      clear F₃ N₄
                      repeat ((fail_if_success (with_reducible show And _ _)); first | walk1 | (dsimp only; walk1))
                      k_unfold
                      exact ⟨by cases sameNorm (leadSt r₂) (leadSt (i + 1, m1, j + 1)) <;> rfl, keeps_of e₂₁⟩
                    · intro C i₂ v s₃ m₃ hC hv hp hns hm₂ e₂₀ htk₃
                      repeat ((fail_if_success (with_reducible show And _ _)); first | walk1 | (dsimp only; walk1))
                      exact ⟨rfl, ⟨_, _, rfl, fun _ _ q => q⟩⟩
                    · intro D₂ h₁₇ tk₁₇ ys₃ hD₂ hpl₂ hpair e₁₇ hk₁₇
                      have F₁₇ := frKeep F₁₆ e₁₇
                      obtain ⟨nD₂, hD₂'⟩ := id hpl₂
                      dsimp only at hk₁₇ e₁₇ hD₂
                      have HD₂ : Has h₁₆ h₁₇ [(D₂, listOf ys₃ nD₂)] := fun z hz => by
                        rw [List.mem_singleton.mp hz]
                        exact ⟨hD₂', hD₂⟩
                      have N₁₇ := newsApp (HD₂.news F₁₆) (newsKeep N₁₆ e₁₇)
                      dsimp only [List.cons_append, List.nil_append] at N₁₇
                      have hylen : ys₃.size = cameN out (i + 1, m1, j + 1) := by
                        have h1 : ((lr.map Value.ref).filter (eqTest lr out (leadSt (i + 1, m1, j + 1)))).length = ys₃.toList.length := hpair.length
                        rw [came_count hLs16 hll, Array.length_toList] at h1
                        exact h1.symm
                      have hcm : cameN out (i + 1, m1, j + 1) ≤ 100 := by
                        have : cameN out (i + 1, m1, j + 1) ≤ out.length := List.length_filter_le _ _
                        omega
                      have neD₂ := cellsNe (newsSub N₁₆ (by k_allIn)) hD₂
                      have kb₁₇ : KB (LM L) h h₁₇ := kb₁₆.trans (KB.of e₁₇)
                      clear F₁₆ N₁₆
                      dsimp only
                      repeat ((fail_if_success (with_reducible show wpAny _ _ (call (Value.builtin "len") _) _ _ _)); first | walk1 | (dsimp only; walk1))
                      refine len_list hpl₂.isList (by rw [hylen]; omega) ?_
                      rw [hylen]
                      repeat ((fail_if_success (with_reducible show wpAny _ _ (exec (Stmt.Assign [Expr.Name _ _] (Expr.ListComp _ _ _ _) _) _) _ _ _)); first | walk1 | (dsimp only; walk1))
                      rename_i h₁₈ F₁₈ N₁₈
                      have kb₁₈' : KB (LM L) h₁₅ h₁₈ := KB.rest F₁₈ hgk15 N₁₈ (fun _ hp => .tail _ (.tail _ (.tail _ (.tail _ (.tail _ (.tail _ (.tail _ (.tail _ (.tail _ hp))))))))) (by simp)
                      have kb₁₈ := kb₁₅.trans kb₁₈'
                      have hBl : h₁₈.IsList B ys := Heap.PlainList.isList ⟨nB, (N₁₈ _ (.tail _ (.tail _ (.head _)))).1⟩
                      have hBs : ys.size = runsN q := by simpa using hlen
                      have hruns := LF.runs
                      clear kb₁₇ kb₁₆ kb₁₆' hl16 hLs16 hLt16 HD₂ hD₂' hpl₂ hpair hD₂ e₁₇
                      refine withTk (by dsimp only; omega) ?_
                      refine assign_range (s := { s with heap := h₁₈, toks := tk₁₇ + 1 + 1 + 1 }) (lo := 0) (hi := ((runsN q : Nat) : Int)) (runsN q) (fun k y => y = .bool (decide (leftN (i + 1, m1, j + 1) (k + 1) ≤ leftN q (k + 1)))) _ rfl rfl (by decide) rfl (by decide) rfl rfl rfl rfl (by omega) (by decide) (by omega) F₁₈.ns ?_ ?_ ?_
                      · refine withTkN (tk₁₇ + 1 + 1 + 1) (Nat.le_refl _) ?_
                        repeat ((fail_if_success (with_reducible show wpAny _ _ (call (Value.builtin "len") _) _ _ _)); first | walk1 | (dsimp only; walk1))
                        refine len_list hBl (by omega) ?_
                        rw [hBs]
                        repeat ((fail_if_success (with_reducible show Exists _)); first | walk1 | (dsimp only; walk1))
                        rename_i h₁₉ tk₁₉ t₁ u₁ v₁ hr₁ _ _ e₁₉ hk₁₉
                        exact ⟨_, _, _, _, h₁₉, tk₁₉, rfl, rfl, hr₁, e₁₉, hk₁₉⟩
                      · intro C kk t s₃ m₃ hC hkk hns hm₃ e₁₉ htk₃
                        rw [Int.zero_add] at hm₃
                        obtain ⟨oC, hoC, F₃, H₃, N₃⟩ := blockNews F₁₈ hC e₁₉ hns
                        have N₄ := newsApp N₃ (newsKeep N₁₈ e₁₉)
                        have R₃ : Rd w mg mb s₃.heap := R.keeps F₃.keep
                        clear F₁₈ N₁₈
                        dsimp only [List.cons_append, List.nil_append] at N₄
                        dsimp only at htk₃
                        obtain ⟨yk, hyk⟩ : ∃ y, ys[kk]? = some y := ⟨ys[kk]'(by omega), Array.getElem?_eq_getElem (by omega)⟩
                        obtain ⟨tyk, rfl⟩ := hG kk yk (by simpa using hyk)
                        repeat ((fail_if_success (with_reducible show wpAny _ _ (call (Value.ref _) _) _ _ _)); first | walk1 | (dsimp only; walk1))
                        rw [show ((kk : Int) + 1) = ((kk + 1 : Nat) : Int) by omega]
                        refine left_spec (s := { s₃ with toks := s₃.toks + 1 + 1 }) R₃ ?_ ?_ ?_ ?_ Pg (i + 1) m1 (j + 1) (kk + 1) p0 p1 p2 _ (News.isList N₄ (.tail _ (.tail _ (.head _)))) hI20 hM20 hJ20 (by clear hI20 hM20 hJ20 hfit hw3; omega) ?_
                        · show dp + 1 + 9 < _; omega
                        · rfl
                        · show un + 3 + 100 < cLine; omega
                        · dsimp only; omega
                        intro t' h' tk' e' hk'
                        dsimp only at e' hk'
                        rename Fr _ _ _ _ => F₃
                        have F₄ := frKeep F₃ e'
                        have N₅ := newsKeep N₄ e'
                        have hBl' : h'.IsList B ys := Heap.PlainList.isList ⟨nB, (N₅ _ (.tail _ (.tail _ (.tail _ (.head _))))).1⟩
                        clear F₃ N₄
                        dsimp only
                        repeat ((fail_if_success (with_reducible show wpAny _ _ (subscriptTail _ _ _ _) _ _ _)); first | walk1 | (dsimp only; walk1))
                        refine item_list hBl' (by omega) (by omega) (x := .int ((leftN q (kk + 1) : Nat) : Int) tyk) (by simpa using hyk) ?_
                        repeat ((fail_if_success (with_reducible show And _ _)); first | walk1 | (dsimp only; walk1))
                        k_unfold
                        refine ⟨?_, keeps_of e'⟩
                        show Value.bool (decide (((leftN (i + 1, m1, j + 1) (kk + 1) : Nat) : Int) ≤ ((leftN q (kk + 1) : Nat) : Int))) = _
                        congr 1
                        simp only [decide_eq_decide]
                        exact Int.ofNat_le
                      · intro Lf h₂₀ tk₂₀ ys₄ hLf hpl₄ hlen₄ hG₄ hns hkL hk₂₀
                        dsimp only at hLf hkL hk₂₀
                        have F₂₀ := frSet F₁₈ hns hkL
                        have hys₄ := list_range hlen₄ hG₄
                        obtain ⟨nLf, hLf'⟩ := id hpl₄
                        have HLf : Has h₁₈ h₂₀ [(Lf, listOf ys₄ nLf)] := fun z hz => by
                          rw [List.mem_singleton.mp hz]
                          exact ⟨hLf', hLf⟩
                        have N₂₀ := newsApp (HLf.news F₁₈) (newsSet N₁₈ hkL)
                        have neLf := cellsNe (newsSub N₁₈ (by k_allIn)) hLf
                        have kb₂₀ : KB (LM L) h h₂₀ := kb₁₈.trans fun b o hb e => hkL b o (fun z => hb (by rw [show b = L from z]; simp)) e
                        obtain ⟨ok1, ok2⟩ := turn_ok LF hi3 hj3 hfit
                        rw [epg] at ok1 ok2
                        clear F₁₈ N₁₈ HLf hns hkL
                        dsimp only [List.cons_append, List.nil_append] at N₂₀
                        dsimp only
                        repeat ((fail_if_success (with_reducible show wpAny _ _ (isTrue _ _ _) _ _ _)); first | walk1 | (dsimp only; walk1))
                        refine cut (fun b s' => Stop (b = false ∧ ∃ tk', 1 ≤ tk' ∧ s' = { s with heap := h₂₀, toks := tk' })) ?_ ?_
                        · have hb₄ : ys₄.toList = ((List.range (runsN q)).map fun k => decide (leftN (i + 1, m1, j + 1) (k + 1) ≤ leftN q (k + 1))).map Value.bool := by
                            rw [hys₄, List.map_map]; rfl
                          have hall : (((List.range (runsN q)).map fun k => decide (leftN (i + 1, m1, j + 1) (k + 1) ≤ leftN q (k + 1))).all fun b => b) = dueB q (i + 1) (j + 1) := by
                            rw [← ok2, List.all_map]; rfl
                          rw [ok1] at F₂₀
                          cases hdu : dueB q (i + 1) (j + 1) with
                          | false =>
                            rw [hdu] at F₂₀ hall
                            rw [if_neg (by decide)] at F₂₀
                            repeat ((fail_if_success (with_reducible show Stop _)); (fail_if_success (with_reducible show wpAny _ _ (compareOp CmpOp.NotIn _ _) _ _ _)); first | walk1 | (dsimp only; walk1))
                            refine notIn_bools (n := nLf) (bs := (List.range (runsN q)).map fun k => decide (leftN (i + 1, m1, j + 1) (k + 1) ≤ leftN q (k + 1))) hLf' hb₄ (by show un + 3 + 10 < cLine; omega) ?_
                            rw [hall]
                            repeat ((fail_if_success (with_reducible show Stop _)); first | walk1 | (dsimp only; walk1))
                            exact Stop.mk ⟨rfl, _, by dsimp only; omega, rfl⟩
                          | true =>
                            rw [hdu] at F₂₀ hall
                            rw [if_pos rfl] at F₂₀
                            repeat ((fail_if_success (with_reducible show Stop _)); (fail_if_success (with_reducible show wpAny _ _ (compareOp CmpOp.NotIn _ _) _ _ _)); first | walk1 | (dsimp only; walk1))
                            refine notIn_bools (n := nLf) (bs := (List.range (runsN q)).map fun k => decide (leftN (i + 1, m1, j + 1) (k + 1) ≤ leftN q (k + 1))) hLf' hb₄ (by show un + 3 + 10 < cLine; omega) ?_
                            rw [hall]
                            repeat ((fail_if_success (with_reducible show Stop _)); first | walk1 | (dsimp only; walk1))
                            exact Stop.mk ⟨rfl, _, by dsimp only; omega, rfl⟩
                        · rintro b s' ⟨rfl, tk₂₁, hk₂₁, rfl⟩
                          rw [if_neg (by decide)]
                          repeat ((fail_if_success (with_reducible show And _ _)); first | walk1 | (dsimp only; walk1))
                          rename_i h₂₂ F₂₂ N₂₂
                          have ec : innerSum q out (i + 1) (j + 1) = innerSum q out (i + 1) j + cameN out (i + 1, m1, j + 1) := by
                            show _ + turnCame q out (i + 1) (j + 1) = _
                            unfold turnCame; rw [if_pos hfit, epg]
                          have ei : ((outerSum q out i + innerSum q out (i + 1) j : Nat) : Int) + ((cameN out (i + 1, m1, j + 1) : Nat) : Int) = ((outerSum q out i + innerSum q out (i + 1) (j + 1) : Nat) : Int) := by rw [ec]; omega
                          rw [ei] at F₂₂
                          have kb₂₂ : KB (LM L) h h₂₂ := kb₁₅.trans (KB.rest F₂₂ hgk15 N₂₂ (fun _ hp => .tail _ (.tail _ (.tail _ (.tail _ (.tail _ (.tail _ (.tail _ (.tail _ (.tail _ (.tail _ hp)))))))))) (by simp))
                          refine ⟨⟨?_, ?_⟩, ?_⟩
                          · exact ⟨h₂₂, _, _, o1, o2, o3', o4', _, _, rfl, by dsimp only; omega, F₂₂, ⟨rfl, rfl, rfl, rfl, rfl, trivial⟩, newsSub N₂₂ (by k_allIn), ⟨⟨_, hc4⟩, ⟨_, hc3⟩, b2⟩, LeadsAll.kb hls kb₂₂.app, hX⟩
                          · exact kb₂₂ _ _ (hX _ (.tail _ (.head _))).2.1 hIt10
                          · exact kb₂₂ _ _ (hX _ (.head _)).2.1 hJt
              · intro s' x
                exact ⟨rfl, x.1.leave.drop, x.2⟩
            · rintro f s' ⟨rfl, x, y⟩
              exact wpAny_execs_nil ⟨x, y⟩
          · intro s' x
            exact ⟨rfl, x.leave⟩
        · rintro f s' ⟨rfl, st9⟩
          obtain ⟨h, tk, m, o1, o2, o3, o4, tw, tc, rfl, hk1, F, hm, N, hc, hls, hX⟩ := st9
          rw [LF.sum] at hm
          have F₅ := frAt _ F hm
          dsimp only [List.foldr] at F₅
          have hlen16 := LF.len
          have hLdl : h.IsList Ld (lr.map Value.ref).toArray := Heap.PlainList.isList ⟨nL, (N _ (.tail _ (.head _))).1⟩
          dsimp only [lawFx, List.cons_append, List.nil_append] at N
          clear F
          have hE : Ext s.heap h := F₅.keep
          dsimp only
          repeat ((fail_if_success (with_reducible show wpAny _ _ (call (Value.builtin "len") _) _ _ _)); first | walk1 | (dsimp only; walk1))
          refine len_list hLdl (by simp; omega) ?_
          rw [show (lr.map Value.ref).toArray.size = out.length by simp [hll]]
          k_steps
          rw [beq_self_eq_true]
          exact hret _ _ hE
end Mine
end
section
open PySem PySem.W PyProof.Rows PySem.Calls
set_option maxRecDepth 100000
set_option maxHeartbeats 8000000
namespace Mine
theorem law_holds : PySem.Challenge.rw_rl0056_01.Holds := by
  w_on
  refine hd ?_
  k_fill
  intro w s₀ s₁ mg mb G Y fa o pm cd doc dV kV ho hd hcd hD hmg hg args vals as hpre hlay hrd hwl hlo
  have KX := kIn_of Y
  have X := (Ground.X G).1
  have V := (Ground.X G).2
  refine Ground.open G ?_
  intro T B D TE TW
  try (refine guard_noD D (by decide +kernel) ?_; clear D)
  have R : Rd w mg mb s₁.heap := ⟨KX, topRead_of T⟩
  have hfa : fa = 150 := by
    have e1 := mg_of (n := Str.ofString "law") KX T.g (v := .ref 150) (by k_is)
    have e2 : mg (Str.ofString "law") = some (.ref fa) := hmg
    rw [e1] at e2
    injection e2 with e2
    injection e2 with e2
    exact e2.symm
  subst hfa
  clear ho hd hcd hD
  wrow_args hpre hlay hrd hwl hlo
  rename_i hI _ _ _
  refine wpAny_mono (law_spec (Q := fun v s' => GoodWG _ _ _ _ _ (Except.ok (Flow.ret v)) s') R (by decide) rfl (by decide) _ _ _ (by assumption) hI (by have := hI.length; omega) ?_) (fun _ _ x => x) fun _ _ x => x.elim
  intro h' tk' F
  refine GoodW.toG ⟨.inl ⟨.bool true, .bool true, [], rfl, ?_, .bool true, ?_, unshared_nil⟩, F, rfl, hg⟩
  · exact raisesW_false (by wrow_none_raised)
  · wrow_post
end Mine
end
theorem PySem.Challenge.cw_rl0056_01_holds : PySem.Challenge.rw_rl0056_01.Holds :=
  Mine.law_holds
