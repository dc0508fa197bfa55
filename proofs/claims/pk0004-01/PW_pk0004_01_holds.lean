import PyProof.Rows.All
import Wide.All
import OpenK.AllK
import Wide.FinOn
import PySem.Challenge.RW_pk0004_01
set_option Elab.async false

section
open PySem PySem.W PyProof.Rows
set_option maxRecDepth 100000
set_option maxHeartbeats 8000000
namespace Mine
open_top hd for PySem.Challenge.rw_pk0004_01
end Mine
end

section
open PySem PyProof.Rows
namespace Mine
namespace Pl
/-- where the first k signs 39 stand -/
noncomputable def occ (k : Nat) (i : Nat) : List Nat → List Nat
  | [] => []
  | c :: r => if c = 39 ∧ 0 < k then i :: occ (k - 1) (i + 1) r else occ k (i + 1) r
theorem occ_zero (i : Nat) : ∀ l, occ 0 i l = []
  | [] => rfl
  | c :: r => by simp [occ, occ_zero (i + 1) r]
theorem occ_free (k : Nat) : ∀ (l : List Nat) (i : Nat) (r : List Nat), 39 ∉ l → occ k i (l ++ r) = occ k (i + l.length) r
  | [], i, r, _ => by simp
  | c :: l, i, r, h => by
    have hc : c ≠ 39 := fun e => h (e ▸ List.mem_cons_self)
    have := occ_free k l (i + 1) r fun q => h (List.mem_cons_of_mem _ q)
    simp [occ, hc, this, Nat.add_assoc, Nat.add_comm 1]
theorem occ_none (k : Nat) (l : List Nat) (i : Nat) (h : 39 ∉ l) : occ k i l = [] := by
  have := occ_free k l i [] h
  simpa [occ] using this
open Builtin.Str
theorem loop_eq (x : Str) (lim : Nat) : ∀ (r : List Nat) (i : Nat) (acc : Array Nat) (free : Nat), x.cps.toList.drop i = r → free ≤ i → acc.size ≤ lim →
    ((forIn (List.range' i (r.length + 1)) (acc, free) (StrLaws.occBody x ⟨#[39]⟩ x.length lim)).run.fst.toList = acc.toList ++ occ (lim - acc.size) i r)
  | [], i, acc, free, h, hf, hs => by
    have hl : x.cps.toList.length ≤ i := List.drop_eq_nil_iff.mp h
    have hl' : x.length ≤ i := by simpa [Str.length] using hl
    rw [List.length_nil, Nat.zero_add, List.range'_one, List.forIn_cons]
    unfold StrLaws.occBody
    rw [if_neg (by rintro ⟨⟨_, q⟩, _⟩; have : (⟨#[39]⟩ : Str).length = 1 := rfl; omega)]
    show acc.toList = _
    simp [occ]
  | c :: r, i, acc, free, h, hf, hs => by
    have hlt : i < x.length := by
      rcases Nat.lt_or_ge i x.cps.toList.length with q | q
      · simpa [Str.length] using q
      · rw [List.drop_of_length_le q] at h; cases h
    have hd : x.cps.toList.drop (i + 1) = r := by
      have := congrArg List.tail h
      simpa using this
    have hsub : subAt x ⟨#[39]⟩ i = decide (c = 39) := by
      rw [StrLaws.subAt_eq, h]
      show (List.take 1 (c :: r) == [39]) = _
      by_cases hc : c = 39 <;> simp [hc]
    rw [List.length_cons, List.range'_succ, List.forIn_cons]
    unfold StrLaws.occBody
    by_cases hc : c = 39 ∧ acc.size < lim
    · rw [if_pos ⟨⟨⟨hc.2, hf⟩, hlt⟩, by rw [hsub]; simpa using hc.1⟩]
      have ih := loop_eq x lim r (i + 1) (acc.push i) (i + 1) hd (Nat.le_refl _) (by rw [Array.size_push]; omega)
      show (forIn (List.range' (i + 1) (r.length + 1)) (acc.push i, i + 1) (StrLaws.occBody x ⟨#[39]⟩ x.length lim)).run.fst.toList = _
      rw [ih]
      have e1 : lim - acc.size ≠ 0 := by omega
      have e2 : lim - (acc.size + 1) = lim - acc.size - 1 := by omega
      simp [occ, hc.1, e1, e2, Nat.pos_iff_ne_zero]
    · rw [if_neg (by rintro ⟨⟨⟨q, _⟩, _⟩, q'⟩; rw [hsub] at q'; exact hc ⟨by simpa using q', q⟩)]
      have ih := loop_eq x lim r (i + 1) acc free hd (by omega) hs
      show (forIn (List.range' (i + 1) (r.length + 1)) (acc, free) (StrLaws.occBody x ⟨#[39]⟩ x.length lim)).run.fst.toList = _
      rw [ih]
      have e : ¬ (c = 39 ∧ 0 < lim - acc.size) := fun q => hc ⟨q.1, by omega⟩
      simp [occ, e]
theorem occs_eq (l : List Nat) (lim : Nat) : occurrences (⟨l.toArray⟩ : Str) ⟨#[39]⟩ 0 (⟨l.toArray⟩ : Str).length lim = occ lim 0 l := by
  rw [StrLaws.occ_eq]
  have := loop_eq ⟨l.toArray⟩ lim l 0 #[] 0 (by simp) (Nat.le_refl _) (Nat.zero_le _)
  have hl : (⟨l.toArray⟩ : Str).length + 1 - 0 = l.length + 1 := by simp [Str.length]
  rw [hl]
  simpa using this
abbrev T (l : List Nat) : Str := ⟨l.toArray⟩
theorem sub_T (l : List Nat) (i j : Nat) : strSub (T l) i j = T ((l.take j).drop i) := by
  unfold strSub
  show (⟨l.toArray.extract i j⟩ : Str) = ⟨((l.take j).drop i).toArray⟩
  congr 1
  apply Array.toList_inj.mp
  simp only [Array.toList_extract, List.extract_eq_take_drop, List.take_drop]
  rcases Nat.le_total i j with q | q
  · rw [show i + (j - i) = j by omega]
  · rw [show i + (j - i) = i by omega, List.drop_of_length_le (by rw [List.length_take]; omega), List.drop_of_length_le (by rw [List.length_take]; omega)]
theorem tick : Str.ofString "'" = T [39] := by decide
theorem split_none {l : List Nat} (h : 39 ∉ l) : Txt.splitMax (T l) "'" 2 = [T l] := by
  unfold Txt.splitMax
  rw [tick]
  split
  · rfl
  · have e : occurrences (T l) (T [39]) 0 (T l).length (limitOf (T l) 2) = [] := (occs_eq l _).trans (occ_none _ _ _ h)
    rw [e]; rfl
theorem kind_T {l : List Nat} : ¬ (Builtin.Str.strKind (T l) < Builtin.Str.strKind (T [39])) := by
  have : Builtin.Str.strKind (T [39]) = 1 := by decide +kernel
  rw [this]
  unfold Builtin.Str.strKind
  split
  · decide
  · split <;> decide
theorem split_one {a : List Nat} (h : 39 ∉ a) : (Txt.splitMax (T (a ++ [39])) "'" 2).length ≤ 2 := by
  unfold Txt.splitMax
  rw [tick]
  split
  · show 1 ≤ 2; decide
  · have e : occurrences (T (a ++ [39])) (T [39]) 0 (T (a ++ [39])).length (limitOf (T (a ++ [39])) 2) = [a.length] := by
      refine (occs_eq _ _).trans ?_
      rw [occ_free _ _ _ _ h]
      show occ 2 (0 + a.length) [39] = _
      simp [occ]
    rw [e, if_neg (by simp), length_partsBetween]
    show 2 ≤ 2
    decide
theorem split_two {a b r : List Nat} (ha : 39 ∉ a) (hb : 39 ∉ b) : Txt.splitMax (T (a ++ [39] ++ (b ++ [39] ++ r))) "'" 2 = [T a, T b, T r] := by
  unfold Txt.splitMax
  rw [tick]
  have e : occurrences (T (a ++ [39] ++ (b ++ [39] ++ r))) (T [39]) 0 (T (a ++ [39] ++ (b ++ [39] ++ r))).length (limitOf (T (a ++ [39] ++ (b ++ [39] ++ r))) 2) = [a.length, a.length + 1 + b.length] := by
    refine (occs_eq _ _).trans ?_
    show occ 2 0 _ = _
    rw [List.append_assoc, occ_free _ _ _ _ ha, List.append_assoc]
    simp only [List.cons_append, List.nil_append, occ]
    rw [if_pos (by decide), occ_free _ _ _ _ hb]
    simp [occ, occ_zero]
  have hc : (decide ((T (a ++ [39] ++ (b ++ [39] ++ r))).length < (T [39]).length) || decide (Builtin.Str.strKind (T (a ++ [39] ++ (b ++ [39] ++ r))) < Builtin.Str.strKind (T [39]))) = false := by
    rw [Bool.or_eq_false_iff]
    refine ⟨?_, decide_eq_false kind_T⟩
    simp [Str.length]
  rw [hc, e, if_neg (by decide), if_neg (by simp)]
  unfold partsBetween
  simp only [List.map_cons, List.map_nil, List.cons_append, List.nil_append, List.zip_cons_cons, List.zip_nil_right, sub_T]
  have hl : (T [39]).length = 1 := rfl
  have hL : (T (a ++ [39] ++ (b ++ [39] ++ r))).length = a.length + 1 + (b.length + 1 + r.length) := by simp [Str.length]; omega
  rw [hl, hL]
  have q1 : List.take a.length (a ++ [39] ++ (b ++ [39] ++ r)) = a := by rw [List.append_assoc]; exact List.take_left
  have q2 : List.drop (a.length + 1) (List.take (a.length + 1 + b.length) (a ++ [39] ++ (b ++ [39] ++ r))) = b := by
    rw [show a ++ [39] ++ (b ++ [39] ++ r) = (a ++ [39] ++ b) ++ ([39] ++ r) by simp, List.take_left' (by simp; omega), List.drop_left' (by simp)]
  have q3 : List.drop (a.length + 1 + b.length + 1) (List.take (a.length + 1 + (b.length + 1 + r.length)) (a ++ [39] ++ (b ++ [39] ++ r))) = r := by
    rw [List.take_of_length_le (by simp; omega), show a ++ [39] ++ (b ++ [39] ++ r) = (a ++ [39] ++ b ++ [39]) ++ r by simp, List.drop_left' (by simp; omega)]
  rw [q1, q2, q3, List.drop_zero]
end Pl
end Mine
end

section
open PySem PySem.W PyProof.Rows PySem.Calls
set_option maxRecDepth 100000
set_option maxHeartbeats 1000000
namespace Mine

/-- what every call of ours may lean on -/
structure Base (w : World) (h : Heap) : Prop where
  X : (hd.heap_39 w.params).In h
  g : ∃ mg, h.Ns mainGlobals mg
  b : ∃ mb, h.Ns builtinsNs mb ∧ ∀ x : Str, x ≠ "__name__" → mb x = bootBuiltins x
  lim : h.NoLimit
theorem Base.keeps {w : World} {h h' : Heap} (B : Base w h) (hk : ∀ b o, h.get? b = some o → h'.get? b = some o) : Base w h' where
  X := B.X.keeps hk
  g := B.g.elim fun mg e => ⟨mg, e.keeps hk⟩
  b := B.b.elim fun mb e => ⟨mb, e.1.keeps hk, e.2⟩
  lim := B.lim.keeps hk

/-- room on the stacks, no exception at hand -/
structure Room (A : Around) (d : Nat) : Prop where
  hh : A.handled = none
  depth : A.depth + d ≤ 900
  units : A.units + 8 * d ≤ 9000
theorem Room.lt {A : Around} {d : Nat} (R : Room A d) : A.depth < recursionLimit := by have := R.depth; unfold recursionLimit; omega
theorem Room.un {A : Around} {d : Nat} (R : Room A d) : A.units < cLine := by have := R.units; unfold cLine; omega
theorem Room.deeper {A : Around} {d : Nat} {env : Env} (R : Room A (d + 1)) : Room (A.deeper env) d where
  hh := R.hh
  depth := by have := R.depth; show A.depth + 1 + d ≤ 900; omega
  units := by have := R.units; show A.units + 3 + 8 * d ≤ 9000; omega
theorem Room.less {A : Around} {d : Nat} (R : Room A (d + 1)) : Room A d where
  hh := R.hh
  depth := by have := R.depth; omega
  units := by have := R.units; omega
theorem Room.in1 {A : Around} {d : Nat} (R : Room A (d + 1)) : Room A.in1 d where
  hh := R.hh
  depth := by have := R.depth; show A.depth + d ≤ 900; omega
  units := by have := R.units; show A.units + 1 + 8 * d ≤ 9000; omega

noncomputable def fn (P : Params) (a : Addr) : FuncData := match (hd.heap_39 P).lookup a with
  | some ⟨_, _, .func fd, _⟩ => fd
  | _ => docDef "" ⟨[], [], none, [], [], none, []⟩ [] ⟨.function, [], false, false, []⟩ .none .none .none
noncomputable def body (P : Params) (a : Addr) : List Stmt := match (fn P a).body with
  | .stmts b => b
  | _ => []
noncomputable abbrev env (P : Params) (a : Addr) (L : Addr) : Env := envOf (fn P a).qualname (fn P a).scope L a (fn P a).code

/-- objects that are no namespaces stay -/
def Sub (h h' : Heap) : Prop := ∀ b o, (∀ es n, o.data ≠ .dict es n) → h.get? b = some o → h'.get? b = some o
theorem Sub.refl (h : Heap) : Sub h h := fun _ _ _ e => e
theorem Sub.trans {h h' h'' : Heap} (a : Sub h h') (b : Sub h' h'') : Sub h h'' := fun x o n e => b x o n (a x o n e)
theorem Sub.of_le {h h' : Heap} (k : ∀ b o, h.get? b = some o → h'.get? b = some o) : Sub h h' := fun b o _ e => k b o e
theorem Sub.of_ns {h h' : Heap} {L : Addr} {m : Str → Option Value} (n : h.Ns L m) (s : Heap.SameBut L h h') : Sub h h' := fun b o nd e => by
  by_cases q : b = L
  · subst q
    obtain ⟨o', es, ep, ho, hd, _⟩ := n
    rw [ho] at e; cases e
    exact absurd hd (nd es ep)
  · exact (s.2 b q).trans e
/-- a word about the heap that only grows and stored names leave true -/
def Stable (P : Heap → Prop) : Prop := ∀ h h', Sub h h' → P h → P h'
theorem Stable.and {P P' : Heap → Prop} (a : Stable P) (b : Stable P') : Stable fun h => P h ∧ P' h := fun h h' s x => ⟨a h h' s x.1, b h h' s x.2⟩
theorem Stable.true : Stable fun _ => True := fun _ _ _ _ => trivial
theorem Stable.isList (a : Addr) (xs : Array Value) : Stable fun h => h.IsList a xs := fun h h' s ⟨o, ho, hc, n, hd⟩ => ⟨o, s a o (fun es k e => by rw [hd] at e; cases e) ho, hc, n, hd⟩
theorem Stable.isTup (a : Addr) (xs : Array Value) : Stable fun h => IsTup h a xs := fun h h' s ⟨o, ho, hc, n, hd⟩ => ⟨o, s a o (fun es k e => by rw [hd] at e; cases e) ho, hc, n, hd⟩

/-- the state inside a def's body: entered at s₀, locals m at L, P of the heap -/
structure St (s₀ : Shared) (L : Addr) (m : Str → Option Value) (P : Heap → Prop) (s : Shared) : Prop where
  eq : ∃ h tk, s = { s₀ with heap := h, toks := tk }
  F : Fr s₀.heap L s.heap m
  sP : Stable P
  p : P s.heap

section
variable {prog : Program} {w : World} {A : Around} {E : Value → Shared → Prop} {s s₀ : Shared} {L : Addr} {m : Str → Option Value} {P : Heap → Prop}

theorem St.toks (H : St s₀ L m P s) (n : Nat) : St s₀ L m P { s with toks := n } := by
  obtain ⟨⟨h, tk, rfl⟩, F, sP, p⟩ := H
  exact ⟨⟨h, n, rfl⟩, F, sP, p⟩
theorem St.keep (H : St s₀ L m P s) {s' : Shared} (k : Keeps s s') : St s₀ L m P s' := by
  obtain ⟨⟨h, tk, rfl⟩, F, sP, p⟩ := H
  obtain ⟨h', tk', rfl, k⟩ := k
  exact ⟨⟨h', tk', rfl⟩, F.keeps k, sP, sP _ _ (Sub.of_le k) p⟩
theorem St.keeps (H : St s₀ L m P s) {h' : Heap} {n : Nat} (k : ∀ b o, s.heap.get? b = some o → h'.get? b = some o) : St s₀ L m P { s with heap := h', toks := n } :=
  H.keep ⟨h', n, rfl, k⟩
theorem St.more (H : St s₀ L m P s) {P' : Heap → Prop} (sP' : Stable P') (p' : P' s.heap) : St s₀ L m (fun h => P h ∧ P' h) s :=
  ⟨H.eq, H.F, H.sP.and sP', H.p, p'⟩
theorem St.less (H : St s₀ L m P s) {P' : Heap → Prop} (sP' : Stable P') (p' : ∀ h, P h → P' h) : St s₀ L m P' s :=
  ⟨H.eq, H.F, sP', p' _ H.p⟩
theorem St.base (H : St s₀ L m P s) (B : Base w s₀.heap) : Base w s.heap := B.keeps H.F.keep
theorem St.done (H : St s₀ L m P s) : Keeps s₀ s := by
  obtain ⟨⟨h, tk, rfl⟩, F, sP, p⟩ := H
  exact ⟨h, tk, rfl, F.keep⟩

/-- a call of one of the text's defs -/
theorem enter {a : Addr} {R : Result → Shared → Prop} {args : Args} {binds : List (Str × Value)} {oc : Value} {od : Option Addr} {osl : Array (Option Value)}
    (B : Base w s.heap) (hroom : A.depth < recursionLimit)
    (ho : (hd.heap_39 w.params).lookup a = some ⟨oc, od, .func (fn w.params a), osl⟩) (hbody : (fn w.params a).body = .stmts (body w.params a)) (hcd : codeIn (hd.heap_39 w.params) (fn w.params a).code (fn w.params a).qualname = true)
    (hcall : ∀ L, callEnv (fn w.params a) L a = env w.params a L)
    (hbind : bindArgs (fn w.params a) args = pure binds) (hcell : ((fn w.params a).scope.names.all fun x => x.2 != .cell) = true) (hloc : ∀ x ∈ binds, (fn w.params a).scope.names.lookup x.1 = some .local)
    (hco : (fn w.params a).scope.isCoroutine = false) (hgen : (fn w.params a).scope.isGenerator = false) (hk : (fn w.params a).scope.kind = .function)
    (h : ∀ L s₁, St s L (fun x => binds.reverse.lookup x) (fun _ => True) s₁ →
      wpAny (model prog w) (A.deeper (env w.params a L)) (execs (body w.params a) (env w.params a L)) (fun f s' => R (.ok (.ret (match f with | .ret v => v | _ => .none))) s') (fun _ _ => False) s₁) :
    codeAny (model prog w) A (.call (.ref a) args) R s := by
  refine codeAny_call_def (fd := fn w.params a) (body := body w.params a) (binds := binds) hroom (B.X _ _ ho) rfl B.lim (codeRec_of B.X hcd) hbody (.of_eq hbind) (fun x hx => by simpa using List.all_eq_true.mp hcell x hx) hloc (fun h₁ hns hk₁ => ?_) hco hgen hk
  rw [hcall]
  exact wpAny_mono (h s.heap.objs.size _ ⟨⟨h₁, _, rfl⟩, ⟨hns, hk₁, Nat.le_refl _⟩, Stable.true, trivial⟩) (fun _ _ x => x) fun _ _ x => x.elim
end
end Mine
end

section
open PySem PySem.W PyProof.Rows PySem.Calls
set_option maxRecDepth 100000
set_option maxHeartbeats 1000000
namespace Mine
section
variable {prog : Program} {w : World} {A : Around} {E : Value → Shared → Prop} {s s₀ : Shared} {L : Addr} {m : Str → Option Value} {P : Heap → Prop}
  {n : Str} {sc : Scope} {a : Addr} {cd : Value}

/-- every object of the call's own, on one ledger -/
theorem St.full (H : St s₀ L m P s) : ∃ news, News s₀.heap L s.heap news ∧
    ∀ h' tk m', Fr s₀.heap L h' m' → News s₀.heap L h' news → St s₀ L m' P { s with heap := h', toks := tk } := by
  let cand : List (Addr × Obj) := (List.range s.heap.objs.size).filterMap fun b => match s.heap.get? b, s₀.heap.get? b with
    | some o, none => if b = L then none else some (b, o)
    | _, _ => none
  have key : ∀ b o, (b, o) ∈ cand ↔ (s.heap.get? b = some o ∧ b ≠ L ∧ s₀.heap.get? b = none) := by
    intro b o
    simp only [cand, List.mem_filterMap, List.mem_range]
    constructor
    · rintro ⟨c, hc, e⟩
      revert e
      cases h1 : s.heap.get? c with
      | none => intro e; cases e
      | some o' =>
        cases h2 : s₀.heap.get? c with
        | some o'' => intro e; cases e
        | none =>
          intro e
          by_cases q : c = L
          · simp [q] at e
          · simp [q] at e
            obtain ⟨rfl, rfl⟩ := e
            exact ⟨h1, q, h2⟩
    · rintro ⟨h1, h2, h3⟩
      exact ⟨b, Heap.lt_size h1, by simp [h1, h2, h3]⟩
  refine ⟨cand, fun p hp => (key p.1 p.2).mp hp, fun h' tk m' F' N' => ?_⟩
  obtain ⟨⟨h, tk₀, rfl⟩, F, sP, p⟩ := H
  refine ⟨⟨h', tk, rfl⟩, F', sP, sP _ _ (fun b o nd e => ?_) p⟩
  cases h2 : s₀.heap.get? b with
  | some o' =>
    have := F.keep b o' h2
    rw [e] at this; cases this
    exact F'.keep b _ h2
  | none =>
    by_cases q : b = L
    · subst q
      obtain ⟨o', es, ep, ho, hd, _⟩ := F.ns
      rw [e] at ho; cases ho
      exact absurd hd (nd es ep)
    · exact (N' (b, o) ((key b o).mpr ⟨e, q, h2⟩)).1

theorem nL {x : Str} {pos : Pos} {v : Value} {Q : Value → Shared → Prop} (H : St s₀ L m P s) (hv : m x = some v) (h : Q v s)
    (hk : sc.kind = .function := by rfl) (hl : (envOf n sc L a cd).kindOf x = some .local := by rfl) (hd : (x == ("__debug__" : Str)) = false := by decide) :
    wpAny (model prog w) A (eval (.Name x pos) (envOf n sc L a cd)) Q E s := ld H.F hv h hk hl hd
theorem nG {x : Str} {pos : Pos} {v : Value} {Q : Value → Shared → Prop} (H : St s₀ L m P s) (B : Base w s₀.heap) (e : nsIn (hd.heap_39 w.params) mainGlobals x = some (some v)) (h : Q v s)
    (hk : sc.kind = .function := by rfl) (hx : (envOf n sc L a cd).kindOf x = some .globalImplicit := by rfl) (hd : (x == ("__debug__" : Str)) = false := by decide) :
    wpAny (model prog w) A (eval (.Name x pos) (envOf n sc L a cd)) Q E s := by
  obtain ⟨mg, g⟩ := B.g
  exact ld_global_at H.F g (mg_of B.X g e) h hk hx hd
theorem nB {x : Str} {pos : Pos} {v : Value} {Q : Value → Shared → Prop} (H : St s₀ L m P s) (B : Base w s₀.heap) (e : nsIn (hd.heap_39 w.params) mainGlobals x = some none) (hv : bootBuiltins x = some v) (hn : x ≠ "__name__") (h : Q v s)
    (hk : sc.kind = .function := by rfl) (hx : (envOf n sc L a cd).kindOf x = some .globalImplicit := by rfl) (hd : (x == ("__debug__" : Str)) = false := by decide) :
    wpAny (model prog w) A (eval (.Name x pos) (envOf n sc L a cd)) Q E s := by
  obtain ⟨mg, g⟩ := B.g
  obtain ⟨mb, b, hb⟩ := B.b
  exact ld_builtin_at H.F g (mg_none_of B.X g e) b ((hb x hn).trans hv) h hk hx hd
/-- a store into a local -/
theorem sL {x : Str} {v : Value} {Q : Unit → Shared → Prop} (H : St s₀ L m P s) (h : ∀ s', St s₀ L (fun y => if y = x then some v else m y) P s' → Q () s')
    (hk : sc.kind = .function := by rfl) (hl : (envOf n sc L a cd).kindOf x = some .local := by rfl) :
    wpAny (model prog w) A (storeName (envOf n sc L a cd) x v) Q E s := by
  refine wpAny_storeName_local hl H.F.ns (fun h' hn hs => h _ ?_) (by show (sc.kind == .class || (sc.kind == .module && L != mainGlobals)) = false; rw [hk]; rfl)
  obtain ⟨⟨h, tk, rfl⟩, F, sP, p⟩ := H
  exact ⟨⟨h', _, rfl⟩, F.set hn hs, sP, sP _ _ (Sub.of_ns F.ns hs) p⟩
theorem cI {i : Int} {k : Nat} {pos : Pos} {env : Env} {Q : Value → Shared → Prop} (H : St s₀ L m P s) (h : ∀ s' t, St s₀ L m P s' → Q (.int i t) s') :
    wpAny (model prog w) A (eval (.Constant (.int i) k pos) env) Q E s := wpAny_Constant_int (h _ _ (H.toks _))
theorem cS {x : Str} {k : Nat} {pos : Pos} {env : Env} {Q : Value → Shared → Prop} (H : St s₀ L m P s) (h : ∀ s' t, St s₀ L m P s' → Q (.str x t) s') :
    wpAny (model prog w) A (eval (.Constant (.str x) k pos) env) Q E s := Calls.Constant_str (h _ _ (H.toks _))
theorem cN {k : Nat} {pos : Pos} {env : Env} {Q : Value → Shared → Prop} (h : Q .none s) : wpAny (model prog w) A (eval (.Constant .none k pos) env) Q E s := wpAny_pure h
theorem cB {b : Bool} {k : Nat} {pos : Pos} {env : Env} {Q : Value → Shared → Prop} (h : Q (.bool b) s) : wpAny (model prog w) A (eval (.Constant (.bool b) k pos) env) Q E s := wpAny_pure h

theorem g_TICK (P : Params) : nsIn (hd.heap_39 P) mainGlobals "TICK" = some (some (.str "'" 189)) := by kernel_rfl
theorem g_decode (P : Params) : nsIn (hd.heap_39 P) mainGlobals "decode_rfc2231" = some (some (.ref 21)) := by kernel_rfl
theorem g_Int2AP (P : Params) : nsIn (hd.heap_39 P) mainGlobals "Int2AP" = some (some (.ref 28)) := by kernel_rfl
theorem g_word (P : Params) : nsIn (hd.heap_39 P) mainGlobals "_law_word" = some (some (.ref 33)) := by kernel_rfl
theorem g_number (P : Params) : nsIn (hd.heap_39 P) mainGlobals "_law_number" = some (some (.ref 40)) := by kernel_rfl
theorem g_round (P : Params) : nsIn (hd.heap_39 P) mainGlobals "_law_round" = some (some (.ref 47)) := by kernel_rfl
theorem g_states (P : Params) : nsIn (hd.heap_39 P) mainGlobals "_law_states" = some (some (.ref 54)) := by kernel_rfl
theorem g_line (P : Params) : nsIn (hd.heap_39 P) mainGlobals "_law_line" = some (some (.ref 59)) := by kernel_rfl
theorem b_len (P : Params) : nsIn (hd.heap_39 P) mainGlobals "len" = some none := by kernel_rfl
theorem b_int (P : Params) : nsIn (hd.heap_39 P) mainGlobals "int" = some none := by kernel_rfl
theorem b_abs (P : Params) : nsIn (hd.heap_39 P) mainGlobals "abs" = some none := by kernel_rfl
theorem b_divmod (P : Params) : nsIn (hd.heap_39 P) mainGlobals "divmod" = some none := by kernel_rfl
theorem b_chr (P : Params) : nsIn (hd.heap_39 P) mainGlobals "chr" = some none := by kernel_rfl
theorem b_ord (P : Params) : nsIn (hd.heap_39 P) mainGlobals "ord" = some none := by kernel_rfl
theorem b_range (P : Params) : nsIn (hd.heap_39 P) mainGlobals "range" = some none := by kernel_rfl
theorem b_sum (P : Params) : nsIn (hd.heap_39 P) mainGlobals "sum" = some none := by kernel_rfl
theorem b_sorted (P : Params) : nsIn (hd.heap_39 P) mainGlobals "sorted" = some none := by kernel_rfl
theorem b_bytes (P : Params) : nsIn (hd.heap_39 P) mainGlobals "bytes" = some none := by kernel_rfl
end
end Mine
end

section
open PySem PySem.W PyProof.Rows PySem.Calls
set_option maxRecDepth 100000
set_option maxHeartbeats 1000000
namespace Mine
section
variable {prog : Program} {w : World} {A : Around} {E : Value → Shared → Prop} {s s₀ : Shared} {L : Addr} {m : Str → Option Value} {P : Heap → Prop}
  {n : Str} {sc : Scope} {a : Addr} {cd : Value} {Q : Value → Shared → Prop} {pos : Pos}

theorem methStr {name : Str} {id : String} {x : Str} {t : Tok} {args : List (Bool × Sem Value)} (slot : Slot "str" name id) (ty : typeOf (.builtin id) = pure (.type "method_descriptor"))
    (h : wpAny (model prog w) A (callWith pos (.builtin id) [.str x t] args []) Q E s) : MethodOnS prog w A E name (.str x t) pos args Q s :=
  ⟨"str", id, F.plainAttrs_str, slot, ty, typeIs_str _ _ _, (fun _ e => nomatch e), h⟩
theorem cwB1 {id : String} {first : List Value} {t₁ : Sem Value} (h : wpAny (model prog w) A t₁ (fun v₁ s₁ => wpAny (model prog w) A (call (.builtin id) (first ++ [v₁])) Q E s₁) E s) :
    wpAny (model prog w) A (callWith pos (.builtin id) first [(false, t₁)] []) Q E s :=
  Calls.callWith_builtin rfl (evalArgs_plain (spliced_cons (wpAny_mono h (fun _ _ x => spliced_nil x) fun _ _ x => x)))
theorem cwB2 {id : String} {first : List Value} {t₁ t₂ : Sem Value} (h : wpAny (model prog w) A t₁ (fun v₁ s₁ => wpAny (model prog w) A t₂ (fun v₂ s₂ => wpAny (model prog w) A (call (.builtin id) (first ++ [v₁, v₂])) Q E s₂) E s₁) E s) :
    wpAny (model prog w) A (callWith pos (.builtin id) first [(false, t₁), (false, t₂)] []) Q E s :=
  Calls.callWith_builtin rfl (evalArgs_plain (spliced_cons (wpAny_mono h (fun _ _ x => spliced_cons (wpAny_mono x (fun _ _ x => spliced_nil x) fun _ _ x => x)) fun _ _ x => x)))

section
variable {env : Env} {k : Nat} {e₁ e₂ e₃ e₄ e₅ : Expr} {Ql : List Value → Shared → Prop}
theorem spl1 (h : wpAny (model prog w) A (eval e₁ env) (fun v₁ s₁ => Ql [v₁] s₁) E s) (hs : starEach [e₁] env = [(false, eval e₁ env)] := by rfl) :
    wpAny (model prog w) A (spliced (backTo pos (starEach [e₁] env))) Ql E s := by
  rw [hs]
  exact spliced_cons (wpAny_mono h (fun _ _ x => spliced_nil x) fun _ _ x => x)
theorem spl2 (h : wpAny (model prog w) A (eval e₁ env) (fun v₁ s₁ => wpAny (model prog w) A (eval e₂ env) (fun v₂ s₂ => Ql [v₁, v₂] s₂) E s₁) E s) (hs : starEach [e₁, e₂] env = [(false, eval e₁ env), (false, eval e₂ env)] := by rfl) :
    wpAny (model prog w) A (spliced (backTo pos (starEach [e₁, e₂] env))) Ql E s := by
  rw [hs]
  exact spliced_cons (wpAny_mono h (fun _ _ x => spliced_cons (wpAny_mono x (fun _ _ x => spliced_nil x) fun _ _ x => x)) fun _ _ x => x)
theorem spl3 (h : wpAny (model prog w) A (eval e₁ env) (fun v₁ s₁ => wpAny (model prog w) A (eval e₂ env) (fun v₂ s₂ => wpAny (model prog w) A (eval e₃ env) (fun v₃ s₃ => Ql [v₁, v₂, v₃] s₃) E s₂) E s₁) E s)
    (hs : starEach [e₁, e₂, e₃] env = [(false, eval e₁ env), (false, eval e₂ env), (false, eval e₃ env)] := by rfl) :
    wpAny (model prog w) A (spliced (backTo pos (starEach [e₁, e₂, e₃] env))) Ql E s := by
  rw [hs]
  exact spliced_cons (wpAny_mono h (fun _ _ x => spliced_cons (wpAny_mono x (fun _ _ x => spliced_cons (wpAny_mono x (fun _ _ x => spliced_nil x) fun _ _ x => x)) fun _ _ x => x)) fun _ _ x => x)
theorem spl5 (h : wpAny (model prog w) A (eval e₁ env) (fun v₁ s₁ => wpAny (model prog w) A (eval e₂ env) (fun v₂ s₂ => wpAny (model prog w) A (eval e₃ env) (fun v₃ s₃ => wpAny (model prog w) A (eval e₄ env) (fun v₄ s₄ => wpAny (model prog w) A (eval e₅ env) (fun v₅ s₅ => Ql [v₁, v₂, v₃, v₄, v₅] s₅) E s₄) E s₃) E s₂) E s₁) E s)
    (hs : starEach [e₁, e₂, e₃, e₄, e₅] env = [(false, eval e₁ env), (false, eval e₂ env), (false, eval e₃ env), (false, eval e₄ env), (false, eval e₅ env)] := by rfl) :
    wpAny (model prog w) A (spliced (backTo pos (starEach [e₁, e₂, e₃, e₄, e₅] env))) Ql E s := by
  rw [hs]
  exact spliced_cons (wpAny_mono h (fun _ _ x => spliced_cons (wpAny_mono x (fun _ _ x => spliced_cons (wpAny_mono x (fun _ _ x => spliced_cons (wpAny_mono x (fun _ _ x => spliced_cons (wpAny_mono x (fun _ _ x => spliced_nil x) fun _ _ x => x)) fun _ _ x => x)) fun _ _ x => x)) fun _ _ x => x)) fun _ _ x => x)
end
theorem splitR {x y : Str} {t u v : Tok} {k : Int} (H : St s₀ L m P s) (hy : (y.length == 0) = false) (hk : (decide (k < -(2 ^ 63 : Int)) || decide (k ≥ 2 ^ 63)) = false) (hsz : x.length + 2 ≤ sizeLine)
    (h : ∀ D l s', l.map (·.1) = Txt.splitMax x y k → St s₀ L m (fun h => P h ∧ h.IsList D (strValues l).toArray) s' → Q (.ref D) s') :
    wpAny (model prog w) A (call (.builtin "str.split") [.str x t, .str y u, .int k v]) Q E s := by
  obtain ⟨news, N, back⟩ := H.full
  exact splitN2A H.F N hy hk (fun l h' tk e _ _ hl F' N' => h _ l _ e ((back h' tk m F' fun p hp => N' p (.tail _ hp)).more (Stable.isList _ _) hl)) hsz
theorem lenL {l : Addr} {vs : List Value} (H : St s₀ L m P s) (hl : s.heap.IsList l vs.toArray) (hz : vs.length ≤ sizeLine) (h : ∀ s' t, St s₀ L m P s' → Q (.int vs.length t) s') :
    wpAny (model prog w) A (call (.builtin "len") [.ref l]) Q E s :=
  call_len_list hl (by have : sizeLine = 2 ^ 24 := rfl; simp only [List.size_toArray]; omega) (by rw [List.size_toArray]; exact h _ _ (H.toks _))
theorem newTup {vs : List Value} (H : St s₀ L m P s) (hz : vs.length ≤ sizeLine) (h : ∀ D s', s.heap.get? D = none → St s₀ L m (fun h => P h ∧ IsTup h D vs.toArray) s' → Q (.ref D) s') :
    wpAny (model prog w) A (newTuple vs) Q E s := by
  refine wpAny_newObj_type (h _ _ ?_ ((H.keeps fun b o e => Heap.get?_push_of_some _ e).more (Stable.isTup _ _) (IsTup.new _ _))) (by show vs.toArray.size ≤ sizeLine; rw [List.size_toArray]; exact hz)
  cases e : s.heap.get? s.heap.objs.size with
  | none => rfl
  | some o => exact absurd (Heap.lt_size e) (Nat.lt_irrefl _)
end

def DecOut (h₀ : Heap) (x : Str) (t : Tok) (v : Value) (h : Heap) : Prop :=
  if (Txt.splitMax x "'" 2).length ≤ 2 then ∃ a, v = .ref a ∧ h₀.get? a = none ∧ IsTup h a #[.none, .none, .str x t]
  else ∃ a l, v = .ref a ∧ h.IsList a (strValues l).toArray ∧ l.map (·.1) = Txt.splitMax x "'" 2

theorem splitMax_le (x y : Str) : (Txt.splitMax x y 2).length ≤ 3 := by
  unfold Txt.splitMax
  split
  · show 1 ≤ 3; decide
  · split
    · show 1 ≤ 3; decide
    · rw [length_partsBetween]
      have := StrLaws.occ_length_le x y 0 x.length (limitOf x 2)
      have e : limitOf x 2 = 2 := rfl
      omega

theorem decode_call {prog : Program} {w : World} {A : Around} {s : Shared} {x : Str} {t : Tok} {R : Result → Shared → Prop} (B : Base w s.heap) (rm : Room A 1) (hx : x.length ≤ 1000)
    (h : ∀ v s', Keeps s s' → DecOut s.heap x t v s'.heap → R (.ok (.ret v)) s') : codeAny (model prog w) A (.call (.ref 21) ⟨[.str x t], []⟩) R s := by
  refine enter (binds := [("s", .str x t)]) B rm.lt rfl rfl rfl (fun _ => rfl) rfl rfl (locs rfl) rfl rfl rfl ?_
  intro L s H
  refine wpAny_execs_cons (wpAny_Assign_Name ?_)
  refine Call_method2 rfl rfl rfl ?_
  refine nL H rfl ?_
  refine methStr F.slot_str_split (by first | rfl | kernel_rfl) ?_
  refine cwB2 ?_
  refine nG H B (g_TICK _) ?_
  refine cI H ?_
  intro s t' H
  refine splitR H rfl (by decide) ?_ ?_
  · have : sizeLine = 2 ^ 24 := rfl
    omega
  intro D l s e H
  refine sL H ?_
  intro s H
  refine wpAny_execs_cons (wpAny_If ?_)
  refine wpAny_isTrue_Compare1 ?_
  refine Call_Name1 ?_
  refine nB H B (b_len _) rfl (by decide) ?_
  refine cwB1 ?_
  refine nL H rfl ?_
  have hlen : (strValues l).length = (Txt.splitMax x "'" 2).length := by
    rw [← e]; simp [strValues]
  have hle : (Txt.splitMax x "'" 2).length ≤ 3 := splitMax_le _ _
  refine lenL H H.p.2 (by have : sizeLine = 2 ^ 24 := rfl; omega) ?_
  intro s t' H
  refine cI H ?_
  intro s t' H
  refine le_int ?_
  refine wpAny_truthy_bool ?_
  unfold DecOut at h
  rw [hlen]
  by_cases hc : (Txt.splitMax x "'" 2).length ≤ 2
  · rw [if_pos (by simpa using (by omega : (((Txt.splitMax x "'" 2).length : Nat) : Int) ≤ 2))]
    refine wpAny_execs_cons (wpAny_Return_some ?_)
    refine Tuple_ (spl3 ?_)
    refine cN (cN ?_)
    refine nL H rfl ?_
    refine newTup H (show 3 ≤ sizeLine by decide) ?_
    intro D s' hD H'
    exact h _ _ H'.done (by
      rw [if_pos hc]
      refine ⟨D, rfl, ?_, H'.p.2⟩
      cases e : Heap.get? _ D with
      | none => rfl
      | some o => have := H.F.keep D o e; rw [hD] at this; cases this)
  · rw [if_neg (by simpa using (by omega : ¬ (((Txt.splitMax x "'" 2).length : Nat) : Int) ≤ 2))]
    refine wpAny_execs_nil ?_
    refine wpAny_execs_cons (wpAny_Return_some ?_)
    refine nL H rfl ?_
    exact h _ _ H.done (by rw [if_neg hc]; exact ⟨D, l, rfl, H.p.2, e⟩)
end Mine
end

section
open PySem PySem.W PyProof.Rows PySem.Calls
set_option maxRecDepth 100000
set_option maxHeartbeats 1000000
namespace Mine
section
variable {prog : Program} {w : World} {A : Around} {E : Value → Shared → Prop} {s s₀ : Shared} {L : Addr} {m : Str → Option Value} {P : Heap → Prop}
  {n : Str} {sc : Scope} {a : Addr} {cd : Value} {Q : Value → Shared → Prop} {pos : Pos} {env : Env}

theorem cY {x : List UInt8} {k : Nat} (H : St s₀ L m P s) (h : ∀ s' t, St s₀ L m P s' → Q (.bytes x.toArray t) s') :
    wpAny (model prog w) A (eval (.Constant (.bytes x) k pos) env) Q E s := by
  have := h _ s.toks (H.toks (s.toks + 1))
  exact fun _ _ _ => this
theorem cwT1 {T : String} {t₁ : Sem Value} (h : wpAny (model prog w) A t₁ (fun v₁ s₁ => wpAny (model prog w) A (call (.type T) [v₁]) Q E s₁) E s) :
    wpAny (model prog w) A (callWith pos (.type T) [] [(false, t₁)] []) Q E s :=
  PyProof.Rows.callWith_type rfl (evalArgs_plain (spliced_cons (wpAny_mono h (fun _ _ x => spliced_nil x) fun _ _ x => x)))
theorem absI {i : Int} {t : Tok} (H : St s₀ L m P s) (h : ∀ s' t, St s₀ L m P s' → Q (.int (i.natAbs : Int) t) s') : wpAny (model prog w) A (call (.builtin "abs") [.int i t]) Q E s :=
  call_abs_int fun u tk => by
    have e : (if i < 0 then -i else i) = (i.natAbs : Int) := by split <;> omega
    rw [e]; exact h _ _ (H.toks _)
theorem addI {i j : Int} {t u : Tok} (H : St s₀ L m P s) (h : ∀ s' t, St s₀ L m P s' → Q (.int (i + j) t) s') : wpAny (model prog w) A (binaryOp .Add (.int i t) (.int j u)) Q E s := PyProof.Rows.add_int (h _ _ (H.toks _))
theorem subI {i j : Int} {t u : Tok} (H : St s₀ L m P s) (h : ∀ s' t, St s₀ L m P s' → Q (.int (i - j) t) s') : wpAny (model prog w) A (binaryOp .Sub (.int i t) (.int j u)) Q E s := PyProof.Rows.sub_int (h _ _ (H.toks _))
theorem mulI {i j : Int} {t u : Tok} (H : St s₀ L m P s) (hm : IntMulOk i j) (h : ∀ s' t, St s₀ L m P s' → Q (.int (i * j) t) s') : wpAny (model prog w) A (binaryOp .Mult (.int i t) (.int j u)) Q E s := PyProof.Rows.mul_int (h _ _ (H.toks _)) hm
theorem modI {i j : Int} {t u : Tok} (H : St s₀ L m P s) (hj : j ≠ 0) (h : ∀ s' t, St s₀ L m P s' → Q (.int (i.fmod j) t) s') : wpAny (model prog w) A (binaryOp .Mod (.int i t) (.int j u)) Q E s := PyProof.Rows.mod_int hj (h _ _ (H.toks _))
theorem divI {i j : Int} {t u : Tok} (H : St s₀ L m P s) (hj : j ≠ 0) (hp : Builtin.divisionGoesByPylong i j = false) (h : ∀ s' t, St s₀ L m P s' → Q (.int (i.fdiv j) t) s') : wpAny (model prog w) A (binaryOp .FloorDiv (.int i t) (.int j u)) Q E s := PyProof.Rows.floordiv_int hj (h _ _ (H.toks _)) (.inl hp)
theorem powI {i j : Int} {t u : Tok} (H : St s₀ L m P s) (hj : 0 ≤ j) (hj2 : j ≤ 1000000) (hi : i.natAbs < 2 ^ 64) (h : ∀ s' t, St s₀ L m P s' → Q (.int (i ^ j.toNat) t) s') : wpAny (model prog w) A (binaryOp .Pow (.int i t) (.int j u)) Q E s := pow_int_small hj hj2 hi (h _ _ (H.toks _))
theorem negI {i : Int} {t : Tok} (H : St s₀ L m P s) (h : ∀ s' t, St s₀ L m P s' → Q (.int (-i) t) s') : wpAny (model prog w) A (unaryOp .USub (.int i t)) Q E s := PyProof.Rows.neg_int (h _ _ (H.toks _))
theorem addY {x y : List UInt8} {t u : Tok} (H : St s₀ L m P s) (hz : x.length + y.length ≤ 16777216) (h : ∀ s' t, St s₀ L m P s' → Q (.bytes (x ++ y).toArray t) s') : wpAny (model prog w) A (binaryOp .Add (.bytes x.toArray t) (.bytes y.toArray u)) Q E s :=
  KBy.add_bytes (by simpa using hz) fun t' k => by
    have := h _ t' (H.toks k)
    rwa [← List.append_toArray] at this
theorem divmodI {i j : Int} {t u : Tok} (H : St s₀ L m P s) (hj : j ≠ 0) (hp : Builtin.divisionGoesByPylong i j = false)
    (h : ∀ D s' t t', St s₀ L m (fun h => P h ∧ IsTup h D #[.int (i.fdiv j) t, .int (i.fmod j) t']) s' → Q (.ref D) s') : wpAny (model prog w) A (call (.builtin "divmod") [.int i t, .int j u]) Q E s := by
  obtain ⟨news, N, back⟩ := H.full
  exact divmod_N H.F N hj (fun h' F' N' => h _ _ _ _ ((back h' _ m F' fun p hp => N' p (.tail _ hp)).more (Stable.isTup _ _) (News.isTup N' (.head _)))) (.inl hp)
/-- x, y = (v₁, v₂) -/
theorem unp2 {x y : Str} {p₁ p₂ : Pos} {k : Nat} {t : Addr} {v₁ v₂ : Value} {Qu : Unit → Shared → Prop} (hh : A.handled = none) (H : St s₀ L m P s) (ht : IsTup s.heap t #[v₁, v₂])
    (h : ∀ s', St s₀ L (fun z => if z = y then some v₂ else (if z = x then some v₁ else m z)) P s' → Qu () s')
    (hk : sc.kind = .function := by rfl) (hx : (envOf n sc L a cd).kindOf x = some .local := by rfl) (hy : (envOf n sc L a cd).kindOf y = some .local := by rfl) :
    wpAny (model prog w) A (assign (.Tuple [.Name x p₁, .Name y p₂] k pos) (envOf n sc L a cd) (.ref t)) Qu E s := by
  refine assign_Tuple_tuple hh ht rfl rfl fun h' hx' => ?_
  have H' : St s₀ L m P { s with heap := h' } := H.keeps (n := s.toks) fun b o e => hx' b o (Nat.ne_of_lt (Heap.lt_size e)) e
  show wpAny _ _ (assignInOrder [assign (.Name x p₁) (envOf n sc L a cd), assign (.Name y p₂) (envOf n sc L a cd)] [v₁, v₂]) _ _ _
  refine wpAny_bind (wpAny_holding (wpAny_assign_Name (sL H' (fun s' H' => ?_) hk hx)))
  refine wpAny_bind (wpAny_holding (wpAny_assign_Name (sL H' (fun s' H' => ?_) hk hy)))
  exact wpAny_pure (h _ H')
theorem unp3 {x y z : Str} {p₁ p₂ p₃ : Pos} {k : Nat} {t : Addr} {v₁ v₂ v₃ : Value} {Qu : Unit → Shared → Prop} (hh : A.handled = none) (H : St s₀ L m P s) (ht : IsTup s.heap t #[v₁, v₂, v₃])
    (h : ∀ s', St s₀ L (fun u => if u = z then some v₃ else (if u = y then some v₂ else (if u = x then some v₁ else m u))) P s' → Qu () s')
    (hk : sc.kind = .function := by rfl) (hx : (envOf n sc L a cd).kindOf x = some .local := by rfl) (hy : (envOf n sc L a cd).kindOf y = some .local := by rfl) (hz : (envOf n sc L a cd).kindOf z = some .local := by rfl) :
    wpAny (model prog w) A (assign (.Tuple [.Name x p₁, .Name y p₂, .Name z p₃] k pos) (envOf n sc L a cd) (.ref t)) Qu E s := by
  refine assign_Tuple_tuple hh ht rfl rfl fun h' hx' => ?_
  have H' : St s₀ L m P { s with heap := h' } := H.keeps (n := s.toks) fun b o e => hx' b o (Nat.ne_of_lt (Heap.lt_size e)) e
  show wpAny _ _ (assignInOrder [assign (.Name x p₁) (envOf n sc L a cd), assign (.Name y p₂) (envOf n sc L a cd), assign (.Name z p₃) (envOf n sc L a cd)] [v₁, v₂, v₃]) _ _ _
  refine wpAny_bind (wpAny_holding (wpAny_assign_Name (sL H' (fun s' H' => ?_) hk hx)))
  refine wpAny_bind (wpAny_holding (wpAny_assign_Name (sL H' (fun s' H' => ?_) hk hy)))
  refine wpAny_bind (wpAny_holding (wpAny_assign_Name (sL H' (fun s' H' => ?_) hk hz)))
  exact wpAny_pure (h _ H')
/-- x[i : j] of a bytes, both in it -/
theorem sliceY {x : List UInt8} {t : Tok} {i j : Nat} {ti tj : Tok} (H : St s₀ L m P s) (hij : i ≤ j) (hj : j ≤ x.length) (hz : x.length ≤ 16777216)
    (h : ∀ s' t, St s₀ L m P s' → Q (.bytes ((x.drop i).take (j - i)).toArray t) s') :
    wpAny (model prog w) A (getItem (.bytes x.toArray t) (.ref s.heap.objs.size)) Q E { s with heap := s.heap.push { cls := .type "slice", data := .fields #[.int i ti, .int j tj, .none] } } := by
  have e : KBy.picked x.toArray (some (i : Int)) (some (j : Int)) = ((x.drop i).take (j - i)).toArray := by
    rw [KBc.picked_eq]
    simp only [Option.elim, clipAt_nat, List.size_toArray]
    rw [Nat.min_eq_left hj, Nat.min_eq_left (Nat.le_trans hij hj)]
  refine getItem_meets (typeIs_bytes _ _ _) (by decide) FB.slot_bytes_getitem FB.entry_bytes_getitem (FB.args_bytes_getitem_2 _ _) (KBc.meets_slice2 x.toArray t _ (.int i ti) (.int j tj)) ⟨Heap.IsSliceOf.new _ _ _ _, ?_, fun t' k => ?_⟩
  · rw [e]
    have : sizeLine = 16777216 := rfl
    simp only [List.size_toArray, List.length_take, List.length_drop]
    omega
  · rw [e]
    exact h _ t' (H.keeps fun b o q => Heap.get?_push_of_some _ q)
end

/-- base 16 digits, the greatest first; no digit for nought -/
noncomputable def dg (n : Nat) : List Nat := if h : n = 0 then [] else dg (n / 16) ++ [n % 16]
termination_by n
decreasing_by omega
noncomputable def apB (n : Nat) : List UInt8 := (dg n).map fun d => (65 + d).toUInt8
theorem dg_zero : dg 0 = [] := by rw [dg]; rfl
theorem dg_pos {n : Nat} (h : n ≠ 0) : dg n = dg (n / 16) ++ [n % 16] := by rw [dg, dif_neg h]
theorem apB_zero : apB 0 = [] := by rw [apB, dg_zero]; rfl
theorem apB_pos {n : Nat} (h : n ≠ 0) : apB n = apB (n / 16) ++ [(65 + n % 16).toUInt8] := by rw [apB, dg_pos h, List.map_append]; rfl
theorem apTable {d : Nat} (h : d < 16) : ((([65, 66, 67, 68, 69, 70, 71, 72, 73, 74, 75, 76, 77, 78, 79, 80] : List UInt8).drop d).take 1) = [(65 + d).toUInt8] := by
  have : ∀ d : Fin 16, ((([65, 66, 67, 68, 69, 70, 71, 72, 73, 74, 75, 76, 77, 78, 79, 80] : List UInt8).drop d.val).take 1) = [(65 + d.val).toUInt8] := by decide
  exact this ⟨d, h⟩
end Mine
end

section
open PySem PySem.W PyProof.Rows PySem.Calls
set_option maxRecDepth 100000
set_option maxHeartbeats 1000000
namespace Mine
theorem ap_call {prog : Program} {w : World} {A : Around} {s : Shared} {i : Int} {t : Tok} {R : Result → Shared → Prop} (B : Base w s.heap) (rm : Room A 1) (hx : (apB i.natAbs).length ≤ 1000)
    (h : ∀ t' s', Keeps s s' → R (.ok (.ret (.bytes (apB i.natAbs).toArray t'))) s') : codeAny (model prog w) A (.call (.ref 28) ⟨[.int i t], []⟩) R s := by
  refine enter (binds := [("num", .int i t)]) B rm.lt rfl rfl rfl (fun _ => rfl) rfl rfl (locs rfl) rfl rfl rfl ?_
  intro L s H
  refine wpAny_execs_cons (wpAny_Assign_Name ?_)
  refine cY H ?_; intro s t₁ H
  refine sL H ?_; intro s H
  refine wpAny_execs_cons (wpAny_Assign_Name ?_)
  refine cY H ?_; intro s t₂ H
  refine sL H ?_; intro s H
  refine wpAny_execs_cons (wpAny_Assign_Name ?_)
  refine Call_Name1 ?_
  refine nB H B (b_int _) rfl (by decide) ?_
  refine cwT1 ?_
  refine Call_Name1 ?_
  refine nB H B (b_abs _) rfl (by decide) ?_
  refine cwB1 ?_
  refine nL H rfl ?_
  refine absI H ?_; intro s t₃ H
  refine call_int_int ?_
  refine sL H ?_; intro s H
  refine wpAny_execs_cons (wpAny_While ?_)
  refine codeAny_whileLoop (fun k s => ∃ m b t₁ t₃, St _ L m (fun _ => True) s ∧ m "num" = some (.int (k : Int) t₁) ∧ m "val" = some (.bytes (List.toArray b) t₃) ∧
    m "AP" = some (.bytes (List.toArray [65, 66, 67, 68, 69, 70, 71, 72, 73, 74, 75, 76, 77, 78, 79, 80]) t₂) ∧ apB i.natAbs = apB k ++ b) ?_ i.natAbs ⟨_, _, _, _, H, rfl, rfl, rfl, (List.append_nil _).symm⟩
  rintro k s ⟨m, b, t₁, t₃, H, h1, h2, h3, h4⟩
  refine isTrue_plain ?_
  refine nL H h1 ?_
  refine PyProof.Rows.truthy_int ?_
  by_cases hk : k = 0
  · subst hk
    rw [if_neg (by decide)]
    refine wpAny_execs_nil ?_
    refine wpAny_execs_cons (wpAny_Return_some ?_)
    refine nL H h2 ?_
    rw [apB_zero, List.nil_append] at h4
    rw [← h4]
    exact h _ _ H.done
  rw [if_pos (by simpa using hk)]
  refine wpAny_execs_cons (Assign_Tuple ?_)
  refine Call_Name2 ?_
  refine nB H B (b_divmod _) rfl (by decide) ?_
  refine cwB2 ?_
  refine nL H h1 ?_
  refine cI H ?_; intro s t₄ H
  refine divmodI H (by decide) (PyProof.noPylong_small (by decide)) ?_
  intro D s t₅ t₆ H
  have e1 : (k : Int).fdiv 16 = ((k / 16 : Nat) : Int) := by
    rw [Int.fdiv_eq_ediv_of_nonneg _ (by decide)]; omega
  have e2 : (k : Int).fmod 16 = ((k % 16 : Nat) : Int) := by
    rw [Int.fmod_eq_emod_of_nonneg _ (by decide)]; omega
  rw [e1, e2] at H
  refine unp2 rm.hh H H.p.2 ?_
  intro s H
  refine wpAny_execs_cons (wpAny_Assign_Name ?_)
  refine wpAny_BinOp ?_
  refine wpAny_Subscript_Slice FB.slot_bytes_getitem.lookup ?_
  refine nL H h3 ?_
  refine wpAny_Slice ?_
  rw [evalPart_some, evalPart_some, evalPart_none]
  refine nL H rfl ?_
  refine wpAny_BinOp ?_
  refine nL H rfl ?_
  refine cI H ?_; intro s t₇ H
  refine addI H ?_; intro s t₈ H
  refine wpAny_pure ⟨typeIs_bytes _ _ _, ?_⟩
  have e3 : ((k % 16 : Nat) : Int) + 1 = ((k % 16 + 1 : Nat) : Int) := by omega
  rw [e3]
  have hd : k % 16 < 16 := Nat.mod_lt _ (by decide)
  refine sliceY H (Nat.le_succ _) (show k % 16 + 1 ≤ 16 by omega) (show 16 ≤ 16777216 by decide) ?_
  intro s t₉ H
  rw [show k % 16 + 1 - k % 16 = 1 by omega, apTable hd]
  refine nL H h2 ?_
  have hlen : b.length ≤ 1000 := by
    have := congrArg List.length h4
    rw [List.length_append] at this; omega
  refine addY H (by simp only [List.length_singleton]; omega) ?_
  intro s t₁₀ H
  refine sL H ?_; intro s H
  refine wpAny_execs_nil ?_
  refine ⟨k / 16, by omega, _, _, _, _, H.less Stable.true (fun _ _ => trivial), rfl, rfl, h3, ?_⟩
  rw [h4, apB_pos hk, List.append_assoc]
end Mine
end

section
open PySem PySem.W PyProof.Rows PySem.Calls
set_option maxRecDepth 100000
set_option maxHeartbeats 1000000
namespace Mine

/-- what a comprehension's element is, on a heap; the addresses under B turn, all else stays -/
def Steady (G : (Addr → Prop) → Heap → Value → Value → Prop) : Prop :=
  ∀ B h h' v y, (∀ b o, ¬ B b → h.get? b = some o → h'.get? b = some o) → G B h v y → G B h' v y
/-- the element's evaluation, from any state that keeps s's objects -/
def Elt (prog : Program) (w : World) (A : Around) (cenv : Addr → Env) (x : Str) (elt : Expr) (ifs : List Expr) (Pi : Nat → Value → Prop) (p : Value → Bool) (G : (Addr → Prop) → Heap → Value → Value → Prop) (s : Shared) : Prop :=
  ∀ (C : Addr) (i : Nat) (v : Value) (s₃ : Shared) (m₃ : Str → Option Value) (B : Addr → Prop) (E : Value → Shared → Prop), Pi i v → s₃.heap.Ns C m₃ → m₃ x = some v → Keeps s s₃ → (∀ b, B b → ∃ o, s₃.heap.get? b = some o) →
    wpAny (model prog w) A (forIn ifs true fun c r => if r = true then do let ok ← isTrue c (cenv C) (eval c (cenv C)); pure (ForInStep.yield ok) else pure (ForInStep.yield r)) (fun ok s₄ => ok = p v ∧ Keeps s₃ s₄) E s₃ ∧
    (p v = true → wpAny (model prog w) A (eval elt (cenv C)) (fun y s₄ => G B s₄.heap v y ∧ Keeps s₃ s₄) E s₃)

theorem kp_refl (s : Shared) : Keeps s s := ⟨s.heap, s.toks, rfl, fun _ _ e => e⟩
theorem kp_trans {s s' s'' : Shared} (a : Keeps s s') (b : Keeps s' s'') : Keeps s s'' := by
  obtain ⟨h, t, rfl, k⟩ := a
  obtain ⟨h', t', rfl, k'⟩ := b
  exact ⟨h', t', rfl, fun b o e => k' b o (k b o e)⟩
theorem kp_heap {s s' : Shared} (a : Keeps s s') : ∀ b o, s.heap.get? b = some o → s'.heap.get? b = some o := by
  obtain ⟨h, t, rfl, k⟩ := a
  exact k
theorem kp_set {s s' : Shared} (a : Keeps s s') {h' : Heap} {n : Nat} (k : ∀ b o, s.heap.get? b = some o → h'.get? b = some o) : Keeps s { s' with heap := h', toks := n } := by
  obtain ⟨h, t, rfl, _⟩ := a
  exact ⟨h', n, rfl, k⟩
theorem Paired.imp {α β : Type} {F F' : α → β → Prop} (h : ∀ a b, F a b → F' a b) : ∀ {l₁ : List α} {l₂ : List β}, Paired F l₁ l₂ → Paired F' l₁ l₂
  | _, _, .nil => .nil
  | _, _, .cons x t => .cons (h _ _ x) (Paired.imp h t)

section
variable {prog : Program} {w : World} {A : Around} {E : Value → Shared → Prop}
theorem comp_loop {elt iter : Expr} {x : Str} {px pos : Pos} {ifs : List Expr} {scope : Scope} {I D C : Addr} {fp : List Addr} {n : Nat} {Pi : Nat → Value → Prop} {It : Nat → Heap → Prop} {cenv : Addr → Env} {m : Str → Option Value}
    {p : Value → Bool} {G : (Addr → Prop) → Heap → Value → Value → Prop} {R : Result → Shared → Prop} {s₀ s : Shared} (hst : Steady G) (W : Walks prog w A I fp [I] n Pi It) (hI : ∀ i h, It i h → ∃ o, h.get? I = some o)
    (hl : (cenv C).locals = C) (hx : (cenv C).kindOf x = some .local) (hp : ((cenv C).scope.kind == .class || ((cenv C).scope.kind == .module && (cenv C).locals != (cenv C).globals)) = false)
    (hz : n ≤ sizeLine) (hDC : D ≠ C) (hDf : D ∉ fp) (hCf : C ∉ fp) (hIf : I ∈ fp) (h0 : It 0 s.heap) (hD : s.heap.PlainList D #[]) (hC : s.heap.Ns C m) (hk : Keeps s₀ s) (hDs : s₀.heap.get? D = none) (hCs : s₀.heap.get? C = none) (hIs : s₀.heap.get? I = none)
    (el : Elt prog w A cenv x elt ifs Pi p G s₀)
    (hR : ∀ s' m' ys (vs : List Value), s'.heap.Ns C m' → s'.heap.PlainList D ys → vs.length = n → (∀ j v, vs[j]? = some v → Pi j v) → Paired (G (fun b => b = C ∨ b = I ∨ b = D) s'.heap) (vs.filter p) ys.toList → Keeps s₀ s' → R (.ok .next) s') :
    codeAny (model prog w) A (.compLoop (.ListComp elt [⟨.Name x px, iter, ifs, 0⟩] scope pos) 0 (.ref I) (.ref D) (cenv C)) R s := by
  have hID : I ≠ D := fun e => hDf (e ▸ hIf)
  have hIC : I ≠ C := fun e => hCf (e ▸ hIf)
  have off : ∀ {b o}, s₀.heap.get? b = some o → b ≠ C ∧ b ≠ I ∧ b ≠ D := fun {b o} e => ⟨(by rintro rfl; rw [hCs] at e; cases e), (by rintro rfl; rw [hIs] at e; cases e), (by rintro rfl; rw [hDs] at e; cases e)⟩
  refine codeAny_compLoop_tests (fun k s' => ∃ m' ys, ∃ vs : List Value, It vs.length s'.heap ∧ s'.heap.PlainList D ys ∧ s'.heap.Ns C m' ∧ (∀ j v, vs[j]? = some v → Pi j v) ∧
    Paired (G (fun b => b = C ∨ b = I ∨ b = D) s'.heap) (vs.filter p) ys.toList ∧ vs.length ≤ n ∧ k = n + 1 - vs.length ∧ Keeps s₀ s') ?_ (n + 1) ⟨m, #[], [], h0, hD, hC, by simp, by simpa using Paired.nil, Nat.zero_le _, rfl, hk⟩
  rintro k s' ⟨m', ys, vs, it, hD', hC', hP, hG, hle, rfl, hk'⟩
  by_cases hlt : vs.length < n
  · refine W.item vs.length _ _ _ hlt it fun v h₁ tk₁ hPv it₁ hk₁ => ?_
    have hC₁ : h₁.Ns (cenv C).locals m' := by rw [hl]; exact hC'.at' fun o e => hk₁ C o (by simpa using fun e => hIC e.symm) e
    refine wpAny_assign_Name (wpAny_storeName_local hx hC₁ (fun h₂ hn₂ hs₂ => ?_) hp)
    rw [hl] at hn₂ hs₂
    have up₂ : ∀ b o, b ≠ C → b ≠ I → s'.heap.get? b = some o → h₂.get? b = some o := fun b o bc bi e => hs₂.extBut b o bc (hk₁ b o (by simpa using bi) e)
    have it₂ : It (vs.length + 1) h₂ := W.frame _ _ _ it₁ fun b hb o e => hs₂.extBut b o (fun q => hCf (q ▸ hb)) e
    have hD₂ : h₂.PlainList D ys := by
      obtain ⟨c, e⟩ := hD'
      exact ⟨c, up₂ D _ hDC (fun e => hID e.symm) e⟩
    have hk₂ : Keeps s₀ { s' with heap := h₂, toks := tk₁ + 1 } := kp_set hk' fun b o e => up₂ b o (off e).1 (off e).2.1 (kp_heap hk' b o e)
    have alive₂ : ∀ b, (b = C ∨ b = I ∨ b = D) → ∃ o, h₂.get? b = some o := by
      rintro b (rfl | rfl | rfl)
      · obtain ⟨o, _, _, e, _⟩ := hn₂; exact ⟨o, e⟩
      · exact hI _ _ it₂
      · obtain ⟨c, e⟩ := hD₂; exact ⟨_, e⟩
    refine wpAny_mono (el C vs.length v _ _ (fun b => b = C ∨ b = I ∨ b = D) _ hPv hn₂ (by simp) hk₂ alive₂).1 (fun ok s₃ h₃ => ?_) fun _ _ e => e
    obtain ⟨rfl, h₃, tk₃, rfl, hk₃⟩ := h₃
    have it₃ : It (vs.length + 1) h₃ := W.frame _ _ _ it₂ fun b _ o e => hk₃ b o e
    have hD₃ : h₃.PlainList D ys := by obtain ⟨c, e⟩ := hD₂; exact ⟨c, hk₃ _ _ e⟩
    have hn₃ := hn₂.keeps hk₃
    have hk₃' : Keeps s₀ { s' with heap := h₃, toks := tk₃ } := kp_trans hk₂ ⟨h₃, tk₃, rfl, hk₃⟩
    have hP' : ∀ j u, (vs ++ [v])[j]? = some u → Pi j u := fun j u hj => by
      rcases Nat.lt_trichotomy j vs.length with q | q | q
      · exact hP j u (by rwa [List.getElem?_append_left q] at hj)
      · subst q; simp at hj; subst hj; exact hPv
      · rw [List.getElem?_eq_none (by rw [List.length_append, List.length_singleton]; omega)] at hj; cases hj
    have hG₃ : Paired (G (fun b => b = C ∨ b = I ∨ b = D) h₃) (vs.filter p) ys.toList := Paired.imp (fun a b q => hst _ _ _ a b (fun b o nb e => hk₃ b o (up₂ b o (fun q => nb (.inl q)) (fun q => nb (.inr (.inl q))) e)) q) hG
    cases hpv : p v with
    | false =>
      rw [if_neg (by decide)]
      refine ⟨n + 1 - (vs.length + 1), by omega, _, ys, vs ++ [v], ?_, hD₃, hn₃, hP', ?_, (by rw [List.length_append, List.length_singleton]; exact hlt), (by rw [List.length_append, List.length_singleton]), hk₃'⟩
      · simpa using it₃
      · rw [List.filter_append]; simpa [hpv] using hG₃
    | true =>
      rw [if_pos rfl]
      have alive₃ : ∀ b, (b = C ∨ b = I ∨ b = D) → ∃ o, h₃.get? b = some o := fun b q => (alive₂ b q).elim fun o e => ⟨o, hk₃ b o e⟩
      refine wpAny_mono ((el C vs.length v { s' with heap := h₃, toks := tk₃ } _ (fun b => b = C ∨ b = I ∨ b = D) _ hPv hn₃ (by simp) hk₃' alive₃).2 hpv) (fun y s₄ h₄ => ?_) fun _ _ e => e
      obtain ⟨hy, h₄, tk₄, rfl, hk₄⟩ := h₄
      have hys : ys.size ≤ sizeLine := by
        have e1 := hG.length
        have e2 : (vs.filter p).length ≤ vs.length := List.length_filter_le _ _
        have e3 : ys.toList.length = ys.size := by simp
        omega
      have hD₄ : h₄.PlainList D ys := by obtain ⟨c, e⟩ := hD₃; exact ⟨c, hk₄ _ _ e⟩
      refine wpAny_list_append_plain (hsz := hys) hD₄ fun h₅ hl₅ hs₅ => ?_
      refine ⟨n + 1 - (vs.length + 1), by omega, _, ys.push y, vs ++ [v], ?_, hl₅, (hn₃.keeps hk₄).sameBut hs₅ (Ne.symm hDC), hP', ?_, (by rw [List.length_append, List.length_singleton]; exact hlt), (by rw [List.length_append, List.length_singleton]), ?_⟩
      · have := W.frame _ _ h₅ it₃ fun b hb o e => hs₅.extBut b o (fun q => hDf (q ▸ hb)) (hk₄ b o e)
        simpa using this
      · have g1 := Paired.imp (F' := G (fun b => b = C ∨ b = I ∨ b = D) h₅) (fun a b q => hst _ _ _ a b (fun b o nb e => hs₅.extBut b o (fun q => nb (.inr (.inr q))) (hk₄ b o e)) q) hG₃
        have g2 := hst _ _ h₅ v y (fun b o nb e => hs₅.extBut b o (fun q => nb (.inr (.inr q))) e) hy
        rw [List.filter_append]; simpa [hpv] using Paired.snoc g1 g2
      · exact kp_set (n := tk₄) hk' fun b o e => hs₅.extBut b o (off e).2.2 (hk₄ b o (kp_heap hk₃' b o e))
  · have hin : vs.length = n := by omega
    refine W.done _ _ _ (hin ▸ it) fun h₁ tk₁ hk₁ => ?_
    refine hR _ m' ys vs (hC'.at' fun o e => hk₁ C o (by simpa using fun e => hIC e.symm) e) ?_ hin hP ?_ ?_
    · obtain ⟨c, e⟩ := hD'
      exact ⟨c, hk₁ D _ (by simpa using fun e => hID e.symm) e⟩
    · exact Paired.imp (fun a b q => hst _ _ _ a b (fun b o nb e => hk₁ b o (by simpa using fun q => nb (.inr (.inl q))) e) q) hG
    · exact kp_set hk' fun b o e => hk₁ b o (by simpa using (off e).2.1) (kp_heap hk' b o e)
end
end Mine
end

section
open PySem PySem.W PyProof.Rows PySem.Calls
set_option maxRecDepth 100000
set_option maxHeartbeats 1000000
namespace Mine

/-- a source that pyIter opens: n items by Pi -/
def Src (prog : Program) (w : World) (A : Around) (xv : Value) (s : Shared) (n : Nat) (Pi : Nat → Value → Prop) : Prop :=
  ∃ (o : Obj) (fp : List Addr) (It : Nat → Heap → Prop), Walks prog w A s.heap.objs.size fp [s.heap.objs.size] n Pi It ∧ (∀ i h, It i h → ∃ o, h.get? s.heap.objs.size = some o) ∧ s.heap.objs.size ∈ fp ∧ (∀ b ∈ fp, b ≤ s.heap.objs.size) ∧
    It 0 (s.heap.push o) ∧ ∀ (Q : Value → Shared → Prop) (E : Value → Shared → Prop), Q (.ref s.heap.objs.size) { s with heap := s.heap.push o } → wpAny (model prog w) A (pyIter xv) Q E s

section
variable {prog : Program} {w : World} {A : Around} {E : Value → Shared → Prop} {s : Shared}
theorem srcList {l : Addr} {vs : List Value} (hh : A.handled = none) (hl : s.heap.IsList l vs.toArray) : Src prog w A (.ref l) s vs.length fun i v => vs[i]? = some v := by
  have hlt : l < s.heap.objs.size := by obtain ⟨o, ho, _⟩ := hl; exact Heap.lt_size ho
  have W := Walks.list (prog := prog) (w := w) hh s.heap.objs.size l (Nat.ne_of_lt hlt) vs.toArray
  have W' : Walks prog w A s.heap.objs.size [s.heap.objs.size, l] [s.heap.objs.size] vs.length (fun i v => vs[i]? = some v) (fun i h => h.IsListIter s.heap.objs.size l i ∧ h.IsList l vs.toArray) := by simpa using W
  clear W
  have W := W'
  refine ⟨{ cls := .type "list_iterator", data := .fields #[.ref l, .int 0 0] }, _, _, W, fun i h st => by obtain ⟨⟨o, e, _⟩, _⟩ := st; exact ⟨o, e⟩, by simp, (by simpa using Nat.le_of_lt hlt), ⟨⟨_, Heap.get?_push_size _ rfl, rfl, rfl⟩, hl.push _⟩, fun Q E h => wpAny_pyIter_list hl h⟩
theorem srcTup {l : Addr} {vs : List Value} (hh : A.handled = none) (hl : s.heap.IsTuple l vs.toArray) : Src prog w A (.ref l) s vs.length fun i v => vs[i]? = some v := by
  have hlt : l < s.heap.objs.size := by obtain ⟨o, ho, _⟩ := hl; exact Heap.lt_size ho
  have W := Walks.tuple (prog := prog) (w := w) hh s.heap.objs.size l (Nat.ne_of_lt hlt) vs.toArray
  have W' : Walks prog w A s.heap.objs.size [s.heap.objs.size, l] [s.heap.objs.size] vs.length (fun i v => vs[i]? = some v) (fun i h => h.IsTupleIter s.heap.objs.size l i ∧ h.IsTuple l vs.toArray) := by simpa using W
  clear W
  have W := W'
  refine ⟨{ cls := .type "tuple_iterator", data := .fields #[.ref l, .int 0 0] }, _, _, W, fun i h st => by obtain ⟨⟨o, e, _⟩, _⟩ := st; exact ⟨o, e⟩, by simp, (by simpa using Nat.le_of_lt hlt), ⟨⟨_, Heap.get?_push_size _ rfl, rfl, rfl⟩, ?_⟩, fun Q E h => wpAny_pyIter_tuple hl h⟩
  obtain ⟨o, ho, r⟩ := hl
  exact ⟨o, Heap.get?_push_of_some _ ho, r⟩
theorem srcStr {x : Str} {t : Tok} (hh : A.handled = none) (ha : x.cps.all (· < 128) = true) : Src prog w A (.str x t) s x.cps.size (SignAt x) := by
  refine ⟨{ cls := .type "str_ascii_iterator", data := .fields #[.str x t, .int 0 0] }, _, _, Walks.strAscii hh s.heap.objs.size x t, fun i h st => by obtain ⟨o, e, _⟩ := st; exact ⟨o, e⟩, by simp, by simp, ⟨_, Heap.get?_push_size _ rfl, rfl, rfl⟩, fun Q E h => wpAny_pyIter_ascii ha h⟩

theorem fresh_none {h : Heap} {a : Addr} (ha : h.objs.size ≤ a) : h.get? a = none := by
  cases e : h.get? a with
  | none => rfl
  | some o => exact absurd (Heap.lt_size e) (Nat.not_lt.mpr ha)

/-- the comprehension behind its source -/
theorem comp_block {elt iter : Expr} {x : Str} {px pos : Pos} {ifs : List Expr} {scope : Scope} {cl : List (Str × Addr)} {n : Nat} {Pi : Nat → Value → Prop} {env : Env} {xv : Value}
    {p : Value → Bool} {G : (Addr → Prop) → Heap → Value → Value → Prop} {RR : Value → Addr → Result → Shared → Prop} (hst : Steady G) (src : Src prog w A xv s n Pi) (hz : n ≤ sizeLine)
    (hcell : ∀ y ∈ scope.names, y.2 ≠ .cell) (hkind : scope.kind = .function) (hx : scope.names.lookup x = some .local)
    (el : Elt prog w A (fun C => compEnvC scope cl C env) x elt ifs Pi p G s)
    (hR : ∀ D C I s' m' ys (vs : List Value), s.heap.get? D = none → s.heap.get? C = none → D ≠ C → s'.heap.Ns C m' → s'.heap.PlainList D ys → vs.length = n → (∀ j v, vs[j]? = some v → Pi j v) → Paired (G (fun b => b = C ∨ b = I ∨ b = D) s'.heap) (vs.filter p) ys.toList → Keeps s s' → RR (.ref D) C (.ok .next) s') :
    wpAny (model prog w) A (pyIter xv) (fun it s₂ => wpAny (model prog w) A (newList []) (fun acc s₃ => wpAny (model prog w) A (newFunctionEnv scope env.globals cl [] env.qual none .none (some env)) (fun cenv s₄ =>
      codeAny (model prog w) A (.compStart (.ListComp elt [⟨.Name x px, iter, ifs, 0⟩] scope pos) 0 it acc { cenv with scope := relabel scope env }) (RR acc cenv.locals) s₄) E s₃) E s₂) E s := by
  obtain ⟨o, fp, It, W, hI, hIf, hfp, h0, hpi⟩ := src
  refine hpi _ _ ?_
  refine wpAny_newObj_type (wpAny_newFunctionEnv hcell (by intro y hy; simp at hy) (fun h₁ hns₁ hsb₁ => ?_) hkind)
  dsimp only at hns₁ hsb₁ ⊢
  have e1 : (s.heap.push o).objs.size = s.heap.objs.size + 1 := Heap.size_push ..
  have e2 : ((s.heap.push o).push { cls := .type "list", data := .seq ([] : List Value).toArray }).objs.size = s.heap.objs.size + 2 := by rw [Heap.size_push, e1]
  have up : ∀ b o', b < s.heap.objs.size + 2 → ((s.heap.push o).push { cls := .type "list", data := .seq ([] : List Value).toArray }).get? b = some o' → h₁.get? b = some o' :=
    fun b o' hb e => hsb₁.extBut b o' (by rw [e2]; exact Nat.ne_of_lt hb) (Heap.get?_push_of_some _ e)
  have old : ∀ b o', s.heap.get? b = some o' → h₁.get? b = some o' := fun b o' e => up b o' (Nat.lt_of_lt_of_le (Heap.lt_size e) (Nat.le_add_right _ _)) (Heap.get?_push_of_some _ (Heap.get?_push_of_some _ e))
  rw [e2] at hns₁ ⊢
  rw [e1]
  have hD : h₁.PlainList (s.heap.objs.size + 1) #[] := by
    refine ⟨0, up _ _ (by omega) ?_⟩
    have := Heap.get?_push_size (o := { cls := .type "list", data := .seq ([] : List Value).toArray }) (s.heap.push o) rfl
    rwa [e1] at this
  have hIt : It 0 h₁ := W.frame _ _ _ h0 fun b hb o' e => up b o' (Nat.lt_of_le_of_lt (hfp b hb) (Nat.lt_succ_of_lt (Nat.lt_succ_self _))) (Heap.get?_push_of_some _ e)
  have go : ∀ s₃ : Shared, s₃ = { s with heap := h₁, toks := s.toks + ([] : List (Str × Value)).length } →
      codeAny (model prog w) A (.compLoop (.ListComp elt [⟨.Name x px, iter, ifs, 0⟩] scope pos) 0 (.ref s.heap.objs.size) (.ref (s.heap.objs.size + 1)) (compEnvC scope cl (s.heap.objs.size + 2) env)) (RR (.ref (s.heap.objs.size + 1)) (s.heap.objs.size + 2)) s₃ := by
    rintro s₃ rfl
    refine comp_loop (cenv := fun C => compEnvC scope cl C env) (C := s.heap.objs.size + 2) (s₀ := s) hst W hI rfl (lookup_relabel_local hx) (by simp [compEnvC, relabel, hkind]) hz ?_ ?_ ?_ hIf hIt hD hns₁ ⟨h₁, _, rfl, old⟩ (fresh_none (Nat.le_succ _)) (fresh_none (Nat.le_add_right _ _)) (fresh_none (Nat.le_refl _)) el ?_
    · exact Nat.ne_of_lt (Nat.lt_succ_self _)
    · exact fun hb => absurd (hfp _ hb) (Nat.not_le.mpr (Nat.lt_succ_self _))
    · exact fun hb => absurd (hfp _ hb) (Nat.not_le.mpr (Nat.lt_succ_of_lt (Nat.lt_succ_self _)))
    · intro s' m' ys vs hn hl hlen hP hG hk
      exact hR _ _ _ s' m' ys vs (fresh_none (Nat.le_succ _)) (fresh_none (Nat.le_add_right _ _)) (Nat.ne_of_lt (Nat.lt_succ_self _)) hn hl hlen hP hG hk
  exact codeAny_compStart_list (go _ rfl) (W.self 0 _ _ _ hIt (go _ rfl))

/-- what is to be shown of a comprehension once its source is known -/
def LcAt (prog : Program) (w : World) (A : Around) (env : Env) (x : Str) (elt : Expr) (ifs : List Expr) (scope : Scope) (cl : List (Str × Addr)) (Q : Value → Shared → Prop) (xv : Value) (s : Shared) : Prop :=
  ∃ n Pi p G, Steady G ∧ Src prog w A xv s n Pi ∧ n ≤ sizeLine ∧ Elt prog w A (fun C => compEnvC scope cl C env) x elt ifs Pi p G s ∧
    ∀ D B s' (ys : List Value) (vs : List Value), s.heap.get? D = none → B D → s'.heap.PlainList D ys.toArray → vs.length = n → (∀ j v, vs[j]? = some v → Pi j v) → Paired (G B s'.heap) (vs.filter p) ys → Keeps s s' → Q (.ref D) s'

theorem lcE {elt iter : Expr} {x : Str} {px pos : Pos} {ifs : List Expr} {scope : Scope} {cl : List (Str × Addr)} {env : Env} {Q : Value → Shared → Prop}
    (h : wpAny (model prog w) A (eval iter env) (fun xv s₁ => LcAt prog w A env x elt ifs scope cl Q xv s₁) E s)
    (hclos : closureFor scope env = pure cl := by rfl) (hcell : (scope.names.all fun y => y.2 != .cell) = true := by rfl) (hkind : scope.kind = .function := by rfl)
    (hnames : (scope.names.all fun y => y.2 != .local || scope.names.lookup y.1 == some .local) = true := by rfl) (hx : scope.names.lookup x = some .local := by rfl) (hs : ∀ x, foldedSetIterable iter env x = pure x := by intro _; rfl) :
    wpAny (model prog w) A (eval (.ListComp elt [⟨.Name x px, iter, ifs, 0⟩] scope pos) env) Q E s := by
  rw [eval_ListComp]
  refine wpAny_comprehension_free (use := none) rfl hs hclos hkind (fun y hy hl => ?_) (wpAny_mono h (fun xv s₁ h₁ => ?_) fun _ _ e => e)
  · have := List.all_eq_true.mp hnames y hy
    rw [hl] at this
    simpa using this
  obtain ⟨n, Pi, p, G, hst, src, hz, el, hQ⟩ := h₁
  refine comp_block (RR := fun acc C => compPost (model prog w) A E none Q acc C) hst src hz (fun y hy => by simpa using List.all_eq_true.mp hcell y hy) hkind hx el ?_
  intro D C I s' m' ys vs hD hC hDC hn hl hlen hP hG hk
  refine ⟨m', hn, fun h'' hs'' => ?_⟩
  have off : ∀ {b o}, s₁.heap.get? b = some o → b ≠ C := fun {b o} e => by rintro rfl; rw [hC] at e; cases e
  refine hQ D (fun b => b = C ∨ b = I ∨ b = D) _ ys.toList vs hD (.inr (.inr rfl)) ?_ hlen hP ?_ ?_
  · obtain ⟨c, e⟩ := hl
    exact ⟨c, hs''.extBut D _ hDC e⟩
  · exact Paired.imp (fun a b q => hst _ _ _ a b (fun b o nb e => hs''.extBut b o (fun q => nb (.inl q)) e) q) hG
  · exact kp_set (n := s'.toks) hk fun b o e => hs''.extBut b o (off e) (kp_heap hk b o e)

/-- y = [ .. ], stored while the comprehension's names go -/
theorem lcA {elt iter : Expr} {x y : Str} {px py pos spos : Pos} {ifs : List Expr} {scope : Scope} {cl : List (Str × Addr)} {s₀ : Shared} {L : Addr} {m : Str → Option Value} {P : Heap → Prop} {n : Str} {sc : Scope} {a : Addr} {cd : Value} {Q : Flow → Shared → Prop}
    (h : wpAny (model prog w) A (eval iter (envOf n sc L a cd)) (fun xv s₁ => St s₀ L m P s₁ ∧ LcAt prog w A (envOf n sc L a cd) x elt ifs scope cl (fun v s' => ∀ s'', St s₀ L (fun z => if z = y then some v else m z) P s'' → Sub s'.heap s''.heap → Q .next s'') xv s₁) E s)
    (hsw : swapsWith (.ListComp elt [⟨.Name x px, iter, ifs, 0⟩] scope pos) (some (.Name y py)) spos.line (envOf n sc L a cd) = pure true := by rfl)
    (hclos : closureFor scope (envOf n sc L a cd) = pure cl := by rfl) (hcell : (scope.names.all fun y => y.2 != .cell) = true := by rfl) (hkind : scope.kind = .function := by rfl)
    (hnames : (scope.names.all fun y => y.2 != .local || scope.names.lookup y.1 == some .local) = true := by rfl) (hx : scope.names.lookup x = some .local := by rfl) (hs : ∀ x, foldedSetIterable iter (envOf n sc L a cd) x = pure x := by intro _; rfl)
    (hk : sc.kind = .function := by rfl) (hl : (envOf n sc L a cd).kindOf y = some .local := by rfl) :
    wpAny (model prog w) A (exec (.Assign [.Name y py] (.ListComp elt [⟨.Name x px, iter, ifs, 0⟩] scope pos) spos) (envOf n sc L a cd)) Q E s := by
  rw [exec_Assign_Name_used _ _ _ _ hsw]
  refine wpAny_bind (wpAny_standAt (wpAny_bind ?_))
  show wpAny _ A (do let _ ← comprehension (.ListComp elt [⟨.Name x px, iter, ifs, 0⟩] scope pos) scope (envOf n sc L a cd) _ (newList []) false (eval iter (envOf n sc L a cd)) (some (assign (.Name y py) (envOf n sc L a cd)))) _ _ s
  refine wpAny_bind (wpAny_mono (wpAny_comprehension_free (use := some (assign (.Name y py) (envOf n sc L a cd))) (Q := fun _ s' => Q .next s') rfl hs hclos hkind (fun y hy hl => ?_) (wpAny_mono h (fun xv s₁ h₁ => ?_) fun _ _ e => e)) (fun _ s' hq => wpAny_pure (wpAny_pure hq)) fun _ _ e => e)
  · have := List.all_eq_true.mp hnames y hy
    rw [hl] at this
    simpa using this
  obtain ⟨H, n', Pi, p, G, hst, src, hz, el, hQ⟩ := h₁
  refine comp_block (RR := fun acc C => compPost (model prog w) A E (some (assign (.Name y py) (envOf n sc L a cd))) (fun _ s' => Q .next s') acc C) hst src hz (fun y hy => by simpa using List.all_eq_true.mp hcell y hy) hkind hx el ?_
  intro D C I s' m' ys vs hD hC hDC hn hl' hlen hP hG hk'
  have off : ∀ {b o}, s₁.heap.get? b = some o → b ≠ C := fun {b o} e => by rintro rfl; rw [hC] at e; cases e
  have hLC : L ≠ C := by obtain ⟨oL, _, _, e, _⟩ := H.F.ns; exact off e
  have H' := H.keep hk'
  refine wpAny_assign_Name (wpAny_storeName_local hl H'.F.ns (fun h₂ hn₂ hs₂ => ?_) (by show (sc.kind == .class || (sc.kind == .module && L != mainGlobals)) = false; rw [hk]; rfl))
  have hnC₂ : h₂.Ns C m' := hn.sameBut hs₂ (Ne.symm hLC)
  refine ⟨m', hnC₂, fun h₃ hs₃ => ?_⟩
  have sub : Sub s'.heap h₃ := (Sub.of_ns H'.F.ns hs₂).trans (Sub.of_ns hnC₂ hs₃)
  refine hQ D (fun b => b = C ∨ b = I ∨ b = D) s' ys.toList vs hD (.inr (.inr rfl)) ?_ hlen hP hG hk' { s' with heap := h₃, toks := s'.toks + 1 } ?_ sub
  · obtain ⟨c, e⟩ := hl'
    exact ⟨c, e⟩
  · obtain ⟨⟨h', tk', rfl⟩, F, sP, p⟩ := H'
    have F₂ := F.set hn₂ hs₂
    have hC₀ : s₀.heap.get? C = none := by
      cases e : s₀.heap.get? C with
      | none => rfl
      | some o => have := H.F.keep C o e; rw [hC] at this; cases this
    refine ⟨⟨h₃, _, rfl⟩, ⟨F₂.ns.sameBut hs₃ hLC, fun b o e => hs₃.extBut b o (by rintro rfl; rw [hC₀] at e; cases e) (F₂.keep b o e), F₂.above⟩, sP, sP _ _ sub p⟩
end
end Mine
end

section
open PySem PySem.W PyProof.Rows PySem.Calls
set_option maxRecDepth 100000
set_option maxHeartbeats 1000000
namespace Mine

abbrev T (l : List Nat) : Str := ⟨l.toArray⟩
theorem T_app (a b : List Nat) : T a ++ T b = T (a ++ b) := by
  show (⟨a.toArray ++ b.toArray⟩ : Str) = ⟨(a ++ b).toArray⟩
  rw [List.append_toArray]
theorem T_len (a : List Nat) : (T a).length = a.length := by show a.toArray.size = _; simp
theorem T_tick : Str.ofString "'" = T [39] := by decide
theorem T_nil : Str.ofString "" = T [] := by decide
/-- texts by their signs -/
def Strs (row : List (List Nat)) (vs : List Value) : Prop := Paired (fun r v => ∃ t, v = Value.str (T r) t) row vs
def IsRow (a : Addr) (row : List (List Nat)) (h : Heap) : Prop := ∃ vs, h.IsList a vs.toArray ∧ Strs row vs
theorem Stable.isRow (a : Addr) (row : List (List Nat)) : Stable (IsRow a row) := fun h h' s ⟨vs, hl, hs⟩ => ⟨vs, Stable.isList a _ h h' s hl, hs⟩
theorem Strs.length {row : List (List Nat)} {vs : List Value} (h : Strs row vs) : row.length = vs.length := PySem.Paired.length h
theorem Strs.values {row : List (List Nat)} {vs : List Value} (h : Strs row vs) : ∃ l : List (Str × Tok), vs = strValues l ∧ l.map (·.1) = row.map T := by
  induction h with
  | nil => exact ⟨[], rfl, rfl⟩
  | cons x _ ih =>
    obtain ⟨t, rfl⟩ := x
    obtain ⟨l, e, e'⟩ := ih
    exact ⟨(_, t) :: l, by rw [e]; rfl, by simp [e']⟩
theorem Strs.of_values : ∀ {row : List (List Nat)} {l : List (Str × Tok)}, l.map (·.1) = row.map T → Strs row (strValues l)
  | [], [], _ => .nil
  | [], _ :: _, h => by simp at h
  | _ :: _, [], h => by simp at h
  | r :: row, (x, t) :: l, h => by
    simp only [List.map_cons, List.cons.injEq] at h
    exact .cons ⟨t, by rw [← h.1]⟩ (Strs.of_values h.2)
theorem Strs.get {row : List (List Nat)} {vs : List Value} (h : Strs row vs) : ∀ {i : Nat} {r : List Nat}, row[i]? = some r → ∃ t, vs[i]? = some (.str (T r) t) := by
  induction h with
  | nil => intro i r e; simp at e
  | cons x _ ih =>
    intro i r e
    cases i with
    | zero => simp at e; subst e; obtain ⟨t, rfl⟩ := x; exact ⟨t, rfl⟩
    | succ i => exact ih (by simpa using e)
theorem Strs.app {r₁ r₂ : List (List Nat)} {v₁ v₂ : List Value} (h₁ : Strs r₁ v₁) (h₂ : Strs r₂ v₂) : Strs (r₁ ++ r₂) (v₁ ++ v₂) := by
  induction h₁ with
  | nil => exact h₂
  | cons x _ ih => exact .cons x ih
theorem Strs.drop {row : List (List Nat)} {vs : List Value} (h : Strs row vs) (k : Nat) : Strs (row.drop k) (vs.drop k) := by
  induction h generalizing k with
  | nil => rw [List.drop_nil, List.drop_nil]; exact Paired.nil
  | cons x t ih =>
    cases k with
    | zero => exact .cons x t
    | succ k => exact ih k
theorem str_inj {r r' : List Nat} {t t' : Tok} (e : Value.str (T r) t = Value.str (T r') t') : r = r' := by
  have := congrArg (fun v => match v with | Value.str x _ => x.cps.toList | _ => []) e
  simpa using this
theorem Strs.map {row : List (List Nat)} {vs : List Value} {f : List Nat → List Nat} {ys : List Value} (h : Strs row vs)
    (h' : Paired (fun v y => ∃ r t, v = Value.str (T r) t ∧ ∃ t', y = Value.str (T (f r)) t') vs ys) : Strs (row.map f) ys := by
  induction h generalizing ys with
  | nil => cases h'; exact .nil
  | cons x t ih =>
    cases h' with
    | cons y t' =>
      obtain ⟨u, rfl⟩ := x
      obtain ⟨r, u', e, q⟩ := y
      cases str_inj e
      exact .cons q (ih t')

theorem glued_nil (row : List (List Nat)) : Txt.join (T []) (row.map T) = T row.flatten := by
  rw [Txt.join, StrLaws.glued_eq_join]
  induction row with
  | nil => rfl
  | cons r row ih =>
    cases row with
    | nil => show T r = T _; simp
    | cons r' row =>
      show T r ++ T [] ++ Str.join (T []) (List.map T (r' :: row)) = _
      rw [ih, T_app, T_app]; simp
theorem joinOk_nil {row : List (List Nat)} {B : Nat} (hB : ∀ r ∈ row, r.length ≤ B) (hz : row.length * B ≤ 16777216) : JoinOk (T []) (row.map T) = true := by
  unfold JoinOk
  rw [StrLaws.joinFits (B := B)]
  · rfl
  · intro y hy
    obtain ⟨r, hr, rfl⟩ := List.mem_map.mp hy
    rw [T_len]; exact hB r hr
  · simpa [T_len] using hz

section
variable {prog : Program} {w : World} {A : Around} {E : Value → Shared → Prop} {s s₀ : Shared} {L : Addr} {m : Str → Option Value} {P : Heap → Prop} {Q : Value → Shared → Prop} {pos : Pos} {env : Env}
/-- a global name, whatever the block -/
theorem nG' {x : Str} {v : Value} (B : Base w s.heap) (e : nsIn (hd.heap_39 w.params) mainGlobals x = some (some v)) (h : Q v s)
    (hg : env.globals = mainGlobals := by rfl) (hk : env.scope.kind = .function := by rfl) (hx : env.kindOf x = some .globalImplicit := by rfl) (hd : (x == ("__debug__" : Str)) = false := by decide) :
    wpAny (model prog w) A (eval (.Name x pos) env) Q E s := by
  obtain ⟨mg, g⟩ := B.g
  exact Name_function_global hk hx (loadGlobal_global (hg ▸ g) (mg_of B.X g e) h) hd
theorem nB' {x : Str} {v : Value} (B : Base w s.heap) (e : nsIn (hd.heap_39 w.params) mainGlobals x = some none) (hv : bootBuiltins x = some v) (hn : x ≠ "__name__") (h : Q v s)
    (hg : env.globals = mainGlobals := by rfl) (hb : env.builtins = builtinsNs := by rfl) (hk : env.scope.kind = .function := by rfl) (hx : env.kindOf x = some .globalImplicit := by rfl) (hd : (x == ("__debug__" : Str)) = false := by decide) :
    wpAny (model prog w) A (eval (.Name x pos) env) Q E s := by
  obtain ⟨mg, g⟩ := B.g
  obtain ⟨mb, b, q⟩ := B.b
  exact Name_function_global hk hx (loadGlobal_builtin (hg ▸ g) (mg_none_of B.X g e) (hb ▸ b) ((q x hn).trans hv) h) hd
theorem nC {x : Str} {v : Value} {C : Addr} {m₃ : Str → Option Value} (hn : s.heap.Ns C m₃) (hv : m₃ x = some v) (h : Q v s)
    (hC : env.locals = C := by rfl) (hk : env.scope.kind = .function := by rfl) (hl : env.kindOf x = some .local := by rfl) (hd : (x == ("__debug__" : Str)) = false := by decide) :
    wpAny (model prog w) A (eval (.Name x pos) env) Q E s := wpAny_Name (wpAny_loadName_local hk hl (hC ▸ hn) hv h) hd
theorem joinR {D : Addr} {row : List (List Nat)} {t : Tok} {B : Nat} (H : St s₀ L m P s) (hr : IsRow D row s.heap) (hB : ∀ r ∈ row, r.length ≤ B) (hz : row.length * B ≤ 16777216) (h : ∀ s' t, St s₀ L m P s' → Q (.str (T row.flatten) t) s') :
    wpAny (model prog w) A (call (.builtin "str.join") [.str (T []) t, .ref D]) Q E s := by
  obtain ⟨vs, hl, hs⟩ := hr
  obtain ⟨l, rfl, e⟩ := hs.values
  exact SC.join hl e (joinOk_nil hB hz) fun t' k => by rw [glued_nil]; exact h _ _ (H.toks _)
end

def lineOf (row : List (List Nat)) : List Nat := (row.map (· ++ [39])).flatten

theorem line_call {prog : Program} {w : World} {A : Around} {s : Shared} {a : Addr} {row : List (List Nat)} {R : Result → Shared → Prop} (B : Base w s.heap) (rm : Room A 1) (hr : IsRow a row s.heap) (h1 : ∀ r ∈ row, r.length ≤ 9) (h2 : row.length ≤ 1000)
    (h : ∀ t s', Keeps s s' → R (.ok (.ret (.str (T (lineOf row)) t))) s') : codeAny (model prog w) A (.call (.ref 59) ⟨[.ref a], []⟩) R s := by
  refine enter (binds := [("row", .ref a)]) B rm.lt rfl rfl rfl (fun _ => rfl) rfl rfl (locs rfl) rfl rfl rfl ?_
  intro L s' H
  refine wpAny_execs_cons (wpAny_Return_some ?_)
  refine Call_method1 rfl rfl rfl ?_
  refine cS H ?_; intro s₁ t₁ H
  refine methStr F.slot_str_join (by first | rfl | kernel_rfl) ?_
  refine cwB1 ?_
  refine lcE (cl := []) ?_
  refine nL H rfl ?_
  obtain ⟨vs, hl, hs⟩ := hr
  have hl₁ : s₁.heap.IsList a vs.toArray := Stable.isList a _ _ _ (Sub.of_le H.F.keep) hl
  have hlen := hs.length
  have hsz : sizeLine = 16777216 := rfl
  refine ⟨_, _, fun _ => true, fun _ _ v y => ∃ r t, v = Value.str (T r) t ∧ ∃ t', y = Value.str (T (r ++ [39])) t', fun _ _ _ _ _ _ q => q, srcList rm.hh hl₁, by omega, ?_, ?_⟩
  · intro C i v s₃ m₃ B E hv hn hm hk _
    refine ⟨wpAny_tests_nil ⟨rfl, kp_refl _⟩, fun _ => ?_⟩
    have : ∃ r, row[i]? = some r := by
      have hi : i < vs.length := by
        rcases Nat.lt_or_ge i vs.length with q | q
        · exact q
        · rw [List.getElem?_eq_none q] at hv; cases hv
      exact ⟨row[i]'(by omega), List.getElem?_eq_getElem _⟩
    obtain ⟨r, hr⟩ := this
    obtain ⟨t, e⟩ := hs.get hr
    rw [hv] at e; cases e
    have hrl := h1 r (List.mem_of_getElem? hr)
    refine wpAny_BinOp ?_
    refine nC hn hm ?_
    refine Calls.Constant_str ?_
    rw [T_tick]
    refine PyProof.Rows.add_str (fun t' k => ?_) (by rw [T_len, T_len, hsz, List.length_singleton]; omega)
    rw [T_app]
    exact ⟨⟨r, t, rfl, t', rfl⟩, ⟨_, _, rfl, fun _ _ e => e⟩⟩
  · intro D _ s₂ ys vs' _ _ hD hlen' hP hG hk
    have e : vs' = vs := by
      apply List.ext_getElem? ; intro j
      cases q : vs'[j]? with
      | some v => exact (hP j v q).symm
      | none =>
        rw [List.getElem?_eq_none_iff] at q
        exact (List.getElem?_eq_none (by omega)).symm
    subst e
    rw [List.filter_eq_self.mpr (fun _ _ => rfl)] at hG
    have hs' : Strs (row.map (· ++ [39])) ys := hs.map hG
    have H := H.keep hk
    show wpAny _ _ (call (.builtin "str.join") [.str (Str.ofString "") t₁, .ref D]) _ _ _
    rw [T_nil]
    refine joinR (B := 10) H ⟨ys, hD.isList, hs'⟩ ?_ ?_ ?_
    · intro r hr
      obtain ⟨r', hr', rfl⟩ := List.mem_map.mp hr
      have := h1 r' hr'
      rw [List.length_append, List.length_singleton]; omega
    · rw [List.length_map]; omega
    · intro s'' t H
      exact h _ _ H.done
end Mine
end

section
open PySem PySem.W PyProof.Rows PySem.Calls
set_option maxRecDepth 100000
set_option maxHeartbeats 1000000
namespace Mine

noncomputable def wd (n : Nat) : List Nat := (dg n).map (65 + ·)
theorem wd_zero : wd 0 = [] := by rw [wd, dg_zero]; rfl
theorem wd_one {n : Nat} (h0 : n ≠ 0) (h : n < 16) : wd n = [65 + n] := by
  rw [wd, dg_pos h0, show n / 16 = 0 by omega, dg_zero, Nat.mod_eq_of_lt h]; rfl
theorem wd_two {n : Nat} (h0 : 16 ≤ n) (h : n < 256) : wd n = [65 + n / 16, 65 + n % 16] := by
  rw [wd, dg_pos (by omega), dg_pos (n := n / 16) (by omega), show n / 16 / 16 = 0 by omega, dg_zero, show n / 16 % 16 = n / 16 by omega]; rfl
theorem Stable.isCell (c : Addr) (v : Option Value) : Stable fun h => h.IsCell c v := fun h h' s ⟨o, ho, hd⟩ => ⟨o, s c o (fun es k e => by rw [hd] at e; cases e) ho, hd⟩

theorem word_call {prog : Program} {w : World} {A : Around} {s : Shared} {n : Nat} {t : Tok} {R : Result → Shared → Prop} (B : Base w s.heap) (rm : Room A 1) (hn : n < 256)
    (h : ∀ t s', Keeps s s' → R (.ok (.ret (.str (T (wd n)) t))) s') : codeAny (model prog w) A (.call (.ref 33) ⟨[.int n t], []⟩) R s := by
  refine codeAny_call_cells (fd := fn w.params 33) (body := body w.params 33) (binds := [("number", .int n t)]) rm.lt (B.X 33 _ rfl) rfl B.lim (codeRec_of B.X rfl) rfl rfl rfl ?_ ?_ rfl rfl rfl
  · intro x hx
    cases hx with
    | head => exact .inr ⟨rfl, rfl⟩
    | tail _ q => cases q
  intro s₁ I
  have hcell : s₁.heap.IsCell (s.heap.objs.size + 1) (some (.int n t)) := I.cell "number" _ rfl
  have H : St s s.heap.objs.size (fun _ => none) (fun h => h.IsCell (s.heap.objs.size + 1) (some (.int n t))) s₁ := ⟨I.toInCall.same, ⟨I.toInCall.ns, I.toInCall.keep, Nat.le_refl _⟩, Stable.isCell _ _, hcell⟩
  have K₀ : Keeps s s₁ := H.done
  generalize hcell' : s.heap.objs.size + 1 = c at *
  refine wpAny_mono (E := fun _ _ => False) ?_ (fun _ _ q => q) fun _ _ q => q.elim
  refine wpAny_execs_cons (wpAny_Return_some ?_)
  refine Call_method1 rfl rfl rfl ?_
  refine cS H ?_; intro s₂ t₁ H
  refine methStr F.slot_str_join (by first | rfl | kernel_rfl) ?_
  refine cwB1 ?_
  refine lcE (cl := [("number", c)]) ?_ (by subst hcell'; rfl)
  refine Tuple_ (spl2 ?_)
  refine cI H ?_; intro s₂ t₂ H
  refine cI H ?_; intro s₂ t₃ H
  refine newTup H (show 2 ≤ sizeLine by decide) ?_
  intro D s₃ _ H
  have ht : s₃.heap.IsTuple D [Value.int 16 t₂, .int 1 t₃].toArray := H.p.2
  refine ⟨_, _, fun v => match v with | .int k _ => decide (k ≤ n) | _ => false, fun _ _ v y => ∀ k t, v = Value.int k t → ∃ t', y = Value.str (T [65 + (n / k.toNat) % 16]) t', fun _ _ _ _ _ _ q => q, srcTup rm.hh ht, show 2 ≤ sizeLine by decide, ?_, ?_⟩
  · intro C i v s₄ m₃ Bb E hv hnC hm hk _
    have hc : s₄.heap.IsCell c (some (.int n t)) := H.p.1.keeps (kp_heap hk)
    have hB : Base w s₄.heap := B.keeps fun b o e => kp_heap (kp_trans H.done hk) b o e
    have hv' : ∃ k t, v = .int k t ∧ (k = 16 ∨ k = 1) := by
      match i, hv with
      | 0, hv => exact ⟨16, t₂, by simpa using hv.symm, .inl rfl⟩
      | 1, hv => exact ⟨1, t₃, by simpa using hv.symm, .inr rfl⟩
      | i + 2, hv => simp at hv
    obtain ⟨k, tk, rfl, hk'⟩ := hv'
    refine ⟨wpAny_tests_one ?_, fun _ => ?_⟩
    · refine wpAny_isTrue_Compare1 ?_
      refine nC hnC hm ?_
      refine wpAny_Name (wpAny_loadName_cell rfl rfl rfl hc ?_)
      refine PyProof.Rows.le_int ?_
      refine wpAny_truthy_bool ?_
      exact ⟨rfl, kp_refl _⟩
    · refine Call_Name1 ?_
      refine nB' hB (b_chr _) rfl (by decide) ?_
      refine cwB1 ?_
      refine wpAny_BinOp ?_
      refine wpAny_Constant_int ?_
      refine wpAny_BinOp ?_
      refine wpAny_BinOp ?_
      refine wpAny_Name (wpAny_loadName_cell rfl rfl rfl hc ?_)
      refine nC hnC hm ?_
      refine PyProof.Rows.floordiv_int (by omega) ?_ (.inl (PyProof.noPylong_small (by rcases hk' with rfl | rfl <;> decide)))
      refine wpAny_Constant_int ?_
      refine PyProof.Rows.mod_int (by decide) ?_
      refine PyProof.Rows.add_int ?_
      have e : (65 : Int) + ((n : Int).fdiv k).fmod 16 = ((65 + (n / k.toNat) % 16 : Nat) : Int) := by
        rw [Int.fdiv_eq_ediv_of_nonneg _ (by omega), Int.fmod_eq_emod_of_nonneg _ (by decide)]
        rcases hk' with rfl | rfl
        · simp
        · simp
      rw [e]
      refine P.chr_of_int (by simp; omega) ?_
      refine ⟨?_, ⟨_, _, rfl, fun _ _ e => e⟩⟩
      intro k₂ t₂ e
      cases e
      exact ⟨_, rfl⟩
  · intro D₂ _ s₄ ys vs _ _ hD hlen hP hG hk
    have e : vs = [Value.int 16 t₂, .int 1 t₃] := by
      apply List.ext_getElem? ; intro j
      cases q : vs[j]? with
      | some v => exact (hP j v q).symm
      | none =>
        rw [List.getElem?_eq_none_iff] at q
        exact (List.getElem?_eq_none (by rw [← hlen]; exact q)).symm
    subst e
    have H := H.keep hk
    show wpAny _ _ (call (.builtin "str.join") [.str (Str.ofString "") t₁, .ref D₂]) _ _ _
    rw [T_nil]
    have key : ∃ row, Strs row ys ∧ (∀ r ∈ row, r.length ≤ 1) ∧ row.length ≤ 2 ∧ row.flatten = wd n := by
      by_cases h0 : n = 0
      · subst h0
        simp at hG
        cases hG
        exact ⟨[], .nil, by simp, by simp, by rw [wd_zero]; rfl⟩
      · by_cases h1 : n < 16
        · have e1 : decide ((16 : Int) ≤ n) = false := by simp; omega
          have e2 : decide ((1 : Int) ≤ n) = true := by simp; omega
          simp only [List.filter, e1, e2] at hG
          cases hG with
          | cons a t =>
            cases t
            obtain ⟨t', rfl⟩ := a _ _ rfl
            refine ⟨[[65 + n]], .cons ⟨t', by simp [Nat.mod_eq_of_lt h1]⟩ .nil, by simp, by simp, by rw [wd_one h0 h1]; rfl⟩
        · have e1 : decide ((16 : Int) ≤ n) = true := by simp; omega
          have e2 : decide ((1 : Int) ≤ n) = true := by simp; omega
          simp only [List.filter, e1, e2] at hG
          cases hG with
          | cons a t =>
            cases t with
            | cons b t =>
              cases t
              obtain ⟨t', rfl⟩ := a _ _ rfl
              obtain ⟨t'', rfl⟩ := b _ _ rfl
              refine ⟨[[65 + n / 16], [65 + n % 16]], .cons ⟨t', by simp [show n / 16 % 16 = n / 16 by omega]⟩ (.cons ⟨t'', by simp⟩ .nil), by simp, by simp, by rw [wd_two (by omega) hn]; rfl⟩
    obtain ⟨row, hs, h1, h2, h3⟩ := key
    refine joinR (B := 1) H ⟨ys, hD.isList, hs⟩ h1 (by omega) ?_
    intro s'' t H
    rw [h3]
    exact h _ _ H.done
end Mine
end

section
open PySem PySem.W PyProof.Rows PySem.Calls
set_option maxRecDepth 100000
set_option maxHeartbeats 1000000
namespace Mine

/-- only lists and tuples are asked -/
def SubS (h h' : Heap) : Prop := ∀ b o, (∃ xs n, o.data = .seq xs n) → h.get? b = some o → h'.get? b = some o
def Seqy (P : Heap → Prop) : Prop := ∀ h h', SubS h h' → P h → P h'
theorem SubS.of_sub {h h' : Heap} (s : Sub h h') : SubS h h' := fun b o ⟨xs, n, e⟩ q => s b o (fun es k e' => by rw [e] at e'; cases e') q
theorem Seqy.stable {P : Heap → Prop} (s : Seqy P) : Stable P := fun h h' q p => s h h' (SubS.of_sub q) p
theorem Seqy.and {P P' : Heap → Prop} (a : Seqy P) (b : Seqy P') : Seqy fun h => P h ∧ P' h := fun h h' s x => ⟨a h h' s x.1, b h h' s x.2⟩
theorem Seqy.ex {α : Type} {P : α → Heap → Prop} (a : ∀ x, Seqy (P x)) : Seqy fun h => ∃ x, P x h := fun h h' s ⟨x, p⟩ => ⟨x, a x h h' s p⟩
theorem Seqy.const (p : Prop) : Seqy fun _ => p := fun _ _ _ x => x
theorem Seqy.isList (a : Addr) (xs : Array Value) : Seqy fun h => h.IsList a xs := fun h h' s ⟨o, ho, hc, n, hd⟩ => ⟨o, s a o ⟨_, _, hd⟩ ho, hc, n, hd⟩
theorem Seqy.isTup (a : Addr) (xs : Array Value) : Seqy fun h => IsTup h a xs := fun h h' s ⟨o, ho, hc, n, hd⟩ => ⟨o, s a o ⟨_, _, hd⟩ ho, hc, n, hd⟩
theorem Seqy.isRow (a : Addr) (row : List (List Nat)) : Seqy (IsRow a row) := fun h h' s ⟨vs, hl, hs⟩ => ⟨vs, Seqy.isList a _ h h' s hl, hs⟩

def IterAt (I : Addr) (h : Heap) : Prop := ∃ o c fs, h.get? I = some o ∧ o.cls = .type c ∧ o.data = .fields fs ∧ (c = "list_iterator" ∨ c = "range_iterator")
/-- only objects with fields are asked -/
def Fieldy (Z : Heap → Prop) : Prop := ∀ h h', (∀ b o, (∃ fs, o.data = .fields fs) → h.get? b = some o → h'.get? b = some o) → Z h → Z h'
theorem Fieldy.stable {Z : Heap → Prop} (x : Fieldy Z) : Stable Z := fun h h' s z => x h h' (fun b o ⟨fs, e⟩ q => s b o (fun es k e' => by rw [e] at e'; cases e') q) z
def SrcF (K : (Heap → Prop) → Prop) (prog : Program) (w : World) (A : Around) (xv : Value) (s : Shared) (n : Nat) (Pi : Nat → Value → Prop) : Prop :=
  ∃ (o : Obj) (fp : List Addr) (It : Nat → Heap → Prop), Walks prog w A s.heap.objs.size fp [s.heap.objs.size] n Pi It ∧ (∀ i, K (It i)) ∧ (∀ i h, It i h → IterAt s.heap.objs.size h) ∧
    It 0 (s.heap.push o) ∧ ∀ (Q : Value → Shared → Prop) (E : Value → Shared → Prop), Q (.ref s.heap.objs.size) { s with heap := s.heap.push o } → wpAny (model prog w) A (pyIter xv) Q E s

section
variable {prog : Program} {w : World} {A : Around} {E : Value → Shared → Prop} {s : Shared}
theorem stable_fields {I : Addr} {c : String} {fs : Array Value} : Stable fun h => ∃ o, h.get? I = some o ∧ o.cls = .type c ∧ o.data = .fields fs :=
  fun h h' s ⟨o, ho, hc, hd⟩ => ⟨o, s I o (fun es k e => by rw [hd] at e; cases e) ho, hc, hd⟩
theorem srcFList {l : Addr} {vs : List Value} (hh : A.handled = none) (hl : s.heap.IsList l vs.toArray) : SrcF Stable prog w A (.ref l) s vs.length fun i v => vs[i]? = some v := by
  have hlt : l < s.heap.objs.size := by obtain ⟨o, ho, _⟩ := hl; exact Heap.lt_size ho
  have W := Walks.list (prog := prog) (w := w) hh s.heap.objs.size l (Nat.ne_of_lt hlt) vs.toArray
  have W' : Walks prog w A s.heap.objs.size [s.heap.objs.size, l] [s.heap.objs.size] vs.length (fun i v => vs[i]? = some v) (fun i h => h.IsListIter s.heap.objs.size l i ∧ h.IsList l vs.toArray) := by simpa using W
  exact ⟨{ cls := .type "list_iterator", data := .fields #[.ref l, .int 0 0] }, _, _, W', fun i => Stable.and stable_fields (Stable.isList _ _),
    fun i h st => by obtain ⟨⟨o, e, c, d⟩, _⟩ := st; exact ⟨o, _, _, e, c, d, .inl rfl⟩, ⟨⟨_, Heap.get?_push_size _ rfl, rfl, rfl⟩, hl.push _⟩, fun Q E h => wpAny_pyIter_list hl h⟩
theorem srcFRange {r : Addr} {n : Nat} {t u v : Tok} (hh : A.handled = none) (hr : IsRange s.heap r 0 n 1 t u v) (hn : n < 2 ^ 60) : SrcF Fieldy prog w A (.ref r) s n fun i v => ∃ t, v = .int (i : Int) t := by
  have W := Walks.range (prog := prog) (w := w) hh s.heap.objs.size 0 1 n
  have e : Builtin.Range.rangeSize 0 (n : Int) 1 = n := by rw [rangeSize_one]; split <;> omega
  have hsm : Builtin.Range.small 0 (n : Int) 1 = true := small_one (by decide) (by decide) (by omega) (by omega)
  have W' : Walks prog w A s.heap.objs.size [s.heap.objs.size] [s.heap.objs.size] n (fun i v => ∃ t, v = .int (i : Int) t) (fun i h => IsRangeIter h s.heap.objs.size (0 + (i : Nat) * 1) ((n : Int) - (i : Nat)) 1) := by simpa using W
  refine ⟨{ cls := .type "range_iterator", data := .fields #[rawInt 0, rawInt (Builtin.Range.rangeSize 0 n 1), rawInt 1] }, _, _, W', fun i h h' q p => ?_, fun i h st => ⟨_, _, _, st, rfl, rfl, .inr rfl⟩, ?_, fun Q E h => wpAny_pyIter_range hr hsm h⟩
  · exact q _ _ ⟨_, rfl⟩ p
  · rw [e]
    have := Heap.get?_push_size (o := { cls := .type "range_iterator", data := .fields #[rawInt 0, rawInt (n : Int), rawInt 1] }) s.heap rfl
    simpa [IsRangeIter] using this

theorem letGo_iter {target : Expr} {I : Addr} {v : Value} {Q : Unit → Shared → Prop} (hI : IterAt I s.heap) (h : Q () s) : wpAny (model prog w) A (letOwnedTupleGo target (.ref I) v) Q E s := by
  obtain ⟨o, c, fs, ho, hc, hd, hn⟩ := hI
  unfold letOwnedTupleGo
  split
  · split
    · rename_i e
      cases e
      refine wpAny_bind (wpAny_load ho ?_)
      rw [hc, hd]
      rcases hn with rfl | rfl
      · exact wpAny_pure h
      · exact wpAny_pure h
    · exact wpAny_pure h
  · split
    · rename_i e
      cases e
      refine wpAny_bind (wpAny_load ho ?_)
      rw [hc, hd]
      rcases hn with rfl | rfl
      · exact wpAny_pure h
      · exact wpAny_pure h
    · exact wpAny_pure h
  · exact wpAny_pure h

variable {s₀ : Shared} {L : Addr} {m : Str → Option Value} {P : Heap → Prop}
/-- a for by an invariant over names and heap -/
theorem forR {target : Expr} {body : List Stmt} {env : Env} {xv : Value} {n : Nat} {Pi : Nat → Value → Prop} {R : Result → Shared → Prop} {K : (Heap → Prop) → Prop} (hK : ∀ Z, K Z → Stable Z) (H : St s₀ L m P s) (src : SrcF K prog w A xv s n Pi)
    (Inv : Nat → (Str → Option Value) → Heap → Prop) (hS : ∀ k m, Seqy (Inv k m)) (h0 : Inv 0 m s.heap)
    (turn : ∀ i v s' m' (It : Heap → Prop) (E' : Value → Shared → Prop), i < n → Pi i v → K It → St s₀ L m' (fun h => Inv i m' h ∧ It h) s' →
      wpAny (model prog w) A (assign target env v) (fun _ s₂ => wpAny (model prog w) A (execs body env) (fun f s₃ => match f with
        | .next | .cont => ∃ m₃, St s₀ L m₃ (fun h => Inv (i + 1) m₃ h ∧ It h) s₃
        | .brk => R (.ok .next) s₃
        | .ret v => R (.ok (.ret v)) s₃) E' s₂) E' s')
    (fin : ∀ s' m', St s₀ L m' (Inv n m') s' → R (.ok .next) s') :
    wpAny (model prog w) A (pyIter xv) (fun it s₂ => codeAny (model prog w) A (.forLoop target it body [] env) R s₂) E s := by
  obtain ⟨o, fp, It, W, hst, hI, hIt, hpi⟩ := src
  refine hpi _ _ ?_
  have hI₀ : s₀.heap.get? s.heap.objs.size = none := by
    cases e : s₀.heap.get? s.heap.objs.size with
    | none => rfl
    | some o => exact absurd (Heap.lt_size (H.F.keep _ _ e)) (Nat.lt_irrefl _)
  have hIL : L ≠ s.heap.objs.size := by obtain ⟨o, _, _, e, _⟩ := H.F.ns; exact Nat.ne_of_lt (Heap.lt_size e)
  have next : ∀ {s' : Shared} {m' : Str → Option Value} {k j : Nat} {h' : Heap} {tk : Nat}, St s₀ L m' (fun h => Inv k m' h ∧ It j h) s' → (∀ b o, b ∉ [s.heap.objs.size] → s'.heap.get? b = some o → h'.get? b = some o) → ∀ (Z : Heap → Prop), Stable Z → Z h' →
      St s₀ L m' (fun h => Inv k m' h ∧ Z h) { s' with heap := h', toks := tk } := by
    intro s' m' k j h' tk H' hk Z hZ z
    obtain ⟨⟨h'', tk'', rfl⟩, F, sP, p, q⟩ := H'
    refine ⟨⟨h', tk, rfl⟩, ⟨F.ns.at' fun o e => hk L o (by simpa using hIL) e, fun b o e => hk b o (by simp; rintro rfl; rw [hI₀] at e; cases e) (F.keep b o e), F.above⟩, Stable.and (hS k m').stable hZ, ?_, z⟩
    refine hS k m' _ _ (fun b o ho e => hk b o ?_ e) p
    simp
    rintro rfl
    obtain ⟨o', c, fs, ho', _, hd', _⟩ := hI _ _ q
    rw [e] at ho'; cases ho'
    obtain ⟨xs, nn, hx⟩ := ho
    rw [hd'] at hx; cases hx
  refine codeAny_forLoop_any (fun k s' => ∃ i m', i ≤ n ∧ k = n + 1 - i ∧ St s₀ L m' (fun h => Inv i m' h ∧ It i h) s') ?_ (n + 1) ⟨0, m, Nat.zero_le _, rfl, ?_⟩
  · rintro k s' ⟨i, m', hi, rfl, H'⟩
    by_cases hlt : i < n
    · refine W.item i _ _ _ hlt H'.p.2 fun v h₁ tk₁ hPv it₁ hk₁ => ?_
      have H₁ := next (tk := tk₁) H' hk₁ (It (i + 1)) (hK _ (hst _)) it₁
      refine letGo_iter (hI _ _ it₁) ?_
      refine wpAny_mono (turn i v _ m' (It (i + 1)) _ hlt hPv (hst _) H₁) (fun _ s₂ h₂ => wpAny_mono h₂ (fun f s₃ h₃ => ?_) fun _ _ e => e) fun _ _ e => e
      cases f with
      | next => obtain ⟨m₃, H₃⟩ := h₃; exact ⟨n + 1 - (i + 1), by omega, i + 1, m₃, hlt, rfl, H₃⟩
      | cont => obtain ⟨m₃, H₃⟩ := h₃; exact ⟨n + 1 - (i + 1), by omega, i + 1, m₃, hlt, rfl, H₃⟩
      | brk => exact h₃
      | ret v => exact h₃
    · have e : i = n := by omega
      subst e
      refine W.done _ _ _ H'.p.2 fun h₁ tk₁ hk₁ => ?_
      have H₁ := next (tk := tk₁) H' hk₁ (fun _ => True) Stable.true trivial
      exact wpAny_execs_nil (fin _ _ (H₁.less (hS i m').stable fun _ q => q.1))
  · refine ⟨?_, ⟨(H.F.push o).ns, (H.F.push o).keep, H.F.above⟩, Stable.and (hS 0 m).stable (hK _ (hst 0)), hS 0 m _ _ (fun b o' _ e => Heap.get?_push_of_some _ e) h0, hIt⟩
    obtain ⟨⟨h, tk, rfl⟩, _⟩ := H
    exact ⟨_, _, rfl⟩
end
end Mine
end

section
open PySem PySem.W PyProof.Rows PySem.Calls
set_option maxRecDepth 100000
set_option maxHeartbeats 1000000
namespace Mine

abbrev Tri := Nat × Nat × Nat
def numStep (total : Nat) (p : Tri) : Nat := if 0 < p.2.1 then total * 16 ^ (p.2.1 * p.2.2) + p.1 * ((16 ^ (p.2.1 * p.2.2) - 1) / (16 ^ p.2.1 - 1)) else total
def num (ps : List Tri) : Nat := ps.foldl numStep 0
def TriOk (p : Tri) : Prop := p.1 < 16 ^ p.2.1 ∧ p.2.1 ≤ 4 ∧ p.2.2 ≤ 50
def IsTri (h : Heap) (p : Tri) (v : Value) : Prop := ∃ a t₁ t₂ t₃, v = .ref a ∧ IsTup h a #[.int p.1 t₁, .int p.2.1 t₂, .int p.2.2 t₃]
def IsTris (a : Addr) (ps : List Tri) (h : Heap) : Prop := ∃ vs, h.IsList a vs.toArray ∧ Paired (IsTri h) ps vs
theorem IsTri.mono {h h' : Heap} (s : SubS h h') {p : Tri} {v : Value} (x : IsTri h p v) : IsTri h' p v := by
  obtain ⟨a, t₁, t₂, t₃, e, q⟩ := x
  exact ⟨a, t₁, t₂, t₃, e, Seqy.isTup _ _ h h' s q⟩
theorem Seqy.isTris (a : Addr) (ps : List Tri) : Seqy (IsTris a ps) := fun h h' s ⟨vs, hl, hp⟩ => ⟨vs, Seqy.isList a _ h h' s hl, Paired.imp (fun _ _ => IsTri.mono s) hp⟩
theorem Paired.get {α β : Type} {F : α → β → Prop} {l₁ : List α} {l₂ : List β} (h : Paired F l₁ l₂) : ∀ {i : Nat} {b : β}, l₂[i]? = some b → ∃ a, l₁[i]? = some a ∧ F a b := by
  induction h with
  | nil => intro i b e; simp at e
  | cons x _ ih =>
    intro i b e
    cases i with
    | zero => simp at e; subst e; exact ⟨_, rfl, x⟩
    | succ i => exact ih (by simpa using e)

theorem mulOk {a b : Nat} {k : Nat} (hk : k ≤ 10000) (ha : a < 2 ^ k) (hb : b < 2 ^ k) : IntMulOk (a : Int) (b : Int) := by
  have h1 : Builtin.Int.intBits (a : Int) ≤ k := intBits_le_iff.mpr (by simpa using ha)
  have h2 : Builtin.Int.intBits (b : Int) ≤ k := intBits_le_iff.mpr (by simpa using hb)
  unfold IntMulOk
  have : Builtin.Int.intTooBig (((Builtin.Int.intBits (a : Int) : Nat) : Int) + (Builtin.Int.intBits (b : Int) : Nat)) = false := by
    unfold Builtin.Int.intTooBig
    have e : bitsLine = 134217728 := rfl
    simp only [e, decide_eq_false_iff_not]
    omega
  rw [this]
  simp
theorem pow16 (n : Nat) : (16 : Nat) ^ n = 2 ^ (4 * n) := by rw [show (16 : Nat) = 2 ^ 4 from rfl, ← Nat.pow_mul]
/-- the geometric part stays below the span -/
theorem geo_lt {v l t : Nat} (hl : 0 < l) (hv : v < 16 ^ l) : v * ((16 ^ (l * t) - 1) / (16 ^ l - 1)) < 16 ^ (l * t) := by
  have h1 : 1 < 16 ^ l := Nat.one_lt_pow (by omega) (by decide)
  have h2 : 0 < 16 ^ (l * t) := Nat.pow_pos (by decide)
  have h3 : v * ((16 ^ (l * t) - 1) / (16 ^ l - 1)) ≤ (16 ^ l - 1) * ((16 ^ (l * t) - 1) / (16 ^ l - 1)) := Nat.mul_le_mul_right _ (by omega)
  have h4 := Nat.mul_div_le (16 ^ (l * t) - 1) (16 ^ l - 1)
  omega
theorem numStep_lt {total : Nat} {p : Tri} {d : Nat} (hd : total < 16 ^ d) (hp : TriOk p) : numStep total p < 16 ^ (d + p.2.1 * p.2.2) := by
  unfold numStep
  split
  · rename_i hl
    have := geo_lt (t := p.2.2) hl hp.1
    rw [Nat.pow_add]
    have h2 : (total + 1) * 16 ^ (p.2.1 * p.2.2) ≤ 16 ^ d * 16 ^ (p.2.1 * p.2.2) := Nat.mul_le_mul_right _ hd
    rw [Nat.succ_mul] at h2
    omega
  · have : p.2.1 = 0 := by omega
    rw [this, Nat.zero_mul, Nat.add_zero]
    exact hd
theorem numFold_lt : ∀ (ps : List Tri) (total d : Nat), total < 16 ^ d → (∀ p ∈ ps, TriOk p) → ps.foldl numStep total < 16 ^ (d + (ps.map fun p => p.2.1 * p.2.2).sum)
  | [], total, d, h, _ => by simpa using h
  | p :: ps, total, d, h, hp => by
    have := numFold_lt ps _ _ (numStep_lt h (hp p List.mem_cons_self)) fun q hq => hp q (List.mem_cons_of_mem _ hq)
    rw [List.foldl_cons, List.map_cons, List.sum_cons, ← Nat.add_assoc]
    exact this
theorem numTake_lt {ps : List Tri} (hp : ∀ p ∈ ps, TriOk p) (hl : ps.length ≤ 3) (i : Nat) : (ps.take i).foldl numStep 0 < 2 ^ 3000 := by
  have h1 := numFold_lt (ps.take i) 0 0 (by decide) fun p q => hp p (List.mem_of_mem_take q)
  have h2 : ∀ l : List Tri, (∀ p ∈ l, TriOk p) → (l.map fun p => p.2.1 * p.2.2).sum ≤ 200 * l.length := by
    intro l
    induction l with
    | nil => intro _; simp
    | cons p r ih =>
      intro h
      have := ih fun q hq => h q (List.mem_cons_of_mem _ hq)
      have hp := h p List.mem_cons_self
      have : p.2.1 * p.2.2 ≤ 4 * 50 := Nat.mul_le_mul hp.2.1 hp.2.2
      rw [List.map_cons, List.sum_cons, List.length_cons]
      omega
  have h3 := h2 (ps.take i) fun p q => hp p (List.mem_of_mem_take q)
  have h4 : (ps.take i).length ≤ 3 := by rw [List.length_take]; omega
  rw [pow16] at h1
  exact Nat.lt_of_lt_of_le h1 (Nat.pow_le_pow_right (by decide) (by omega))

theorem number_call {prog : Program} {w : World} {A : Around} {s : Shared} {a : Addr} {ps : List Tri} {R : Result → Shared → Prop} (B : Base w s.heap) (rm : Room A 1) (hr : IsTris a ps s.heap) (hp : ∀ p ∈ ps, TriOk p) (hl : ps.length ≤ 3)
    (h : ∀ t s', Keeps s s' → R (.ok (.ret (.int (num ps) t))) s') : codeAny (model prog w) A (.call (.ref 40) ⟨[.ref a], []⟩) R s := by
  refine enter (binds := [("parts", .ref a)]) B rm.lt rfl rfl rfl (fun _ => rfl) rfl rfl (locs rfl) rfl rfl rfl ?_
  intro L s' H
  refine wpAny_execs_cons (wpAny_Assign_Name ?_)
  refine cI H ?_; intro s₁ t₁ H
  refine sL H ?_; intro s₂ H
  refine wpAny_execs_cons (wpAny_For ?_)
  refine nL H rfl ?_
  have hr₂ : IsTris a ps s₂.heap := Seqy.isTris a ps _ _ (fun b o _ e => H.F.keep b o e) hr
  obtain ⟨vs, hvl, hvs⟩ := hr₂
  refine forR (fun _ q => q) H (srcFList rm.hh hvl) (fun k m h => (∃ t, m "total" = some (.int ((ps.take k).foldl numStep 0 : Nat) t)) ∧ Paired (IsTri h) ps vs) ?_ ⟨⟨_, rfl⟩, hvs⟩ ?_ ?_
  · exact fun k m => Seqy.and (Seqy.const _) fun h h' s x => Paired.imp (fun _ _ => IsTri.mono s) x
  · intro i v s₃ m' It E' hi hv hIt H
    obtain ⟨⟨⟨t₂, htot⟩, hpr⟩, hit⟩ := H.p
    obtain ⟨p, hpi, a', u₁, u₂, u₃, rfl, htup⟩ := Paired.get hpr hv
    have hpo := hp p (List.mem_of_getElem? hpi)
    have hlt := numTake_lt hp hl i
    have hstep : (ps.take (i + 1)).foldl numStep 0 = numStep ((ps.take i).foldl numStep 0) p := by
      rw [List.take_add_one, hpi, List.foldl_append]; rfl
    refine unp3 rm.hh H htup ?_
    intro s₄ H
    generalize (ps.take i).foldl numStep 0 = tot at htot hlt hstep
    obtain ⟨vl, lt, tm⟩ := p
    obtain ⟨hv1, hv2, hv3⟩ := hpo
    dsimp only at hv1 hv2 hv3 H
    refine wpAny_execs_cons (wpAny_If ?_)
    refine wpAny_isTrue_Compare1 ?_
    refine nL H rfl ?_
    refine cI H ?_; intro s₅ t₃ H
    refine PyProof.Rows.gt_int ?_
    refine wpAny_truthy_bool ?_
    by_cases h0 : 0 < lt
    · rw [if_pos (by simpa using h0)]
      have hspan : (16 : Nat) ^ (lt * tm) < 2 ^ 3000 := by
        rw [pow16]
        have : lt * tm ≤ 4 * 50 := Nat.mul_le_mul hv2 hv3
        exact Nat.pow_lt_pow_right (by decide) (by omega)
      have hsp1 : 1 ≤ (16 : Nat) ^ (lt * tm) := Nat.pow_pos (by decide)
      have hl16 : (16 : Nat) ^ lt ≤ 16 ^ 4 := Nat.pow_le_pow_right (by decide) hv2
      have hl1 : 16 ^ 1 ≤ (16 : Nat) ^ lt := Nat.pow_le_pow_right (by decide) h0
      refine wpAny_execs_cons (wpAny_Assign_Name ?_)
      refine wpAny_BinOp ?_
      refine cI H ?_; intro s₅ t₃ H
      refine wpAny_BinOp ?_
      refine nL H rfl ?_
      refine nL H rfl ?_
      refine mulI H (mulOk (k := 64) (by decide) (by omega) (by omega)) ?_; intro s₅ t₃ H
      have hm : lt * tm ≤ 4 * 50 := Nat.mul_le_mul hv2 hv3
      have em : (lt : Int) * (tm : Int) = ((lt * tm : Nat) : Int) := by simp
      rw [em]
      refine powI H (by omega) (by omega) (by decide) ?_; intro s₅ t₃ H
      have ep : (16 : Int) ^ ((lt * tm : Nat) : Int).toNat = ((16 ^ (lt * tm) : Nat) : Int) := by rw [Int.toNat_natCast, Int.natCast_pow]; rfl
      rw [ep]
      generalize hsp : (16 : Nat) ^ (lt * tm) = span at *
      refine sL H ?_; intro s₅ H
      refine wpAny_execs_cons (wpAny_Assign_Name ?_)
      refine wpAny_BinOp ?_
      refine wpAny_BinOp ?_
      refine nL H htot ?_
      refine nL H rfl ?_
      refine mulI H (mulOk (k := 3000) (by decide) hlt hspan) ?_; intro s₅ t₃ H
      refine wpAny_BinOp ?_
      refine nL H rfl ?_
      refine wpAny_BinOp ?_
      refine wpAny_BinOp ?_
      refine nL H rfl ?_
      refine cI H ?_; intro s₅ t₃ H
      refine subI H ?_; intro s₅ t₃ H
      refine wpAny_BinOp ?_
      refine wpAny_BinOp ?_
      refine cI H ?_; intro s₅ t₃ H
      refine nL H rfl ?_
      refine powI H (by omega) (by omega) (by decide) ?_; intro s₅ t₃ H
      refine cI H ?_; intro s₅ t₃ H
      refine subI H ?_; intro s₅ t₃ H
      have e1 : (16 : Int) ^ ((lt : Nat) : Int).toNat - 1 = ((16 ^ lt - 1 : Nat) : Int) := by
        rw [Int.ofNat_sub (by omega)]; simp
      have e2 : (span : Int) - 1 = ((span - 1 : Nat) : Int) := by omega
      rw [e1, e2]
      refine divI H (by omega) (PyProof.noPylong_small (by omega)) ?_; intro s₅ t₃ H
      have e3 : ((span - 1 : Nat) : Int).fdiv ((16 ^ lt - 1 : Nat) : Int) = (((span - 1) / (16 ^ lt - 1) : Nat) : Int) := by
        rw [Int.fdiv_eq_ediv_of_nonneg _ (by omega)]; simp
      rw [e3]
      have hq : (span - 1) / (16 ^ lt - 1) < 2 ^ 3000 := Nat.lt_of_le_of_lt (Nat.div_le_self _ _) (by omega)
      have hvl : vl < 2 ^ 3000 := Nat.lt_of_lt_of_le (Nat.lt_of_lt_of_le hv1 hl16) (by decide)
      refine mulI H (mulOk (k := 3000) (by decide) hvl hq) ?_; intro s₅ t₃ H
      refine addI H ?_; intro s₅ t₃ H
      refine sL H ?_; intro s₅ H
      refine wpAny_execs_nil ?_
      refine wpAny_execs_nil ?_
      refine ⟨_, H.less (Stable.and (Seqy.stable (Seqy.and (Seqy.const _) fun h h' s x => Paired.imp (fun _ _ => IsTri.mono s) x)) hIt) fun h q => ⟨⟨⟨t₃, ?_⟩, q.1.2⟩, q.2⟩⟩
      rw [hstep, numStep, if_pos h0]
      have e4 : ((tot * 16 ^ (lt * tm) + vl * ((16 ^ (lt * tm) - 1) / (16 ^ lt - 1)) : Nat) : Int) = (tot : Int) * (span : Int) + (vl : Int) * (((span - 1) / (16 ^ lt - 1) : Nat) : Int) := by
        rw [hsp]; simp
      rw [e4]
      rfl
    · rw [if_neg (by simpa using h0)]
      refine wpAny_execs_nil ?_
      refine wpAny_execs_nil ?_
      refine ⟨_, H.less (Stable.and (Seqy.stable (Seqy.and (Seqy.const _) fun h h' s x => Paired.imp (fun _ _ => IsTri.mono s) x)) hIt) fun h q => ⟨⟨⟨t₂, ?_⟩, q.1.2⟩, q.2⟩⟩
      rw [hstep, numStep, if_neg h0]
      exact htot
  · intro s₃ m' H
    obtain ⟨⟨t₂, htot⟩, hpr⟩ := H.p
    refine wpAny_execs_cons (wpAny_Return_some ?_)
    refine nL H htot ?_
    have e : ps.take vs.length = ps := by rw [← PySem.Paired.length hpr]; exact List.take_length
    rw [e]
    exact h _ _ H.done
end Mine
end

section
open PySem PySem.W PyProof.Rows PySem.Calls
set_option maxRecDepth 100000
set_option maxHeartbeats 1000000
namespace Mine
theorem Seqy.plain (a : Addr) (xs : Array Value) : Seqy fun h => h.PlainList a xs := fun h h' s ⟨n, e⟩ => ⟨n, s a _ ⟨_, _, rfl⟩ e⟩
theorem Stable.plain (a : Addr) (xs : Array Value) : Stable fun h => h.PlainList a xs := (Seqy.plain a xs).stable
section
variable {prog : Program} {w : World} {A : Around} {E : Value → Shared → Prop} {s s₀ : Shared} {L : Addr} {m : Str → Option Value} {P : Heap → Prop}
  {n : Str} {sc : Scope} {a : Addr} {cd : Value} {Q : Value → Shared → Prop} {pos : Pos} {env : Env}

theorem newLst {vs : List Value} (H : St s₀ L m P s) (hz : vs.length ≤ sizeLine) (h : ∀ D s', s.heap.get? D = none → St s₀ L m (fun h => P h ∧ h.PlainList D vs.toArray) s' → Q (.ref D) s') :
    wpAny (model prog w) A (newList vs) Q E s := by
  refine wpAny_newObj_type (h _ _ (fresh_none (Nat.le_refl _)) ((H.keeps fun b o e => Heap.get?_push_of_some _ e).more (Stable.plain _ _) ⟨0, Heap.get?_push_size _ rfl⟩)) (by show vs.toArray.size ≤ sizeLine; rw [List.size_toArray]; exact hz)
/-- a method of a plain list -/
theorem methList {name : Str} {id : String} {l : Addr} {vs : Array Value} {args : List (Bool × Sem Value)} (slot : Slot "list" name id) (ty : typeOf (.builtin id) = pure (.type "method_descriptor")) (hl : s.heap.PlainList l vs)
    (h : wpAny (model prog w) A (callWith pos (.builtin id) [.ref l] args []) Q E s) : MethodOnS prog w A E name (.ref l) pos args Q s :=
  ⟨"list", id, F.plainAttrs_list, slot, ty, hl.isList.typeIs, (fun b e => by cases e; obtain ⟨n, e⟩ := hl; exact ⟨_, e, rfl⟩), h⟩
/-- l.append(x) -/
theorem appR {l : Addr} {vs : List Value} {x : Value} {P' : Heap → Prop} (H : St s₀ L m P s) (hl : s.heap.PlainList l vs.toArray) (hl0 : s₀.heap.get? l = none) (hz : vs.length ≤ sizeLine) (sP' : Stable P')
    (up : ∀ h', h'.PlainList l (vs ++ [x]).toArray → (∀ b o, b ≠ l → s.heap.get? b = some o → h'.get? b = some o) → P' h') (h : ∀ s', St s₀ L m P' s' → Q .none s') :
    wpAny (model prog w) A (call (.builtin "list.append") [.ref l, x]) Q E s := by
  refine wpAny_list_append_plain (hsz := by rw [List.size_toArray]; exact hz) hl fun h' hl' hs' => h _ ?_
  have hLl : L ≠ l := by
    rintro rfl
    obtain ⟨o, es, ep, e, d, _⟩ := H.F.ns
    obtain ⟨n, e'⟩ := hl
    rw [e] at e'; cases e'; cases d
  obtain ⟨⟨h₁, tk, rfl⟩, F, sP, p⟩ := H
  refine ⟨⟨h', tk, rfl⟩, ⟨F.ns.sameBut hs' hLl, fun b o e => hs'.extBut b o (by rintro rfl; rw [hl0] at e; cases e) (F.keep b o e), F.above⟩, sP', up h' (by simpa using hl') fun b o nb e => hs'.extBut b o nb e⟩
theorem foldl_app (vs : List Value) : ∀ (k : Nat) (acc : List Value), List.foldl (fun x1 x2 : Array Value => x1 ++ x2) acc.toArray (List.replicate k vs.toArray) = (acc ++ (List.replicate k vs).flatten).toArray
  | 0, acc => by simp
  | k + 1, acc => by rw [List.replicate_succ, List.foldl_cons, List.append_toArray, foldl_app vs k, List.replicate_succ, List.flatten_cons, List.append_assoc]
/-- list * int -/
theorem mulL {l : Addr} {vs : List Value} {k : Nat} {u : Tok} (H : St s₀ L m P s) (hl : s.heap.PlainList l vs.toArray) (hz : vs.length * k ≤ 2 ^ 24) (hk : k < 2 ^ 60)
    (h : ∀ D s', s.heap.get? D = none → St s₀ L m (fun h => P h ∧ h.PlainList D (List.replicate k vs).flatten.toArray) s' → Q (.ref D) s') :
    wpAny (model prog w) A (binaryOp .Mult (.ref l) (.int k u)) Q E s := by
  obtain ⟨news, N, back⟩ := H.full
  obtain ⟨c, hl⟩ := hl
  refine mul_list H.F N hl (by omega) (by omega) (by simpa using hz) fun h' F' N' => ?_
  have e : List.foldl (fun x1 x2 : Array Value => x1 ++ x2) #[] (List.replicate (if vs.toArray.isEmpty = true then 0 else ((k : Int)).toNat) vs.toArray) = (List.replicate k vs).flatten.toArray := by
    cases vs with
    | nil => simp
    | cons v vs =>
      have : ((v :: vs).toArray.isEmpty) = false := by simp
      rw [this]
      have := foldl_app (v :: vs) k []
      simpa using this
  rw [e] at N'
  exact h _ _ (fresh_none (Nat.le_refl _)) ((back h' s.toks m F' fun p hp => N' p (.tail _ hp)).more (Stable.plain _ _) ⟨0, (N' _ (.head _)).1⟩)
/-- list + list -/
theorem addL {l b : Addr} {vs ws : List Value} (H : St s₀ L m P s) (hl : s.heap.IsList l vs.toArray) (hb : s.heap.IsList b ws.toArray) (hz : vs.length + ws.length ≤ sizeLine)
    (h : ∀ D s', s.heap.get? D = none → St s₀ L m (fun h => P h ∧ h.PlainList D (vs ++ ws).toArray) s' → Q (.ref D) s') :
    wpAny (model prog w) A (binaryOp .Add (.ref l) (.ref b)) Q E s := by
  obtain ⟨news, N, back⟩ := H.full
  exact add_arrays H.F N hl hb (fun h' F' N' => h _ _ (fresh_none (Nat.le_refl _)) ((back h' s.toks m F' fun p hp => N' p (.tail _ hp)).more (Stable.plain _ _) ⟨0, (N' _ (.head _)).1⟩)) (by simpa using hz)
/-- l[k] -/
theorem itemL {value slice : Expr} {l : Addr} {vs : List Value} {k : Nat} {u : Tok} {v : Value} (hl : s.heap.IsList l vs.toArray) (hx : vs[k]? = some v) (hk : k < 2 ^ 60) (h : Q v s)
    (hs : subscripted slice false (.ref l) (.int k u) = operate [.ref l, .int k u] (getItem (.ref l) (.int k u)) := by with_unfolding_all rfl) :
    wpAny (model prog w) A (subscriptTail value slice (.ref l) (.int k u)) Q E s :=
  tail_any hl.typeIs slot_list_getitem.lookup (wpAny_getItem_list hl (by omega) (by omega) (by simpa using hx) h) hs
theorem itemT {value slice : Expr} {l : Addr} {vs : List Value} {k : Nat} {u : Tok} {v : Value} (hl : IsTup s.heap l vs.toArray) (hx : vs[k]? = some v) (hk : k < 2 ^ 60) (h : Q v s)
    (hs : subscripted slice false (.ref l) (.int k u) = operate [.ref l, .int k u] (getItem (.ref l) (.int k u)) := by with_unfolding_all rfl) :
    wpAny (model prog w) A (subscriptTail value slice (.ref l) (.int k u)) Q E s := by
  refine item_tupleT (j := k) hl (by omega) (by omega) ?_ hx h hs
  have hlt : k < vs.length := by
    rcases Nat.lt_or_ge k vs.length with q | q
    · exact q
    · rw [List.getElem?_eq_none q] at hx; cases hx
  unfold seqIndex?
  simp; omega
theorem lenS {x : List Nat} {t : Tok} (H : St s₀ L m P s) (hx : x.length ≤ 1000000) (h : ∀ s' t, St s₀ L m P s' → Q (.int x.length t) s') : wpAny (model prog w) A (call (.builtin "len") [.str (T x) t]) Q E s := by
  refine PySem.P.len_str (by rw [T_len]; omega) ?_
  rw [T_len]
  exact h _ _ (H.toks _)
theorem rangeR {k : Nat} {t : Tok} (H : St s₀ L m P s) (h : ∀ D s' t t' t'', IsRange s'.heap D 0 k 1 t t' t'' → St s₀ L m P s' → Q (.ref D) s') : wpAny (model prog w) A (call (.type "range") [.int k t]) Q E s :=
  call_range_1 (h _ _ _ _ _ (IsRange.new _ _ _ _ _ _ _) (H.keeps fun _ _ e => Heap.get?_push_of_some _ e))
/-- a call of a def by its name -/
theorem cwF1 {f : Addr} {oc : Value} {od : Option Addr} {fd : FuncData} {osl : Array (Option Value)} {t₁ : Sem Value} (ho : (hd.heap_39 w.params).lookup f = some ⟨oc, od, .func fd, osl⟩)
    (h : wpAny (model prog w) A t₁ (fun v₁ s₁ => Base w s₁.heap ∧ wpAny (model prog w) A (call (.ref f) [v₁]) Q E s₁) E s) : wpAny (model prog w) A (callWith pos (.ref f) [] [(false, t₁)] []) Q E s :=
  Calls.callWith_function (evalArgs_plain (spliced_cons (wpAny_mono h (fun _ _ x => spliced_nil ⟨⟨x.1.X _ _ ho, rfl⟩, x.2⟩) fun _ _ x => x)))
end
end Mine
end

section
open PySem PySem.W PyProof.Rows PySem.Calls
set_option maxRecDepth 100000
set_option maxHeartbeats 1000000
namespace Mine

abbrev State := Nat × List (List Nat)
/-- the three numbers -/
structure Cfg where
  (n0 n1 n2 : Nat)
  (h0 : n0 < 256) (h1 : n1 < 256) (h2 : n2 < 256)
namespace Cfg
variable (c : Cfg)
noncomputable abbrev A : List Nat := wd c.n0
noncomputable abbrev B : List Nat := wd c.n1
noncomputable abbrev C : List Nat := wd c.n2
noncomputable def two : Nat := 16 ^ c.C.length * c.n1 + c.n2
noncomputable def rowA (size t : Nat) : List (List Nat) := (List.replicate (size - 2 * t) [c.A]).flatten ++ (List.replicate t [c.B, c.C]).flatten
noncomputable def rowB (par half count t : Nat) : List (List Nat) := (List.replicate par [c.C]).flatten ++ (List.replicate (half - t) [c.B, c.C]).flatten ++ (List.replicate (count * t) [c.A]).flatten
noncomputable def numA (size t : Nat) : Nat := num [(c.n0, c.A.length, size - 2 * t), (c.two, c.B.length + c.C.length, t)]
noncomputable def numB (par half count t : Nat) : Nat := num [(c.n2, c.C.length, par), (c.two, c.B.length + c.C.length, half - t), (c.n0, c.A.length, count * t)]
noncomputable def stA (size t : Nat) : State := (c.numA size t, c.rowA size t)
noncomputable def stB (par half count t : Nat) : State := (c.numB par half count t, c.rowB par half count t)
noncomputable def partA (size k : Nat) : List State := (List.range k).map (c.stA size)
noncomputable def partB (par half count k : Nat) : List State := (List.range k).map (c.stB par half count)
end Cfg
def cnt (size first second : Nat) : Nat := if size % 2 = 1 then second else first
noncomputable def Cfg.round (c : Cfg) (size first second : Nat) : List State := c.partA size (size / 2 + size % 2) ++ c.partB (size % 2) (size / 2) (cnt size first second) (size / 2 + size % 2)
def nextSize (size first second : Nat) : Int := (cnt size first second : Int) * ((size / 2 + size % 2 : Nat) : Int) - ((size % 2 : Nat) : Int)

theorem wd_len_le {n : Nat} (h : n < 256) : (wd n).length ≤ 2 := by
  by_cases h0 : n = 0
  · subst h0; rw [wd_zero]; decide
  · by_cases h1 : n < 16
    · rw [wd_one h0 h1]; simp
    · rw [wd_two (by omega) h]; simp
theorem lt_wd {n : Nat} (h : n < 256) : n < 16 ^ (wd n).length := by
  by_cases h0 : n = 0
  · subst h0; rw [wd_zero]; decide
  · by_cases h1 : n < 16
    · rw [wd_one h0 h1]; simpa using h1
    · rw [wd_two (by omega) h]; simpa using h
theorem two_lt (c : Cfg) : c.two < 16 ^ (c.B.length + c.C.length) := by
  have h1 : c.n1 < 16 ^ c.B.length := lt_wd c.h1
  have h2 : c.n2 < 16 ^ c.C.length := lt_wd c.h2
  unfold Cfg.two
  rw [Nat.pow_add]
  have : 16 ^ c.C.length * (c.n1 + 1) ≤ 16 ^ c.C.length * 16 ^ c.B.length := Nat.mul_le_mul_left _ h1
  rw [Nat.mul_add, Nat.mul_one] at this
  rw [Nat.mul_comm (16 ^ c.B.length)]
  omega

def IsState (h : Heap) (st : State) (v : Value) : Prop := ∃ a t r, v = .ref a ∧ IsTup h a #[.int st.1 t, .ref r] ∧ IsRow r st.2 h
def IsStates (a : Addr) (sts : List State) (h : Heap) : Prop := ∃ vs, h.IsList a vs.toArray ∧ Paired (IsState h) sts vs
theorem IsState.mono {h h' : Heap} (s : SubS h h') {st : State} {v : Value} (x : IsState h st v) : IsState h' st v := by
  obtain ⟨a, t, r, e, p, q⟩ := x
  exact ⟨a, t, r, e, Seqy.isTup _ _ h h' s p, Seqy.isRow _ _ h h' s q⟩
theorem Seqy.isStates (a : Addr) (sts : List State) : Seqy (IsStates a sts) := fun h h' s ⟨vs, hl, hp⟩ => ⟨vs, Seqy.isList a _ h h' s hl, Paired.imp (fun _ _ => IsState.mono s) hp⟩
/-- states in the making: the list at l turns, its items do not -/
def OffState (l : Addr) (h : Heap) (st : State) (v : Value) : Prop := ∃ a t r, v = .ref a ∧ a ≠ l ∧ r ≠ l ∧ IsTup h a #[.int st.1 t, .ref r] ∧ IsRow r st.2 h
def Bld (l : Addr) (sts : List State) (h : Heap) : Prop := ∃ vs, h.PlainList l vs.toArray ∧ Paired (OffState l h) sts vs
theorem Seqy.bld (l : Addr) (sts : List State) : Seqy (Bld l sts) := fun h h' s ⟨vs, hl, hp⟩ => ⟨vs, Seqy.plain l _ h h' s hl, Paired.imp (fun _ _ ⟨a, t, r, e, x, y, p, q⟩ => ⟨a, t, r, e, x, y, Seqy.isTup _ _ h h' s p, Seqy.isRow _ _ h h' s q⟩) hp⟩
theorem isTup_at {h h' : Heap} {a : Addr} {xs : Array Value} (x : IsTup h a xs) (k : ∀ o, h.get? a = some o → h'.get? a = some o) : IsTup h' a xs := let ⟨o, ho, r⟩ := x; ⟨o, k o ho, r⟩
theorem isList_at {h h' : Heap} {a : Addr} {xs : Array Value} (x : h.IsList a xs) (k : ∀ o, h.get? a = some o → h'.get? a = some o) : h'.IsList a xs := let ⟨o, ho, r⟩ := x; ⟨o, k o ho, r⟩
theorem Bld.app {l : Addr} {sts : List State} {st : State} {v : Value} {h h' : Heap} {vs : List Value} (hp : Paired (OffState l h) sts vs) (hv : OffState l h st v) (hl : h'.PlainList l (vs ++ [v]).toArray) (k : ∀ b o, b ≠ l → h.get? b = some o → h'.get? b = some o) : Bld l (sts ++ [st]) h' := by
  have up : ∀ st v, OffState l h st v → OffState l h' st v := fun st v ⟨a, t, r, e, x, y, p, vs, hr, hs⟩ => ⟨a, t, r, e, x, y, isTup_at p fun o q => k a o x q, vs, isList_at hr fun o q => k r o y q, hs⟩
  exact ⟨_, hl, Paired.snoc (Paired.imp up hp) (up _ _ hv)⟩
theorem Bld.states {l : Addr} {sts : List State} {h : Heap} (x : Bld l sts h) : IsStates l sts h := by
  obtain ⟨vs, hl, hp⟩ := x
  exact ⟨vs, hl.isList, Paired.imp (fun _ _ ⟨a, t, r, e, _, _, p, q⟩ => ⟨a, t, r, e, p, q⟩) hp⟩
/-- the two lists of the law: numbers and names -/
structure Two (c : Cfg) (an am : Addr) (t0 t1 t2 u0 u1 u2 : Tok) (h : Heap) : Prop where
  nums : h.IsList an [Value.int c.n0 t0, .int c.n1 t1, .int c.n2 t2].toArray
  nams : h.IsList am [Value.str (T c.A) u0, .str (T c.B) u1, .str (T c.C) u2].toArray
theorem Seqy.two (c : Cfg) (an am : Addr) (t0 t1 t2 u0 u1 u2 : Tok) : Seqy (Two c an am t0 t1 t2 u0 u1 u2) := fun h h' s x => ⟨Seqy.isList _ _ h h' s x.nums, Seqy.isList _ _ h h' s x.nams⟩
theorem Strs.rep {row : List (List Nat)} {vs : List Value} (h : Strs row vs) : ∀ k, Strs (List.replicate k row).flatten (List.replicate k vs).flatten
  | 0 => .nil
  | k + 1 => by rw [List.replicate_succ, List.replicate_succ, List.flatten_cons, List.flatten_cons]; exact h.app (h.rep k)
theorem Strs.one (x : List Nat) (t : Tok) : Strs [x] [.str (T x) t] := .cons ⟨t, rfl⟩ .nil
theorem Strs.two (x y : List Nat) (t u : Tok) : Strs [x, y] [.str (T x) t, .str (T y) u] := .cons ⟨t, rfl⟩ (.cons ⟨u, rfl⟩ .nil)

section
variable {prog : Program} {w : World} {A : Around} {s s₀ : Shared} {L : Addr} {m : Str → Option Value} {P : Heap → Prop} {n : Str} {sc : Scope} {ad : Addr} {cd : Value} {Q : Value → Shared → Prop} {E : Value → Shared → Prop} {pos p₁ p₂ p₃ : Pos} {k : Nat}
/-- numbers[k] or names[k], a written k -/
theorem subL {x : Str} {l : Addr} {vs : List Value} {i : Nat} {v : Value} (H : St s₀ L m P s) (hm : m x = some (.ref l)) (hl : s.heap.IsList l vs.toArray) (hv : vs[i]? = some v) (hi : i < 100) (h : ∀ s', St s₀ L m P s' → Q v s')
    (hk : sc.kind = .function := by rfl) (hx : (envOf n sc L ad cd).kindOf x = some .local := by rfl) (hd : (x == ("__debug__" : Str)) = false := by decide) :
    wpAny (model prog w) A (eval (.Subscript (.Name x p₁) (.Constant (.int i) k p₂) p₃) (envOf n sc L ad cd)) Q E s := by
  refine Subscript_ ?_
  refine nL H hm ?_ hk hx hd
  refine wpAny_Constant_int ?_
  exact itemL (s := { s with toks := s.toks + 1 }) hl hv (by omega) (h _ (H.toks _))
theorem subT {x : Str} {l : Addr} {vs : List Value} {i : Nat} {v : Value} (H : St s₀ L m P s) (hm : m x = some (.ref l)) (hl : IsTup s.heap l vs.toArray) (hv : vs[i]? = some v) (hi : i < 100) (h : ∀ s', St s₀ L m P s' → Q v s')
    (hk : sc.kind = .function := by rfl) (hx : (envOf n sc L ad cd).kindOf x = some .local := by rfl) (hd : (x == ("__debug__" : Str)) = false := by decide) :
    wpAny (model prog w) A (eval (.Subscript (.Name x p₁) (.Constant (.int i) k p₂) p₃) (envOf n sc L ad cd)) Q E s := by
  refine Subscript_ ?_
  refine nL H hm ?_ hk hx hd
  refine wpAny_Constant_int ?_
  exact itemT (s := { s with toks := s.toks + 1 }) hl hv (by omega) (h _ (H.toks _))
/-- len(names[k]) -/
theorem lenSub {x : Str} {l : Addr} {vs : List Value} {i : Nat} {r : List Nat} {t : Tok} {p₄ p₅ : Pos} (B : Base w s₀.heap) (H : St s₀ L m P s) (hm : m x = some (.ref l)) (hl : s.heap.IsList l vs.toArray) (hv : vs[i]? = some (.str (T r) t)) (hi : i < 100) (hr : r.length ≤ 1000) (h : ∀ s' t, St s₀ L m P s' → Q (.int r.length t) s')
    (hk : sc.kind = .function := by rfl) (hx : (envOf n sc L ad cd).kindOf x = some .local := by rfl) (hlen : (envOf n sc L ad cd).kindOf "len" = some .globalImplicit := by rfl) (hd : (x == ("__debug__" : Str)) = false := by decide) :
    wpAny (model prog w) A (eval (.Call (.Name "len" p₄) [.Subscript (.Name x p₁) (.Constant (.int i) k p₂) p₃] [] p₅) (envOf n sc L ad cd)) Q E s := by
  refine Call_Name1 ?_
  refine nB H B (b_len _) rfl (by decide) ?_ hk hlen
  refine cwB1 ?_
  refine subL H hm hl hv hi ?_ hk hx hd
  intro s' H
  exact lenS H (by omega) h
end
end Mine
end

section
open PySem PySem.W PyProof.Rows PySem.Calls
set_option maxRecDepth 100000
set_option maxHeartbeats 1000000
namespace Mine

theorem triA (c : Cfg) {k : Nat} (hk : k ≤ 50) : TriOk (c.n0, c.A.length, k) := ⟨lt_wd c.h0, by have : c.A.length ≤ 2 := wd_len_le c.h0; show c.A.length ≤ 4; omega, hk⟩
theorem triC (c : Cfg) {k : Nat} (hk : k ≤ 50) : TriOk (c.n2, c.C.length, k) := ⟨lt_wd c.h2, by have : c.C.length ≤ 2 := wd_len_le c.h2; show c.C.length ≤ 4; omega, hk⟩
theorem triT (c : Cfg) {k : Nat} (hk : k ≤ 50) : TriOk (c.two, c.B.length + c.C.length, k) := ⟨two_lt c, by have : c.B.length ≤ 2 := wd_len_le c.h1; have : c.C.length ≤ 2 := wd_len_le c.h2; show c.B.length + c.C.length ≤ 4; omega, hk⟩

structure RNm (sz fi se : Nat) (an am D₁ D₂ l : Addr) (ts tf tg th : Tok) (m : Str → Option Value) : Prop where
  size : m "size" = some (.int sz ts)
  numbers : m "numbers" = some (.ref an)
  names : m "names" = some (.ref am)
  first : m "first" = some (.int fi tf)
  second : m "second" = some (.int se tg)
  half : m "half" = some (.int (sz / 2 : Nat) th)
  one : m "one" = some (.ref D₁)
  two : m "two" = some (.ref D₂)
  states : m "states" = some (.ref l)
structure RHp (c : Cfg) (an am D₁ D₂ l : Addr) (t0 t1 t2 u0 u1 u2 to tt tv : Tok) (sts : List State) (h : Heap) : Prop where
  lists : Two c an am t0 t1 t2 u0 u1 u2 h
  one : IsTup h D₁ #[.int c.n0 t0, .int c.A.length to]
  two : IsTup h D₂ #[.int c.two tt, .int (c.B.length + c.C.length : Nat) tv]
  bld : Bld l sts h
theorem Seqy.rhp (c : Cfg) (an am D₁ D₂ l : Addr) (t0 t1 t2 u0 u1 u2 to tt tv : Tok) (sts : List State) : Seqy (RHp c an am D₁ D₂ l t0 t1 t2 u0 u1 u2 to tt tv sts) := fun h h' s x =>
  ⟨Seqy.two _ _ _ _ _ _ _ _ _ h h' s x.lists, Seqy.isTup _ _ h h' s x.one, Seqy.isTup _ _ h h' s x.two, Seqy.bld _ _ h h' s x.bld⟩
theorem tup_ne_plain {h : Heap} {a l : Addr} {xs ys : Array Value} (x : IsTup h a xs) (y : h.PlainList l ys) : a ≠ l := by
  rintro rfl
  obtain ⟨o, e, c, _⟩ := x
  obtain ⟨n, e'⟩ := y
  rw [e] at e'; cases e'
  injection (show Value.type "list" = Value.type "tuple" from c) with q
  exact absurd q (by decide)
theorem RHp.app {c : Cfg} {an am D₁ D₂ l : Addr} {t0 t1 t2 u0 u1 u2 to tt tv : Tok} {sts : List State} {st : State} {v : Value} {h h' : Heap} {vs : List Value} (x : RHp c an am D₁ D₂ l t0 t1 t2 u0 u1 u2 to tt tv sts h) (two' : Two c an am t0 t1 t2 u0 u1 u2 h')
    (hl : h.PlainList l vs.toArray) (hp : Paired (OffState l h) sts vs) (hv : OffState l h st v) (hl' : h'.PlainList l (vs ++ [v]).toArray) (k : ∀ b o, b ≠ l → h.get? b = some o → h'.get? b = some o) : RHp c an am D₁ D₂ l t0 t1 t2 u0 u1 u2 to tt tv (sts ++ [st]) h' :=
  ⟨two', isTup_at x.one fun o e => k _ o (tup_ne_plain x.one hl) e, isTup_at x.two fun o e => k _ o (tup_ne_plain x.two hl) e, Bld.app hp hv hl' k⟩

set_option maxHeartbeats 4000000 in
theorem round_call {prog : Program} {w : World} {A : Around} {s : Shared} {an am : Addr} {c : Cfg} {t0 t1 t2 u0 u1 u2 ts tf tg : Tok} {size first second : Nat} {R : Result → Shared → Prop} (B : Base w s.heap) (rm : Room A 2)
    (htwo : Two c an am t0 t1 t2 u0 u1 u2 s.heap) (hs1 : size ≤ 11) (hf : first ≤ 3) (hg : second ≤ 3)
    (h : ∀ a l t s', Keeps s s' → IsTup s'.heap a #[.ref l, .int (nextSize size first second) t] → IsStates l (c.round size first second) s'.heap → R (.ok (.ret (.ref a))) s') :
    codeAny (model prog w) A (.call (.ref 47) ⟨[.int size ts, .ref an, .ref am, .int first tf, .int second tg], []⟩) R s := by
  refine enter (binds := [("size", .int size ts), ("numbers", .ref an), ("names", .ref am), ("first", .int first tf), ("second", .int second tg)]) B rm.lt rfl rfl rfl (fun _ => rfl) rfl rfl (locs rfl) rfl rfl rfl ?_
  intro L s₁ H
  have hA := wd_len_le c.h0
  have hB := wd_len_le c.h1
  have hC := wd_len_le c.h2
  have hsl : sizeLine = 16777216 := rfl
  have H := (H.more (Seqy.two c an am t0 t1 t2 u0 u1 u2).stable (Seqy.two c an am t0 t1 t2 u0 u1 u2 _ _ (fun b o _ e => H.F.keep b o e) htwo))
  -- half
  refine wpAny_execs_cons (wpAny_Assign_Name (wpAny_BinOp ?_))
  refine nL H rfl ?_
  refine cI H ?_; intro s₂ _ H
  refine divI H (by decide) (PyProof.noPylong_small (by decide)) ?_; intro s₂ th H
  rw [show (size : Int).fdiv 2 = ((size / 2 : Nat) : Int) from by rw [Int.fdiv_eq_ediv_of_nonneg _ (by decide)]; omega]
  refine sL H ?_; intro s₂ H
  -- one
  refine wpAny_execs_cons (wpAny_Assign_Name (Tuple_ (spl2 ?_)))
  refine subL (i := 0) H rfl H.p.2.nums rfl (by decide) ?_; intro s₂ H
  refine lenSub (i := 0) B H rfl H.p.2.nams rfl (by decide) (by show (wd c.n0).length ≤ 1000; omega) ?_; intro s₂ to H
  refine newTup H (show 2 ≤ sizeLine by decide) ?_; intro D₁ s₂ _ H
  refine sL H ?_; intro s₂ H
  -- two
  refine wpAny_execs_cons (wpAny_Assign_Name (Tuple_ (spl2 ?_)))
  refine wpAny_BinOp (wpAny_BinOp (wpAny_BinOp ?_))
  refine cI H ?_; intro s₂ _ H
  refine lenSub (i := 2) B H rfl H.p.1.2.nams rfl (by decide) (by show (wd c.n2).length ≤ 1000; omega) ?_; intro s₂ _ H
  refine powI H (by omega) (by show ((wd c.n2).length : Int) ≤ 1000000; omega) (by decide) ?_; intro s₂ _ H
  rw [show (16 : Int) ^ ((c.C.length : Nat) : Int).toNat = ((16 ^ c.C.length : Nat) : Int) from by rw [Int.toNat_natCast, Int.natCast_pow]; rfl]
  refine subL (i := 1) H rfl H.p.1.2.nums rfl (by decide) ?_; intro s₂ H
  have h16 : 16 ^ c.C.length ≤ 16 ^ 2 := Nat.pow_le_pow_right (by decide) hC
  refine mulI H (mulOk (k := 64) (by decide) (by omega) (by have := c.h1; omega)) ?_; intro s₂ _ H
  refine subL (i := 2) H rfl H.p.1.2.nums rfl (by decide) ?_; intro s₂ H
  refine addI H ?_; intro s₂ tt H
  rw [show ((16 ^ c.C.length : Nat) : Int) * (c.n1 : Int) + (c.n2 : Int) = ((c.two : Nat) : Int) from by unfold Cfg.two; rw [Int.natCast_add, Int.natCast_mul]]
  refine wpAny_BinOp ?_
  refine lenSub (i := 1) B H rfl H.p.1.2.nams rfl (by decide) (by show (wd c.n1).length ≤ 1000; omega) ?_; intro s₂ _ H
  refine lenSub (i := 2) B H rfl H.p.1.2.nams rfl (by decide) (by show (wd c.n2).length ≤ 1000; omega) ?_; intro s₂ _ H
  refine addI H ?_; intro s₂ tv H
  rw [show (c.B.length : Int) + (c.C.length : Int) = ((c.B.length + c.C.length : Nat) : Int) from by omega]
  refine newTup H (show 2 ≤ sizeLine by decide) ?_; intro D₂ s₂ _ H
  refine sL H ?_; intro s₂ H
  -- states
  refine wpAny_execs_cons (wpAny_Assign_Name (List_ (spliced_nil ?_)))
  have Hp := H
  refine newLst H (show 0 ≤ sizeLine by decide) ?_; intro l s₃ hl0 H
  have hl0 : s.heap.get? l = none := by
    cases e : s.heap.get? l with
    | none => rfl
    | some o => have := Hp.F.keep l o e; rw [hl0] at this; cases this
  clear Hp
  refine sL H ?_; intro s₂ H
  -- the first loop
  refine wpAny_execs_cons (wpAny_For ?_)
  refine Call_Name1 ?_
  refine nB H B (b_range _) rfl (by decide) ?_
  refine cwT1 (wpAny_BinOp ?_)
  refine nL H rfl ?_
  refine wpAny_BinOp ?_
  refine nL H rfl ?_
  refine cI H ?_; intro s₂ _ H
  refine modI H (by decide) ?_; intro s₂ _ H
  rw [show (size : Int).fmod 2 = ((size % 2 : Nat) : Int) from by rw [Int.fmod_eq_emod_of_nonneg _ (by decide)]; omega]
  refine addI H ?_; intro s₂ _ H
  rw [show ((size / 2 : Nat) : Int) + ((size % 2 : Nat) : Int) = ((size / 2 + size % 2 : Nat) : Int) from by omega]
  refine rangeR H ?_; intro D₃ s₂ _ _ _ hr H
  refine forR (fun _ => Fieldy.stable) H (srcFRange rm.hh hr (by omega)) (fun k m h => RNm size first second an am D₁ D₂ l ts tf tg th m ∧ RHp c an am D₁ D₂ l t0 t1 t2 u0 u1 u2 to tt tv (c.partA size k) h) ?_ ?_ ?_ ?_
  · exact fun k m => Seqy.and (Seqy.const _) (Seqy.rhp _ _ _ _ _ _ _ _ _ _ _ _ _ _ _ _)
  · exact ⟨⟨rfl, rfl, rfl, rfl, rfl, rfl, rfl, rfl, rfl⟩, H.p.1.1.1.2, H.p.1.1.2, H.p.1.2, [], H.p.2, .nil⟩
  · clear H hr
    intro i v s₃ m' It E' hi hv hIt H
    obtain ⟨tv', rfl⟩ := hv
    have hm := H.p.1.1
    have h2i : 2 * i ≤ size := by omega
    refine wpAny_assign_Name (sL H ?_); intro s₃ H
    refine wpAny_execs_cons (wpAny_Assign_Name ?_)
    refine Call_Name1 ?_
    refine nG H B (g_number _) ?_
    refine cwF1 rfl ?_
    refine List_ (spl2 ?_)
    refine Tuple_ (spl3 ?_)
    refine subT (i := 0) H hm.one H.p.1.2.one rfl (by decide) ?_; intro s₃ H
    refine subT (i := 1) H hm.one H.p.1.2.one rfl (by decide) ?_; intro s₃ H
    refine wpAny_BinOp ?_
    refine nL H hm.size ?_
    refine wpAny_BinOp ?_
    refine cI H ?_; intro s₃ _ H
    refine nL H rfl ?_
    refine mulI H (.of_left (by decide)) ?_; intro s₃ _ H
    refine subI H ?_; intro s₃ _ H
    rw [show (size : Int) - 2 * (i : Int) = ((size - 2 * i : Nat) : Int) from by omega]
    refine newTup H (show 3 ≤ sizeLine by decide) ?_; intro D₄ s₃ _ H
    refine Tuple_ (spl3 ?_)
    refine subT (i := 0) H hm.two H.p.1.1.2.two rfl (by decide) ?_; intro s₃ H
    refine subT (i := 1) H hm.two H.p.1.1.2.two rfl (by decide) ?_; intro s₃ H
    refine nL H rfl ?_
    refine newTup H (show 3 ≤ sizeLine by decide) ?_; intro D₅ s₃ _ H
    refine newLst H (show 2 ≤ sizeLine by decide) ?_; intro D₆ s₃ _ H
    refine ⟨H.base B, wpAny_call (number_call (ps := [(c.n0, c.A.length, size - 2 * i), (c.two, c.B.length + c.C.length, i)]) (H.base B) rm.deeper ⟨_, H.p.2.isList, .cons ⟨D₄, _, _, _, rfl, H.p.1.1.2⟩ (.cons ⟨D₅, _, _, _, rfl, H.p.1.2⟩ .nil)⟩ ?_ (show 2 ≤ 3 by decide) ?_)⟩
    · intro p hp
      rcases List.mem_cons.mp hp with rfl | hp
      · exact triA c (by omega)
      · rcases List.mem_cons.mp hp with rfl | hp
        · exact triT c (by omega)
        · cases hp
    intro tn s₄ k
    have H := (H.keep k).less (P' := fun h => (RNm size first second an am D₁ D₂ l ts tf tg th m' ∧ RHp c an am D₁ D₂ l t0 t1 t2 u0 u1 u2 to tt tv (c.partA size i) h) ∧ It h)
      (Stable.and (Seqy.stable (Seqy.and (Seqy.const _) (Seqy.rhp _ _ _ _ _ _ _ _ _ _ _ _ _ _ _ _))) hIt.stable) fun h q => q.1.1.1
    clear k
    show wpAny _ _ _ _ _ _
    refine sL H ?_; intro s₃ H
    -- append
    refine wpAny_execs_cons (wpAny_Expr ?_)
    refine Call_method1 rfl rfl rfl ?_
    refine nL H hm.states ?_
    obtain ⟨vs, hl, hp⟩ := H.p.1.2.bld
    refine methList PySem.slot_list_append PySem.type_list_append hl ?_
    refine cwB1 ?_
    have hl₀ : ∃ o, s₃.heap.get? l = some o := by obtain ⟨n, e⟩ := hl; exact ⟨_, e⟩
    refine Tuple_ (spl2 ?_)
    refine nL H rfl ?_
    refine wpAny_BinOp (wpAny_BinOp ?_)
    refine List_ (spl1 ?_)
    refine subL (i := 0) H hm.names H.p.1.2.lists.nams rfl (by decide) ?_; intro s₄ H
    refine newLst H (show 1 ≤ sizeLine by decide) ?_; intro D₇ s₄ _ H
    refine wpAny_BinOp ?_
    refine nL H hm.size ?_
    refine wpAny_BinOp ?_
    refine cI H ?_; intro s₄ _ H
    refine nL H rfl ?_
    refine mulI H (.of_left (by decide)) ?_; intro s₄ _ H
    refine subI H ?_; intro s₄ _ H
    rw [show (size : Int) - 2 * (i : Int) = ((size - 2 * i : Nat) : Int) from by omega]
    refine mulL H H.p.2 (by simp only [List.length_singleton]; omega) (by omega) ?_; intro D₈ s₄ _ H
    refine wpAny_BinOp ?_
    refine List_ (spl2 ?_)
    refine subL (i := 1) H hm.names H.p.1.1.1.2.lists.nams rfl (by decide) ?_; intro s₄ H
    refine subL (i := 2) H hm.names H.p.1.1.1.2.lists.nams rfl (by decide) ?_; intro s₄ H
    refine newLst H (show 2 ≤ sizeLine by decide) ?_; intro D₉ s₄ _ H
    refine nL H rfl ?_
    refine mulL H H.p.2 (by simp only [List.length_cons, List.length_nil]; omega) (by omega) ?_; intro D₁₀ s₄ _ H
    refine addL H H.p.1.1.2.isList H.p.2.isList ?_ ?_
    · simp only [List.length_flatten, List.map_replicate, List.sum_replicate_nat, List.length_cons, List.length_nil]; omega
    intro D₁₁ s₅ hf₁₁ H'
    have hne₁₁ : D₁₁ ≠ l := by
      rintro rfl
      obtain ⟨vs', hl', _⟩ := H.p.1.1.1.1.1.2.bld
      obtain ⟨n, e⟩ := hl'
      rw [hf₁₁] at e; cases e
    have H := H'
    clear H'
    refine newTup H (show 2 ≤ sizeLine by decide) ?_; intro D₁₂ s₆ hf₁₂ H'
    have hne₁₂ : D₁₂ ≠ l := by
      rintro rfl
      obtain ⟨vs', hl', _⟩ := H.p.1.1.1.1.1.1.2.bld
      obtain ⟨n, e⟩ := hl'
      rw [hf₁₂] at e; cases e
    have H := H'
    clear H'
    clear hl hp hl₀ vs
    obtain ⟨vs, hl, hp⟩ := H.p.1.1.1.1.1.1.1.2.bld
    have hlen : vs.length ≤ 1000 := by
      have := PySem.Paired.length hp
      simp only [Cfg.partA, List.length_map, List.length_range] at this
      omega
    have hrow : IsRow D₁₁ (c.rowA size i) s₆.heap := ⟨_, H.p.1.2.isList, (Strs.rep (Strs.one _ _) _).app (Strs.rep (Strs.two _ _ _ _) _)⟩
    refine appR (P' := fun h => (RNm size first second an am D₁ D₂ l ts tf tg th m' ∧ RHp c an am D₁ D₂ l t0 t1 t2 u0 u1 u2 to tt tv (c.partA size (i + 1)) h) ∧ It h) H hl hl0 (by omega) (Stable.and (Seqy.stable (Seqy.and (Seqy.const _) (Seqy.rhp _ _ _ _ _ _ _ _ _ _ _ _ _ _ _ _))) hIt.stable) ?_ ?_
    · intro h' hl' k
      refine ⟨⟨hm, ?_⟩, ?_⟩
      · have hp₀ := H.p.1.1.1.1.1.1.1.2
        have two' : Two c an am t0 t1 t2 u0 u1 u2 h' := ⟨isList_at hp₀.lists.nums fun o e => k _ o ?_ e, isList_at hp₀.lists.nams fun o e => k _ o ?_ e⟩
        · have := RHp.app (st := c.stA size i) hp₀ two' hl hp ⟨D₁₂, _, D₁₁, rfl, hne₁₂, hne₁₁, H.p.2, hrow⟩ hl' k
          rwa [show c.partA size (i + 1) = c.partA size i ++ [c.stA size i] from by unfold Cfg.partA; rw [List.range_succ, List.map_append]; rfl]
        · rintro rfl
          obtain ⟨o, e, _⟩ := htwo.nums
          rw [hl0] at e; cases e
        · rintro rfl
          obtain ⟨o, e, _⟩ := htwo.nams
          rw [hl0] at e; cases e
      · refine hIt _ _ (fun b o ⟨fs, hfs⟩ e => k b o ?_ e) H.p.1.1.1.1.1.1.2
        rintro rfl
        obtain ⟨n, e'⟩ := hl
        rw [e] at e'; cases e'; cases hfs
    · intro s₇ H
      refine wpAny_execs_nil ?_
      exact ⟨_, H.less (Stable.and (Seqy.stable (Seqy.and (Seqy.const _) (Seqy.rhp _ _ _ _ _ _ _ _ _ _ _ _ _ _ _ _))) hIt.stable) fun h q => ⟨⟨⟨q.1.1.size, q.1.1.numbers, q.1.1.names, q.1.1.first, q.1.1.second, q.1.1.half, q.1.1.one, q.1.1.two, q.1.1.states⟩, q.1.2⟩, q.2⟩⟩
  · clear H hr
    intro s₃ m' H
    have hm := H.p.1
    have H := H.less (Seqy.rhp _ _ _ _ _ _ _ _ _ _ _ _ _ _ _ _).stable fun h q => q.2
    -- count
    refine wpAny_execs_cons (wpAny_Assign_Name (wpAny_IfExp ?_))
    refine wpAny_isTrue_Compare1 (wpAny_BinOp ?_)
    refine nL H hm.size ?_
    refine cI H ?_; intro s₃ _ H
    refine modI H (by decide) ?_; intro s₃ _ H
    rw [show (size : Int).fmod 2 = ((size % 2 : Nat) : Int) from by rw [Int.fmod_eq_emod_of_nonneg _ (by decide)]; omega]
    refine cI H ?_; intro s₃ _ H
    refine PyProof.Rows.eq_int ?_
    refine wpAny_truthy_bool ?_
    have hcnt : ∀ (p₁ p₂ : Pos) (Q : Value → Shared → Prop) (E : Value → Shared → Prop), (∀ tc, Q (.int (cnt size first second : Nat) tc) s₃) →
        if ((((size % 2 : Nat) : Int) == 1) = true) then wpAny (model prog w) (A.deeper (env w.params 47 L)) (eval (.Name "second" p₁) (env w.params 47 L)) Q E s₃ else wpAny (model prog w) (A.deeper (env w.params 47 L)) (eval (.Name "first" p₂) (env w.params 47 L)) Q E s₃ := by
      intro p₁ p₂ Q E hq
      by_cases h1 : size % 2 = 1
      · rw [if_pos (by simp [h1])]
        refine nL H hm.second ?_
        have := hq tg
        rwa [cnt, if_pos h1] at this
      · rw [if_neg (by simp; omega)]
        refine nL H hm.first ?_
        have := hq tf
        rwa [cnt, if_neg h1] at this
    refine hcnt _ _ _ _ ?_
    clear hcnt
    intro tc
    have hc3 : cnt size first second ≤ 3 := by unfold cnt; split <;> omega
    generalize hcn : cnt size first second = count at *
    refine sL H ?_; intro s₃ H
    -- lead
    refine wpAny_execs_cons (wpAny_Assign_Name (List_ (spl1 (Tuple_ (spl3 ?_)))))
    refine subL (i := 2) H hm.numbers H.p.lists.nums rfl (by decide) ?_; intro s₃ H
    refine lenSub (i := 2) B H hm.names H.p.lists.nams rfl (by decide) (by show (wd c.n2).length ≤ 1000; omega) ?_; intro s₃ _ H
    refine wpAny_BinOp ?_
    refine nL H hm.size ?_
    refine cI H ?_; intro s₃ _ H
    refine modI H (by decide) ?_; intro s₃ _ H
    rw [show (size : Int).fmod 2 = ((size % 2 : Nat) : Int) from by rw [Int.fmod_eq_emod_of_nonneg _ (by decide)]; omega]
    refine newTup H (show 3 ≤ sizeLine by decide) ?_; intro Dt s₃ _ H
    have Hp := H
    refine newLst H (show 1 ≤ sizeLine by decide) ?_; intro Dl s₃ hDl H
    have hDl : Dl ≠ l := by
      rintro rfl
      obtain ⟨vs', hl', _⟩ := Hp.p.1.bld
      obtain ⟨n, e⟩ := hl'
      rw [hDl] at e; cases e
    clear Hp
    refine sL H ?_; intro s₃ H
    -- the second loop
    refine wpAny_execs_cons (wpAny_For ?_)
    refine Call_Name1 ?_
    refine nB H B (b_range _) rfl (by decide) ?_
    refine cwT1 (wpAny_BinOp ?_)
    refine nL H hm.half ?_
    refine wpAny_BinOp ?_
    refine nL H hm.size ?_
    refine cI H ?_; intro s₂ _ H
    refine modI H (by decide) ?_; intro s₂ _ H
    rw [show (size : Int).fmod 2 = ((size % 2 : Nat) : Int) from by rw [Int.fmod_eq_emod_of_nonneg _ (by decide)]; omega]
    refine addI H ?_; intro s₂ _ H
    rw [show ((size / 2 : Nat) : Int) + ((size % 2 : Nat) : Int) = ((size / 2 + size % 2 : Nat) : Int) from by omega]
    refine rangeR H ?_; intro D₃ s₂ _ _ _ hr H
    refine forR (fun _ => Fieldy.stable) H (srcFRange rm.hh hr (by omega)) (fun k m h => (RNm size first second an am D₁ D₂ l ts tf tg th m ∧ m "count" = some (.int count tc) ∧ m "lead" = some (.ref Dl)) ∧
      RHp c an am D₁ D₂ l t0 t1 t2 u0 u1 u2 to tt tv (c.partA size (size / 2 + size % 2) ++ c.partB (size % 2) (size / 2) count k) h ∧ IsTri h (c.n2, c.C.length, size % 2) (.ref Dt) ∧ h.IsList Dl [.ref Dt].toArray) ?_ ?_ ?_ ?_
    · exact fun k m => Seqy.and (Seqy.const _) (Seqy.and (Seqy.rhp _ _ _ _ _ _ _ _ _ _ _ _ _ _ _ _) (Seqy.and (fun h h' s x => x.mono s) (Seqy.isList _ _)))
    · refine ⟨⟨⟨hm.size, hm.numbers, hm.names, hm.first, hm.second, hm.half, hm.one, hm.two, hm.states⟩, rfl, rfl⟩, ?_, ⟨Dt, _, _, _, rfl, H.p.1.2⟩, H.p.2.isList⟩
      have := H.p.1.1
      simpa [Cfg.partB] using this
    · clear H hr hm
      intro i v s₃ m' It E' hi hv hIt H
      obtain ⟨tv', rfl⟩ := hv
      obtain ⟨hm, hmc, hml⟩ := H.p.1.1
      have hin : i ≤ size / 2 := by omega
      have hci : count * i ≤ 3 * 6 := Nat.mul_le_mul hc3 (by omega)
      have sI : Stable fun h => ((RNm size first second an am D₁ D₂ l ts tf tg th m' ∧ m' "count" = some (.int count tc) ∧ m' "lead" = some (.ref Dl)) ∧
        RHp c an am D₁ D₂ l t0 t1 t2 u0 u1 u2 to tt tv (c.partA size (size / 2 + size % 2) ++ c.partB (size % 2) (size / 2) count i) h ∧ IsTri h (c.n2, c.C.length, size % 2) (.ref Dt) ∧ h.IsList Dl [.ref Dt].toArray) ∧ It h := H.sP
      refine wpAny_assign_Name (sL H ?_); intro s₃ H
      refine wpAny_execs_cons (wpAny_Assign_Name ?_)
      refine Call_Name1 ?_
      refine nG H B (g_number _) ?_
      refine cwF1 rfl ?_
      refine wpAny_BinOp ?_
      refine nL H hml ?_
      refine List_ (spl2 ?_)
      refine Tuple_ (spl3 ?_)
      refine subT (i := 0) H hm.two H.p.1.2.1.two rfl (by decide) ?_; intro s₃ H
      refine subT (i := 1) H hm.two H.p.1.2.1.two rfl (by decide) ?_; intro s₃ H
      refine wpAny_BinOp ?_
      refine nL H hm.half ?_
      refine nL H rfl ?_
      refine subI H ?_; intro s₃ _ H
      rw [show ((size / 2 : Nat) : Int) - (i : Int) = ((size / 2 - i : Nat) : Int) from by omega]
      refine newTup H (show 3 ≤ sizeLine by decide) ?_; intro D₄ s₃ _ H
      refine Tuple_ (spl3 ?_)
      refine subT (i := 0) H hm.one H.p.1.1.2.1.one rfl (by decide) ?_; intro s₃ H
      refine subT (i := 1) H hm.one H.p.1.1.2.1.one rfl (by decide) ?_; intro s₃ H
      refine wpAny_BinOp ?_
      refine nL H hmc ?_
      refine nL H rfl ?_
      refine mulI H (mulOk (k := 64) (by decide) (by omega) (by omega)) ?_; intro s₃ _ H
      rw [show (count : Int) * (i : Int) = ((count * i : Nat) : Int) from by simp]
      refine newTup H (show 3 ≤ sizeLine by decide) ?_; intro D₅ s₃ _ H
      refine newLst H (show 2 ≤ sizeLine by decide) ?_; intro D₆ s₃ _ H
      refine addL H H.p.1.1.1.1.2.2.2 H.p.2.isList (show 3 ≤ sizeLine by decide) ?_; intro D₆ s₃ _ H
      refine ⟨H.base B, wpAny_call (number_call (ps := [(c.n2, c.C.length, size % 2), (c.two, c.B.length + c.C.length, size / 2 - i), (c.n0, c.A.length, count * i)]) (H.base B) rm.deeper ⟨_, H.p.2.isList, .cons H.p.1.1.1.1.1.2.2.1 (.cons ⟨D₄, _, _, _, rfl, H.p.1.1.1.2⟩ (.cons ⟨D₅, _, _, _, rfl, H.p.1.1.2⟩ .nil))⟩ ?_ (show 3 ≤ 3 by decide) ?_)⟩
      · intro p hp
        rcases List.mem_cons.mp hp with rfl | hp
        · exact triC c (by omega)
        · rcases List.mem_cons.mp hp with rfl | hp
          · exact triT c (by omega)
          · rcases List.mem_cons.mp hp with rfl | hp
            · exact triA c (by omega)
            · cases hp
      intro tn s₄ k
      have H := (H.keep k).less sI fun h q => q.1.1.1.1
      clear k
      show wpAny _ _ _ _ _ _
      refine sL H ?_; intro s₃ H
      -- append
      refine wpAny_execs_cons (wpAny_Expr ?_)
      refine Call_method1 rfl rfl rfl ?_
      refine nL H hm.states ?_
      obtain ⟨vs, hl, hp⟩ := H.p.1.2.1.bld
      refine methList PySem.slot_list_append PySem.type_list_append hl ?_
      refine cwB1 ?_
      refine Tuple_ (spl2 ?_)
      refine nL H rfl ?_
      refine wpAny_BinOp (wpAny_BinOp (wpAny_BinOp ?_))
      refine List_ (spl1 ?_)
      refine subL (i := 2) H hm.names H.p.1.2.1.lists.nams rfl (by decide) ?_; intro s₄ H
      refine newLst H (show 1 ≤ sizeLine by decide) ?_; intro D₇ s₄ _ H
      refine wpAny_BinOp ?_
      refine nL H hm.size ?_
      refine cI H ?_; intro s₄ _ H
      refine modI H (by decide) ?_; intro s₄ _ H
      rw [show (size : Int).fmod 2 = ((size % 2 : Nat) : Int) from by rw [Int.fmod_eq_emod_of_nonneg _ (by decide)]; omega]
      refine mulL H H.p.2 (by simp only [List.length_singleton]; omega) (by omega) ?_; intro D₈ s₄ _ H
      refine wpAny_BinOp ?_
      refine List_ (spl2 ?_)
      refine subL (i := 1) H hm.names H.p.1.1.1.2.1.lists.nams rfl (by decide) ?_; intro s₄ H
      refine subL (i := 2) H hm.names H.p.1.1.1.2.1.lists.nams rfl (by decide) ?_; intro s₄ H
      refine newLst H (show 2 ≤ sizeLine by decide) ?_; intro D₉ s₄ _ H
      refine wpAny_BinOp ?_
      refine nL H hm.half ?_
      refine nL H rfl ?_
      refine subI H ?_; intro s₄ _ H
      rw [show ((size / 2 : Nat) : Int) - (i : Int) = ((size / 2 - i : Nat) : Int) from by omega]
      refine mulL H H.p.2 (by simp only [List.length_cons, List.length_nil]; omega) (by omega) ?_; intro D₁₀ s₄ _ H
      refine addL H H.p.1.1.2.isList H.p.2.isList ?_ ?_
      · simp only [List.length_flatten, List.map_replicate, List.sum_replicate_nat, List.length_cons, List.length_nil]; omega
      intro D₁₁ s₄ _ H
      refine wpAny_BinOp ?_
      refine List_ (spl1 ?_)
      refine subL (i := 0) H hm.names H.p.1.1.1.1.1.1.2.1.lists.nams rfl (by decide) ?_; intro s₄ H
      refine newLst H (show 1 ≤ sizeLine by decide) ?_; intro D₁₂ s₄ _ H
      refine wpAny_BinOp ?_
      refine nL H hmc ?_
      refine nL H rfl ?_
      refine mulI H (mulOk (k := 64) (by decide) (by omega) (by omega)) ?_; intro s₄ _ H
      rw [show (count : Int) * (i : Int) = ((count * i : Nat) : Int) from by simp]
      refine mulL H H.p.2 (by simp only [List.length_singleton]; omega) (by omega) ?_; intro D₁₃ s₄ _ H
      refine addL H H.p.1.1.2.isList H.p.2.isList ?_ ?_
      · simp only [List.length_append, List.length_flatten, List.map_replicate, List.sum_replicate_nat, List.length_cons, List.length_nil]; omega
      intro D₁₄ s₅ hf₁₄ H'
      have hne₁₄ : D₁₄ ≠ l := by
        rintro rfl
        obtain ⟨vs', hl', _⟩ := H.p.1.1.1.1.1.1.1.1.2.1.bld
        obtain ⟨n, e⟩ := hl'
        rw [hf₁₄] at e; cases e
      have H := H'
      clear H'
      refine newTup H (show 2 ≤ sizeLine by decide) ?_; intro D₁₅ s₆ hf₁₅ H'
      have hne₁₅ : D₁₅ ≠ l := by
        rintro rfl
        obtain ⟨vs', hl', _⟩ := H.p.1.1.1.1.1.1.1.1.1.2.1.bld
        obtain ⟨n, e⟩ := hl'
        rw [hf₁₅] at e; cases e
      have H := H'
      clear H'
      clear hl hp vs
      have hp₁ := H.p.1.1.1.1.1.1.1.1.1.1
      obtain ⟨vs, hl, hp⟩ := hp₁.2.1.bld
      have hlen : vs.length ≤ 1000 := by
        have := PySem.Paired.length hp
        simp only [Cfg.partA, Cfg.partB, List.length_append, List.length_map, List.length_range] at this
        omega
      have hrow : IsRow D₁₄ (c.rowB (size % 2) (size / 2) count i) s₆.heap := ⟨_, H.p.1.2.isList, ((Strs.rep (Strs.one _ _) _).app (Strs.rep (Strs.two _ _ _ _) _)).app (Strs.rep (Strs.one _ _) _)⟩
      refine appR (P' := fun h => ((RNm size first second an am D₁ D₂ l ts tf tg th m' ∧ m' "count" = some (.int count tc) ∧ m' "lead" = some (.ref Dl)) ∧
        RHp c an am D₁ D₂ l t0 t1 t2 u0 u1 u2 to tt tv (c.partA size (size / 2 + size % 2) ++ c.partB (size % 2) (size / 2) count (i + 1)) h ∧ IsTri h (c.n2, c.C.length, size % 2) (.ref Dt) ∧ h.IsList Dl [.ref Dt].toArray) ∧ It h) H hl hl0 (by omega)
        (Stable.and (Seqy.stable (Seqy.and (Seqy.const _) (Seqy.and (Seqy.rhp _ _ _ _ _ _ _ _ _ _ _ _ _ _ _ _) (Seqy.and (fun h h' s x => x.mono s) (Seqy.isList _ _))))) hIt.stable) ?_ ?_
      · intro h' hl' k
        refine ⟨⟨⟨hm, hmc, hml⟩, ?_, ?_, ?_⟩, ?_⟩
        · have two' : Two c an am t0 t1 t2 u0 u1 u2 h' := ⟨isList_at hp₁.2.1.lists.nums fun o e => k _ o ?_ e, isList_at hp₁.2.1.lists.nams fun o e => k _ o ?_ e⟩
          · have := RHp.app (st := c.stB (size % 2) (size / 2) count i) hp₁.2.1 two' hl hp ⟨D₁₅, _, D₁₄, rfl, hne₁₅, hne₁₄, H.p.2, hrow⟩ hl' k
            rwa [show c.partB (size % 2) (size / 2) count (i + 1) = c.partB (size % 2) (size / 2) count i ++ [c.stB (size % 2) (size / 2) count i] from by unfold Cfg.partB; rw [List.range_succ, List.map_append]; rfl, ← List.append_assoc]
          · rintro rfl
            obtain ⟨o, e, _⟩ := htwo.nums
            rw [hl0] at e; cases e
          · rintro rfl
            obtain ⟨o, e, _⟩ := htwo.nams
            rw [hl0] at e; cases e
        · obtain ⟨a, x, y, z, e, q⟩ := hp₁.2.2.1
          cases e
          exact ⟨_, x, y, z, rfl, isTup_at q fun o e => k _ o (tup_ne_plain q hl) e⟩
        · exact isList_at hp₁.2.2.2 fun o e => k _ o hDl e
        · refine hIt _ _ (fun b o ⟨fs, hfs⟩ e => k b o ?_ e) H.p.1.1.1.1.1.1.1.1.1.2
          rintro rfl
          obtain ⟨n, e'⟩ := hl
          rw [e] at e'; cases e'; cases hfs
      · intro s₇ H
        refine wpAny_execs_nil ?_
        exact ⟨_, H.less (Stable.and (Seqy.stable (Seqy.and (Seqy.const _) (Seqy.and (Seqy.rhp _ _ _ _ _ _ _ _ _ _ _ _ _ _ _ _) (Seqy.and (fun h h' s x => x.mono s) (Seqy.isList _ _))))) hIt.stable) fun h q => ⟨⟨⟨⟨hm.size, hm.numbers, hm.names, hm.first, hm.second, hm.half, hm.one, hm.two, hm.states⟩, hmc, hml⟩, q.1.2⟩, q.2⟩⟩
    · clear H hr hm
      intro s₃ m' H
      obtain ⟨hm, hmc, hml⟩ := H.p.1
      refine wpAny_execs_cons (wpAny_Return_some ?_)
      refine Tuple_ (spl2 ?_)
      refine nL H hm.states ?_
      refine wpAny_BinOp (wpAny_BinOp ?_)
      refine nL H hmc ?_
      refine wpAny_BinOp ?_
      refine nL H hm.half ?_
      refine wpAny_BinOp ?_
      refine nL H hm.size ?_
      refine cI H ?_; intro s₃ _ H
      refine modI H (by decide) ?_; intro s₃ _ H
      rw [show (size : Int).fmod 2 = ((size % 2 : Nat) : Int) from by rw [Int.fmod_eq_emod_of_nonneg _ (by decide)]; omega]
      refine addI H ?_; intro s₃ _ H
      rw [show ((size / 2 : Nat) : Int) + ((size % 2 : Nat) : Int) = ((size / 2 + size % 2 : Nat) : Int) from by omega]
      refine mulI H (mulOk (k := 64) (by decide) (by omega) (by omega)) ?_; intro s₃ _ H
      refine wpAny_BinOp ?_
      refine nL H hm.size ?_
      refine cI H ?_; intro s₃ _ H
      refine modI H (by decide) ?_; intro s₃ _ H
      rw [show (size : Int).fmod 2 = ((size % 2 : Nat) : Int) from by rw [Int.fmod_eq_emod_of_nonneg _ (by decide)]; omega]
      refine subI H ?_; intro s₃ tr H
      refine newTup H (show 2 ≤ sizeLine by decide) ?_; intro Dr s₃ _ H
      refine h Dr l tr _ H.done ?_ ?_
      · unfold nextSize
        rw [hcn]
        exact H.p.2
      · have := H.p.1.2.1.bld.states
        unfold Cfg.round
        rw [hcn]
        exact this
end Mine
end

section
open PySem PySem.W PyProof.Rows PySem.Calls
set_option maxRecDepth 100000
set_option maxHeartbeats 1000000
namespace Mine
section
variable {prog : Program} {w : World} {A : Around} {E : Value → Shared → Prop} {s : Shared} {Q : Value → Shared → Prop} {pos : Pos}
theorem cwF5 {f : Addr} {oc : Value} {od : Option Addr} {fd : FuncData} {osl : Array (Option Value)} {t₁ t₂ t₃ t₄ t₅ : Sem Value} (ho : (hd.heap_39 w.params).lookup f = some ⟨oc, od, .func fd, osl⟩)
    (h : wpAny (model prog w) A t₁ (fun v₁ s₁ => wpAny (model prog w) A t₂ (fun v₂ s₂ => wpAny (model prog w) A t₃ (fun v₃ s₃ => wpAny (model prog w) A t₄ (fun v₄ s₄ => wpAny (model prog w) A t₅ (fun v₅ s₅ => Base w s₅.heap ∧ wpAny (model prog w) A (call (.ref f) [v₁, v₂, v₃, v₄, v₅]) Q E s₅) E s₄) E s₃) E s₂) E s₁) E s) :
    wpAny (model prog w) A (callWith pos (.ref f) [] [(false, t₁), (false, t₂), (false, t₃), (false, t₄), (false, t₅)] []) Q E s :=
  Calls.callWith_function (evalArgs_plain (spliced_cons (wpAny_mono h (fun _ _ x => spliced_cons (wpAny_mono x (fun _ _ x => spliced_cons (wpAny_mono x (fun _ _ x => spliced_cons (wpAny_mono x (fun _ _ x => spliced_cons (wpAny_mono x (fun _ _ x => spliced_nil ⟨⟨x.1.X _ _ ho, rfl⟩, x.2⟩) fun _ _ x => x)) fun _ _ x => x)) fun _ _ x => x)) fun _ _ x => x)) fun _ _ x => x)))
end

theorem St.now {s₀ s : Shared} {L : Addr} {m : Str → Option Value} {P P' : Heap → Prop} (H : St s₀ L m P s) (sP' : Stable P') (p' : P' s.heap) : St s₀ L m P' s := ⟨H.eq, H.F, sP', p'⟩
theorem SubS.rfl' (h : Heap) : SubS h h := fun _ _ _ e => e
theorem SubS.stable (h₀ : Heap) : Stable fun h => SubS h₀ h := fun h h' s x b o q e => SubS.of_sub s b o q (x b o q e)
theorem IsState.off {h h' : Heap} {D : Addr} {st : State} {v : Value} (x : IsState h st v) (hD : h.get? D = none) (k : SubS h h') : OffState D h' st v := by
  obtain ⟨a, t, r, e, p, q⟩ := x
  refine ⟨a, t, r, e, ?_, ?_, Seqy.isTup _ _ h h' k p, Seqy.isRow _ _ h h' k q⟩
  · rintro rfl; obtain ⟨o, e, _⟩ := p; rw [hD] at e; cases e
  · rintro rfl; obtain ⟨vs, ⟨o, e, _⟩, _⟩ := q; rw [hD] at e; cases e
theorem OffState.is {h : Heap} {D : Addr} {st : State} {v : Value} (x : OffState D h st v) : IsState h st v := let ⟨a, t, r, e, _, _, p, q⟩ := x; ⟨a, t, r, e, p, q⟩
theorem Paired.app {α β : Type} {F : α → β → Prop} : ∀ {l₁ : List α} {l₂ : List β} {m₁ : List α} {m₂ : List β}, Paired F l₁ l₂ → Paired F m₁ m₂ → Paired F (l₁ ++ m₁) (l₂ ++ m₂)
  | _, _, _, _, .nil, h => h
  | _, _, _, _, .cons x t, h => .cons x (Paired.app t h)

noncomputable def Cfg.stp (c : Cfg) (fi se : Nat) (x : List State × Int) : List State × Int :=
  if 1 < x.2 ∧ x.2 < 12 then (x.1 ++ c.round x.2.toNat fi se, nextSize x.2.toNat fi se) else x
noncomputable def Cfg.it (c : Cfg) (fi se size : Nat) : Nat → List State × Int
  | 0 => ([], size)
  | k + 1 => c.stp fi se (c.it fi se size k)
noncomputable def Cfg.last (c : Cfg) (x : List State × Int) : List State := if 0 ≤ x.2 then x.1 ++ [(num [(c.n0, c.A.length, x.2.toNat)], (List.replicate x.2.toNat [c.A]).flatten)] else x.1
noncomputable def Cfg.states (c : Cfg) (fi se size : Nat) : List State := c.last (c.it fi se size 4)

theorem next_le {size fi se : Nat} (h : size ≤ 11) (hf : fi ≤ 3) (hg : se ≤ 3) : -1 ≤ nextSize size fi se ∧ nextSize size fi se ≤ 18 := by
  have hc : cnt size fi se ≤ 3 := by unfold cnt; split <;> omega
  have h2 : cnt size fi se * (size / 2 + size % 2) ≤ 3 * 6 := Nat.mul_le_mul hc (by omega)
  have h3 : (cnt size fi se : Int) * ((size / 2 + size % 2 : Nat) : Int) = ((cnt size fi se * (size / 2 + size % 2) : Nat) : Int) := by simp
  unfold nextSize
  rw [h3]
  omega
theorem it_le (c : Cfg) {size fi se : Nat} (h : size ≤ 11) (hf : fi ≤ 3) (hg : se ≤ 3) : ∀ k, -1 ≤ (c.it fi se size k).2 ∧ (c.it fi se size k).2 ≤ 18
  | 0 => by show -1 ≤ (size : Int) ∧ (size : Int) ≤ 18; omega
  | k + 1 => by
    have := it_le c h hf hg k
    show -1 ≤ (c.stp fi se _).2 ∧ (c.stp fi se _).2 ≤ 18
    unfold Cfg.stp
    split
    · exact next_le (by omega) hf hg
    · exact this
theorem round_len (c : Cfg) {size fi se : Nat} (h : size ≤ 11) : (c.round size fi se).length ≤ 12 := by
  unfold Cfg.round Cfg.partA Cfg.partB
  simp only [List.length_append, List.length_map, List.length_range]
  omega
theorem it_len (c : Cfg) {size fi se : Nat} (h : size ≤ 11) (hf : fi ≤ 3) (hg : se ≤ 3) : ∀ k, (c.it fi se size k).1.length ≤ 12 * k
  | 0 => by show 0 ≤ 0; decide
  | k + 1 => by
    have := it_len c h hf hg k
    show (c.stp fi se _).1.length ≤ _
    unfold Cfg.stp
    split
    · rename_i q
      have hr := round_len c (size := (c.it fi se size k).2.toNat) (fi := fi) (se := se) (by omega)
      rw [List.length_append]
      omega
    · omega

structure SNm (fi se : Nat) (an am : Addr) (tf tg : Tok) (m : Str → Option Value) : Prop where
  numbers : m "numbers" = some (.ref an)
  names : m "names" = some (.ref am)
  first : m "first" = some (.int fi tf)
  second : m "second" = some (.int se tg)

set_option maxHeartbeats 4000000 in
theorem states_call {prog : Program} {w : World} {A : Around} {s : Shared} {an am : Addr} {c : Cfg} {t0 t1 t2 u0 u1 u2 ts tf tg : Tok} {size first second : Nat} {R : Result → Shared → Prop} (B : Base w s.heap) (rm : Room A 3)
    (htwo : Two c an am t0 t1 t2 u0 u1 u2 s.heap) (hs1 : size ≤ 11) (hf : first ≤ 3) (hg : second ≤ 3)
    (h : ∀ l s', Keeps s s' → IsStates l (c.states first second size) s'.heap → R (.ok (.ret (.ref l))) s') :
    codeAny (model prog w) A (.call (.ref 54) ⟨[.int size ts, .ref an, .ref am, .int first tf, .int second tg], []⟩) R s := by
  refine enter (binds := [("size", .int size ts), ("numbers", .ref an), ("names", .ref am), ("first", .int first tf), ("second", .int second tg)]) B rm.lt rfl rfl rfl (fun _ => rfl) rfl rfl (locs rfl) rfl rfl rfl ?_
  intro L s₁ H
  have hA := wd_len_le c.h0
  have hsl : sizeLine = 16777216 := rfl
  have old : ∀ {s' : Shared} {m' : Str → Option Value} {P' : Heap → Prop} {D : Addr}, St s L m' P' s' → s'.heap.get? D = none → s.heap.get? D = none := fun {s' m' P' D} H hD => by
    cases e : s.heap.get? D with
    | none => rfl
    | some o => have := H.F.keep D o e; rw [hD] at this; cases this
  have H := (H.more (Seqy.two c an am t0 t1 t2 u0 u1 u2).stable (Seqy.two c an am t0 t1 t2 u0 u1 u2 _ _ (fun b o _ e => H.F.keep b o e) htwo))
  refine wpAny_execs_cons (wpAny_Assign_Name (List_ (spliced_nil ?_)))
  have Hp := H
  refine newLst H (show 0 ≤ sizeLine by decide) ?_; intro l s₃ hl0 H
  have hl0 := old Hp hl0
  clear Hp
  refine sL H ?_; intro s₂ H
  refine wpAny_execs_cons (wpAny_For ?_)
  refine Call_Name1 ?_
  refine nB H B (b_range _) rfl (by decide) ?_
  refine cwT1 ?_
  refine cI H ?_; intro s₂ _ H
  refine rangeR (k := 4) H ?_; intro D₃ s₂ _ _ _ hr H
  refine forR (fun _ => Fieldy.stable) H (srcFRange rm.hh hr (by decide)) (fun k m h => SNm first second an am tf tg m ∧ Two c an am t0 t1 t2 u0 u1 u2 h ∧ ∃ l, s.heap.get? l = none ∧ m "states" = some (.ref l) ∧ (∃ t, m "size" = some (.int (c.it first second size k).2 t)) ∧ Bld l (c.it first second size k).1 h) ?_ ?_ ?_ ?_
  · exact fun k m => Seqy.and (Seqy.const _) (Seqy.and (Seqy.two _ _ _ _ _ _ _ _ _) (Seqy.ex fun l => Seqy.and (Seqy.const _) (Seqy.and (Seqy.const _) (Seqy.and (Seqy.const _) (Seqy.bld _ _)))))
  · exact ⟨⟨rfl, rfl, rfl, rfl⟩, H.p.1.2, l, hl0, rfl, ⟨_, rfl⟩, [], H.p.2, .nil⟩
  · clear H hr
    intro i v s₃ m' It E' hi hv hIt H
    obtain ⟨tv', rfl⟩ := hv
    have hm := H.p.1.1
    obtain ⟨l, hl0, hms, ⟨tz, hmz⟩, hb⟩ := H.p.1.2.2
    have hle := it_le c hs1 hf hg i
    have hlen := it_len c hs1 hf hg i
    have hstp : c.it first second size (i + 1) = c.stp first second (c.it first second size i) := rfl
    rw [hstp]
    generalize c.it first second size i = x at *
    obtain ⟨sts, z⟩ := x
    dsimp only at *
    replace H := H.now (P' := fun h => (Two c an am t0 t1 t2 u0 u1 u2 h ∧ Bld l sts h) ∧ It h) (Stable.and (Seqy.stable (Seqy.and (Seqy.two _ _ _ _ _ _ _ _ _) (Seqy.bld _ _))) hIt.stable) ⟨⟨H.p.1.2.1, hb⟩, H.p.2⟩
    clear hb
    have fin : ∀ {m₃ : Str → Option Value} {s₃ : Shared} {l₃ : Addr} {x : List State × Int} {t₃ : Tok} {P' : Heap → Prop}, St s L m₃ P' s₃ → c.stp first second (sts, z) = x → m₃ "numbers" = some (.ref an) → m₃ "names" = some (.ref am) → m₃ "first" = some (.int first tf) → m₃ "second" = some (.int second tg) →
        s.heap.get? l₃ = none → m₃ "states" = some (.ref l₃) → m₃ "size" = some (.int x.2 t₃) → Two c an am t0 t1 t2 u0 u1 u2 s₃.heap → Bld l₃ x.1 s₃.heap → It s₃.heap →
        ∃ m₃, St s L m₃ (fun h => (SNm first second an am tf tg m₃ ∧ Two c an am t0 t1 t2 u0 u1 u2 h ∧ ∃ l, s.heap.get? l = none ∧ m₃ "states" = some (.ref l) ∧ (∃ t, m₃ "size" = some (.int (c.stp first second (sts, z)).2 t)) ∧ Bld l (c.stp first second (sts, z)).1 h) ∧ It h) s₃ := by
      intro m₃ s₃ l₃ x t₃ P' H e h1 h2 h3 h4 h5 h6 h7 h8 h9 h10
      subst e
      exact ⟨m₃, H.now (Stable.and (Seqy.stable (Seqy.and (Seqy.const _) (Seqy.and (Seqy.two _ _ _ _ _ _ _ _ _) (Seqy.ex fun l => Seqy.and (Seqy.const _) (Seqy.and (Seqy.const _) (Seqy.and (Seqy.const _) (Seqy.bld _ _))))))) hIt.stable) ⟨⟨⟨h1, h2, h3, h4⟩, h8, l₃, h5, h6, ⟨t₃, h7⟩, h9⟩, h10⟩⟩
    refine wpAny_assign_Name (sL H ?_); intro s₃ H
    refine wpAny_execs_cons (wpAny_If ?_)
    refine isTrue_chain ?_
    refine cI H ?_; intro s₃ _ H
    refine test_link ?_
    refine nL H hmz ?_
    refine PyProof.Rows.lt_int ?_
    refine wpAny_truthy_bool ?_
    by_cases hz1 : 1 < z
    case neg =>
      rw [if_neg (by simpa using hz1)]
      rw [if_neg (by decide)]
      refine wpAny_execs_nil (wpAny_execs_nil ?_)
      exact fin H (if_neg fun q => hz1 q.1) hm.numbers hm.names hm.first hm.second hl0 hms hmz H.p.1.1 H.p.1.2 H.p.2
    rw [if_pos (by simpa using hz1)]
    refine test_last ?_
    refine cI H ?_; intro s₃ _ H
    refine PyProof.Rows.lt_int ?_
    refine wpAny_truthy_bool ?_
    by_cases hz2 : z < 12
    case neg =>
      rw [if_neg (by simpa using hz2)]
      refine wpAny_execs_nil (wpAny_execs_nil ?_)
      exact fin H (if_neg fun q => hz2 q.2) hm.numbers hm.names hm.first hm.second hl0 hms hmz H.p.1.1 H.p.1.2 H.p.2
    rw [if_pos (by simpa using hz2)]
    have estp : c.stp first second (sts, z) = (sts ++ c.round z.toNat first second, nextSize z.toNat first second) := if_pos ⟨hz1, hz2⟩
    obtain ⟨zn, rfl⟩ : ∃ zn : Nat, z = zn := ⟨z.toNat, by omega⟩
    refine wpAny_execs_cons (Assign_Tuple ?_)
    refine Call_Name rfl ?_
    refine nG H B (g_round _) ?_
    refine cwF5 rfl ?_
    refine nL H hmz ?_
    refine nL H hm.numbers ?_
    refine nL H hm.names ?_
    refine nL H hm.first ?_
    refine nL H hm.second ?_
    refine ⟨H.base B, wpAny_call (round_call (H.base B) rm.deeper H.p.1.1 (by omega) hf hg ?_)⟩
    intro Dr lr tr s₄ k htup hsts
    have H := ((H.keep k).more (Stable.isTup _ _) htup).more (Seqy.isStates _ _).stable hsts
    clear k
    show wpAny _ _ _ _ _ _
    refine unp2 rm.hh H H.p.1.2 ?_; intro s₄ H
    refine wpAny_execs_cons (wpAny_Assign_Name (wpAny_BinOp ?_))
    refine nL H hms ?_
    refine nL H rfl ?_
    obtain ⟨vs, hl, hp⟩ := H.p.1.1.1.2
    obtain ⟨ws, hw, hq⟩ := H.p.2
    have hvl := PySem.Paired.length hp
    have hwl := PySem.Paired.length hq
    have hrl := round_len c (size := zn) (fi := first) (se := second) (by omega)
    refine addL (H.more (SubS.stable s₄.heap) (SubS.rfl' _)) hl.isList hw (by omega) ?_
    intro D s₅ hD H'
    have hD0 := old H hD
    have up : SubS s₄.heap s₅.heap := H'.p.1.2
    have hbl : Bld D (sts ++ c.round zn first second) s₅.heap := ⟨_, H'.p.2, Paired.app (Paired.imp (fun _ _ q => q.is.off hD up) hp) (Paired.imp (fun _ _ q => q.off hD up) hq)⟩
    have H := H'
    clear H' up
    have H := H.now (P' := fun h => (Two c an am t0 t1 t2 u0 u1 u2 h ∧ Bld D (sts ++ c.round zn first second) h) ∧ It h) (Stable.and (Seqy.stable (Seqy.and (Seqy.two _ _ _ _ _ _ _ _ _) (Seqy.bld _ _))) hIt.stable) ⟨⟨H.p.1.1.1.1.1.1, hbl⟩, H.p.1.1.1.1.2⟩
    refine sL H ?_; intro s₆ H
    refine wpAny_execs_nil (wpAny_execs_nil ?_)
    exact fin H estp hm.numbers hm.names hm.first hm.second hD0 rfl rfl H.p.1.1 H.p.1.2 H.p.2
  · clear H hr
    intro s₃ m' H
    have hm := H.p.1
    obtain ⟨l, hl0, hms, ⟨tz, hmz⟩, hb⟩ := H.p.2.2
    have hle := it_le c hs1 hf hg 4
    have hlen := it_len c hs1 hf hg 4
    have hst : c.states first second size = c.last (c.it first second size 4) := rfl
    rw [hst] at h
    generalize c.it first second size 4 = x at *
    obtain ⟨sts, z⟩ := x
    dsimp only at *
    replace H := H.now (P' := fun h => Two c an am t0 t1 t2 u0 u1 u2 h ∧ Bld l sts h) (Seqy.stable (Seqy.and (Seqy.two _ _ _ _ _ _ _ _ _) (Seqy.bld _ _))) ⟨H.p.2.1, hb⟩
    clear hb
    refine wpAny_execs_cons (wpAny_If ?_)
    refine wpAny_isTrue_Compare1 ?_
    refine nL H hmz ?_
    refine cI H ?_; intro s₃ _ H
    refine PyProof.Rows.ge_int ?_
    refine wpAny_truthy_bool ?_
    by_cases hz : 0 ≤ z
    case neg =>
      rw [if_neg (by simpa using hz)]
      refine wpAny_execs_nil ?_
      refine wpAny_execs_cons (wpAny_Return_some ?_)
      refine nL H hms ?_
      refine h _ _ H.done ?_
      rw [Cfg.last, if_neg hz]
      exact H.p.2.states
    rw [if_pos (by simpa using hz)]
    obtain ⟨zn, rfl⟩ : ∃ zn : Nat, z = zn := ⟨z.toNat, by omega⟩
    refine wpAny_execs_cons (wpAny_Expr ?_)
    refine Call_method1 rfl rfl rfl ?_
    refine nL H hms ?_
    obtain ⟨vs, hl, hp⟩ := H.p.2
    refine methList PySem.slot_list_append PySem.type_list_append hl ?_
    clear hl hp vs
    refine cwB1 ?_
    refine Tuple_ (spl2 ?_)
    refine Call_Name1 ?_
    refine nG H B (g_number _) ?_
    refine cwF1 rfl ?_
    refine List_ (spl1 (Tuple_ (spl3 ?_)))
    refine subL (i := 0) H hm.numbers H.p.1.nums rfl (by decide) ?_; intro s₃ H
    refine lenSub (i := 0) B H hm.names H.p.1.nams rfl (by decide) (by show (wd c.n0).length ≤ 1000; omega) ?_; intro s₃ _ H
    refine nL H hmz ?_
    refine newTup H (show 3 ≤ sizeLine by decide) ?_; intro D₄ s₃ _ H
    refine newLst H (show 1 ≤ sizeLine by decide) ?_; intro D₅ s₃ _ H
    refine ⟨H.base B, wpAny_call (number_call (ps := [(c.n0, c.A.length, zn)]) (H.base B) (rm.less.deeper) ⟨_, H.p.2.isList, .cons ⟨D₄, _, _, _, rfl, H.p.1.2⟩ .nil⟩ ?_ (show 1 ≤ 3 by decide) ?_)⟩
    · intro p hp
      rcases List.mem_cons.mp hp with rfl | hp
      · exact triA c (by omega)
      · cases hp
    intro tn s₄ k
    have H := (H.keep k).less (P' := fun h => Two c an am t0 t1 t2 u0 u1 u2 h ∧ Bld l sts h) (Seqy.stable (Seqy.and (Seqy.two _ _ _ _ _ _ _ _ _) (Seqy.bld _ _))) fun h q => q.1.1
    clear k
    show wpAny _ _ _ _ _ _
    refine wpAny_BinOp ?_
    refine List_ (spl1 ?_)
    refine subL (i := 0) H hm.names H.p.1.nams rfl (by decide) ?_; intro s₃ H
    refine newLst H (show 1 ≤ sizeLine by decide) ?_; intro D₆ s₃ _ H
    refine nL H hmz ?_
    refine mulL H H.p.2 (by simp only [List.length_singleton]; omega) (by omega) ?_
    intro D₇ s₃ hf₇ H'
    have hne₇ : D₇ ≠ l := by
      rintro rfl
      obtain ⟨vs', ⟨n, e⟩, _⟩ := H.p.1.2
      rw [hf₇] at e; cases e
    have H := H'
    clear H'
    refine newTup H (show 2 ≤ sizeLine by decide) ?_; intro D₈ s₆ hf₈ H'
    have hne₈ : D₈ ≠ l := by
      rintro rfl
      obtain ⟨vs', ⟨n, e⟩, _⟩ := H.p.1.1.2
      rw [hf₈] at e; cases e
    have H := H'
    clear H'
    obtain ⟨vs, hl, hp⟩ := H.p.1.1.1.2
    have hvl := PySem.Paired.length hp
    have hrow : IsRow D₇ (List.replicate zn [c.A]).flatten s₆.heap := ⟨_, H.p.1.2.isList, Strs.rep (Strs.one _ _) _⟩
    refine appR (P' := fun h => Bld l (sts ++ [(num [(c.n0, c.A.length, zn)], (List.replicate zn [c.A]).flatten)]) h) H hl hl0 (by omega) (Seqy.bld _ _).stable ?_ ?_
    · intro h' hl' k
      exact Bld.app (st := (num [(c.n0, c.A.length, zn)], (List.replicate zn [c.A]).flatten)) hp ⟨D₈, _, D₇, rfl, hne₈, hne₇, H.p.2, hrow⟩ hl' k
    · intro s₇ H
      refine wpAny_execs_nil ?_
      refine wpAny_execs_cons (wpAny_Return_some ?_)
      refine nL H hms ?_
      refine h _ _ H.done ?_
      rw [Cfg.last, if_pos hz]
      exact H.p.states
end Mine
end

section
open PySem PySem.W PyProof.Rows PySem.Calls
set_option maxRecDepth 100000
set_option maxHeartbeats 1000000
namespace Mine
open PySem.SeqAt (EqAt RcAt)
section
variable {prog : Program} {w : World} {A : Around} {E : Value → Shared → Prop} {s s₀ : Shared} {L : Addr} {m : Str → Option Value} {P : Heap → Prop}
  {n : Str} {sc : Scope} {a : Addr} {cd : Value} {Q : Value → Shared → Prop} {pos : Pos} {env : Env}

/-- l[lo : hi : st], the slice object just made -/
theorem slcL {l : Addr} {items : Array Value} {vl vu vk : Value} {lo hi st : Option Int} (H : St s₀ L m P s) (hl : s.heap.IsList l items) (pl : IsPart vl lo) (pu : IsPart vu hi) (pk : IsPart vk st) (h0 : st ≠ some 0) (hz : items.size ≤ sizeLine)
    (h : ∀ D s', St s₀ L m (fun h => P h ∧ h.IsList D (slicePick items lo hi st)) s' → Q (.ref D) s') :
    wpAny (model prog w) A (getItem (.ref l) (.ref s.heap.objs.size)) Q E { s with heap := s.heap.push { cls := .type "slice", data := .fields #[vl, vu, vk] } } := by
  refine wpAny_getItem_list_slice (hl.push _) (Heap.IsSliceOf.new ..) pl pu pk h0 ?_ hz
  refine h _ _ (St.more (H.keeps fun b o e => Heap.get?_push_of_some _ (Heap.get?_push_of_some _ e)) (Stable.isList _ _) ⟨_, Heap.get?_push_size _ rfl, rfl, _, rfl⟩)
theorem sumR {l : Addr} {vs : List Value} {ns : List Int} (hh : A.handled = none) (H : St s₀ L m P s) (hl : s.heap.IsList l vs.toArray) (hi : IntsAre vs ns) (h : ∀ s' t, St s₀ L m P s' → Q (.int ns.sum t) s') :
    wpAny (model prog w) A (call (.builtin "sum") [.ref l]) Q E s := by
  obtain ⟨news, N, back⟩ := H.full
  exact LSm.sum_ints H.F N hh hl hi fun h' tk t' F' N' => h _ _ (back h' tk m F' N')
theorem sortedR {l : Addr} {vs : List Value} {ns : List Int} (H : St s₀ L m P s) (hl : s.heap.IsList l vs.toArray) (hi : IntsAre vs ns) (h64 : vs.length < 64)
    (h : ∀ D s' vs' ns', IntsAre vs' ns' → ns'.Perm ns → ns'.Pairwise (· ≤ ·) → St s₀ L m (fun h => P h ∧ h.IsList D vs'.toArray) s' → Q (.ref D) s') :
    wpAny (model prog w) A (call (.builtin "sorted") [.ref l]) Q E s := by
  obtain ⟨news, N, back⟩ := H.full
  refine sorted_N H.F N hl hi h64 fun h' vs' ns' e F' N' hi' hp hs => h _ _ vs' ns' hi' hp hs ((back h' s.toks m F' fun p hp => N' p (.tail _ hp)).more (Stable.isList _ _) ?_)
  exact ⟨_, (N' _ (.head _)).1, rfl, _, rfl⟩
theorem bytesR {l : Addr} {vs : List Value} {ns : List Int} (hh : A.handled = none) (H : St s₀ L m P s) (hl : s.heap.IsList l vs.toArray) (hi : IntsAre vs ns) (hr : ∀ n ∈ ns, 0 ≤ n ∧ n < 256) (hz : vs.length ≤ sizeLine) (h : ∀ s' t, St s₀ L m P s' → Q (.bytes (byteArr ns) t) s') :
    wpAny (model prog w) A (call (.type "bytes") [.ref l]) Q E s :=
  call_bytes_ints hl hi hr hz hh fun h' t k hk => h _ _ (H.keeps hk)
theorem eqAt_bytes (x y : List UInt8) (t u : Tok) : EqAt A s (.bytes x.toArray t) (.bytes y.toArray u) (x == y) := fun prog w E Q h => by
  unfold eqBool
  refine wpAny_holding ?_
  refine wpAny_ite_split (fun hab => ?_) (fun _ => ?_)
  · have e : x = y := by have := eq_of_beq hab; injection this with q; simpa using q
    subst e
    exact wpAny_bind (wpAny_rule (wpAny_pure (by simpa using h)))
  · have key : wpAny (model prog w) A (compareOp .Eq (.bytes x.toArray t) (.bytes y.toArray u)) (fun v s' => wpAny (model prog w) A (truthOfDropped v) Q E s') E s := eq_bytes (wpAny_truthy_bool (by simpa using h))
    exact wpAny_bind key
/-- != of two lists of one length -/
theorem neL {l b : Addr} {vs ws : List Value} {e : Nat → Bool} (hl : s.heap.IsList l vs.toArray) (hb : s.heap.IsList b ws.toArray) (hz : vs.length = ws.length) (hu : A.units < cLine)
    (he : ∀ j v w', vs[j]? = some v → ws[j]? = some w' → EqAt A.in1 s v w' (e j)) (h : Q (.bool (!(List.range vs.length).all e)) s) : wpAny (model prog w) A (compareOp .NotEq (.ref l) (.ref b)) Q E s := by
  have := PySem.SeqAt.RcNeAt.lists (A := A) (s := s) (e := e) hl hb (by simpa using hz) hu (fun j h1 h2 => he j _ _ (by simp at h1; simp [h1]) (by simp at h2; simp [h2])) prog w E Q (by simpa using h)
  exact this
theorem eqT {l b : Addr} {vs ws : List Value} {e : Nat → Bool} (hl : IsTup s.heap l vs.toArray) (hb : IsTup s.heap b ws.toArray) (hz : vs.length = ws.length) (hu : A.units < cLine)
    (he : ∀ j v w', vs[j]? = some v → ws[j]? = some w' → EqAt A.in1 s v w' (e j)) (h : Q (.bool ((List.range vs.length).all e)) s) : wpAny (model prog w) A (compareOp .Eq (.ref l) (.ref b)) Q E s := by
  refine PySem.SeqAt.eq_tupleAt (e := e) hl hb hu (fun j h1 h2 => he j _ _ (by simp at h1; simp [h1]) (by simp at h2; simp [h2])) ?_
  simpa [hz] using h
/-- two tuples as items -/
theorem eqAt_tup {l b : Addr} {vs ws : List Value} {e : Nat → Bool} (hl : IsTup s.heap l vs.toArray) (hb : IsTup s.heap b ws.toArray) (hz : vs.length = ws.length) (hne : l ≠ b) (hu : A.units < cLine)
    (he : ∀ j v w', vs[j]? = some v → ws[j]? = some w' → EqAt A.in1 s v w' (e j)) : EqAt A s (.ref l) (.ref b) ((List.range vs.length).all e) := by
  refine PySem.SeqAt.EqAt.of_refs hne ?_
  have := RcAt.tuples (A := A) (s := s) (e := e) (items := vs.toArray) (items2 := ws.toArray) hl hb hu (fun j h1 h2 => he j _ _ (by simp at h1; simp [h1]) (by simp at h2; simp [h2]))
  simpa [hz] using this
/-- names.index(x) -/
theorem indexR {l : Addr} {vs : List Value} {x : Value} {e : Value → Bool} {j : Nat} {v : Value} (H : St s₀ L m P s) (hl : s.heap.PlainList l vs.toArray) (hj : vs[j]? = some v) (hjs : j < 1000) (hit : e v = true) (hno : ∀ i u, i < j → vs[i]? = some u → e u = false)
    (he : ∀ y ∈ vs, EqAt A.in1 s y x (e y)) (h : ∀ s' t, St s₀ L m P s' → Q (.int j t) s') : wpAny (model prog w) A (call (.builtin "list.index") [.ref l, x]) Q E s := by
  obtain ⟨c, hl⟩ := hl
  have hlt : j < vs.length := by
    rcases Nat.lt_or_ge j vs.length with q | q
    · exact q
    · rw [List.getElem?_eq_none q] at hj; cases hj
  refine call_meets PySem.F.slot_list_index ⟨_, hl, rfl⟩ PySem.F.entry_list_index (PySem.F.args_list_index_2 _ _)
    (PySem.SeqAt.list_indexAt l vs.toArray c none #[] x e j (by simpa using hlt) (by omega) ?_ ?_) ⟨hl, fun y hy => he y (by simpa using hy), h _ _ (H.toks _)⟩
  · have : vs[j] = v := by rw [List.getElem?_eq_getElem hlt] at hj; exact Option.some.inj hj
    simpa [this] using hit
  · intro i hi hij
    exact hno i _ hij (by simp at hi; simp [hi])
end
end Mine
end

section
open PySem PySem.W PyProof.Rows PySem.Calls
set_option maxRecDepth 100000
set_option maxHeartbeats 1000000
namespace Mine
theorem ints_nonneg : ∀ {ys : List Value}, (∀ y ∈ ys, ∃ z t, y = Value.int z t ∧ 0 ≤ z) → ∃ ns, IntsAre ys ns ∧ 0 ≤ ns.sum
  | [], _ => ⟨[], .nil, by simp⟩
  | y :: ys, h => by
    obtain ⟨z, t, rfl, hz⟩ := h y List.mem_cons_self
    obtain ⟨ns, hi, hs⟩ := ints_nonneg fun y' hy => h y' (List.mem_cons_of_mem _ hy)
    exact ⟨z :: ns, .cons z t hi, by rw [List.sum_cons]; omega⟩
theorem Paired.right' {α β : Type} {F : α → β → Prop} : ∀ {l₁ : List α} {l₂ : List β}, Paired F l₁ l₂ → ∀ b ∈ l₂, ∃ a ∈ l₁, F a b
  | _, _, .nil, _, hb => by cases hb
  | _, _, .cons h t, b, hb => by
    rcases List.mem_cons.mp hb with rfl | hb
    · exact ⟨_, List.mem_cons_self, h⟩
    · obtain ⟨a, ha, q⟩ := Paired.right' t b hb
      exact ⟨a, List.mem_cons_of_mem _ ha, q⟩
def AllInt (vs : List Value) : Prop := ∀ v ∈ vs, ∃ z t, v = Value.int z t
theorem allInt_pick {items : Array Value} (h : AllInt items.toList) (lo hi st : Option Int) : AllInt (slicePick items lo hi st).toList := by
  intro v hv
  unfold slicePick at hv
  simp only [List.mem_filterMap] at hv
  obtain ⟨i, _, e⟩ := hv
  exact h v (by simpa using Array.mem_of_getElem? e)

section
variable {prog : Program} {w : World} {A : Around} {E : Value → Shared → Prop} {s s₀ : Shared} {L : Addr} {m : Str → Option Value} {P : Heap → Prop} {n : Str} {sc : Scope} {ad : Addr} {cd : Value} {Q : Value → Shared → Prop}
  {p₁ p₂ p₃ p₄ p₅ p₆ p₇ p₈ p₉ p₁₀ p₁₁ p₁₂ : Pos} {k₁ k₂ k₃ : Nat} {i k : Nat}
/-- sum([x % k for x in taken[i::6]]) -/
theorem sumMod {lt : Addr} {items : Array Value} (hh : A.handled = none) (B : Base w s₀.heap) (H : St s₀ L m P s) (hm : m "taken" = some (.ref lt)) (hl : s.heap.IsList lt items) (hI : AllInt items.toList) (hz : items.size ≤ 1000) (hk : 0 < k)
    (h : ∀ s' t (S : Nat), St s₀ L m P s' → Q (.int S t) s')
    (hkd : sc.kind = .function := by rfl) (hx : (envOf n sc L ad cd).kindOf "taken" = some .local := by rfl) (hs : (envOf n sc L ad cd).kindOf "sum" = some .globalImplicit := by rfl) :
    wpAny (model prog w) A (eval (.Call (.Name "sum" p₁) [.ListComp (.BinOp (.Name "x" p₂) .Mod (.Constant (.int k) k₁ p₃) p₄) [⟨.Name "x" p₅, .Subscript (.Name "taken" p₆) (.Slice (some (.Constant (.int i) k₂ p₇)) none (some (.Constant (.int 6) k₃ p₈)) p₉) p₁₀, [], 0⟩]
      ⟨.function, [(".0", .local), ("x", .local)], false, false, []⟩ p₁₁] [] p₁₂) (envOf n sc L ad cd)) Q E s := by
  have hsl : sizeLine = 16777216 := rfl
  have sP := H.sP
  refine Call_Name1 ?_
  refine nB H B (b_sum _) rfl (by decide) ?_ hkd hs
  refine cwB1 ?_
  refine lcE (cl := []) ?_
  refine wpAny_Subscript_Slice_step list_getitem_lookup ?_
  refine nL H hm ?_ hkd hx
  refine wpAny_Slice ?_
  rw [evalPart_some, evalPart_some, evalPart_none]
  have hl' := hl
  refine wpAny_Constant_int ?_
  refine wpAny_pure ?_
  refine wpAny_Constant_int ?_
  have H := (H.more (Stable.isList _ _) hl).toks (s.toks + 1 + 1)
  refine ⟨Heap.IsList.typeIs (items := items) (hl.push _), ?_⟩
  refine slcL (s := { s with toks := s.toks + 1 + 1 }) H hl (.int _ _) .none (.int _ _) (by decide) (by omega) ?_
  intro D s₂ H
  have hD : s₂.heap.IsList D (slicePick items (some i) none (some 6)).toList.toArray := by simpa using H.p.2
  have hAI := allInt_pick hI (some i) none (some 6)
  have hle := slicePick_size_le items (some (i : Int)) none (some 6)
  have hlu : (slicePick items (some (i : Int)) none (some 6)).toList.length ≤ 1000 := by
    rw [Array.length_toList]; omega
  generalize (slicePick items (some (i : Int)) none (some 6)).toList = us at hD hAI hlu
  refine ⟨_, _, fun _ => true, fun _ _ v y => ∃ z t, y = Value.int z t ∧ 0 ≤ z, fun _ _ _ _ _ _ q => q, srcList hh hD, by omega, ?_, ?_⟩
  · intro C i v s₃ m₃ Bb E hv hn hm hk' _
    refine ⟨wpAny_tests_nil ⟨rfl, kp_refl _⟩, fun _ => ?_⟩
    obtain ⟨z, tz, rfl⟩ := hAI v (List.mem_of_getElem? hv)
    refine wpAny_BinOp ?_
    refine nC hn hm ?_
    refine wpAny_Constant_int ?_
    refine PyProof.Rows.mod_int (by omega) ?_
    exact ⟨⟨_, _, rfl, by rw [Int.fmod_eq_emod_of_nonneg _ (by omega)]; exact Int.emod_nonneg _ (by omega)⟩, ⟨_, _, rfl, fun _ _ e => e⟩⟩
  · intro D₂ _ s₃ ys vs' _ _ hD₂ hlen hP hG hk'
    have H := H.keep hk'
    obtain ⟨ns, hi, hsum⟩ := ints_nonneg fun y hy => by
      obtain ⟨a, _, q⟩ := Paired.right' hG y hy
      exact q
    refine sumR hh H hD₂.isList hi ?_
    intro s₄ t H
    have := h s₄ t ns.sum.toNat (H.less (P' := P) sP fun _ q => q.1.1)
    rwa [Int.toNat_of_nonneg hsum] at this
end

/-- where the law's text stands at its ninth line -/
structure LNm (c : Cfg) (fi se sz : Nat) (an : Addr) (tf tg ts : Tok) (m : Str → Option Value) : Prop where
  numbers : m "numbers" = some (.ref an)
  first : m "first" = some (.int fi tf)
  second : m "second" = some (.int se tg)
  size : m "size" = some (.int sz ts)

/-- the third number by the sorted two -/
def third (lo hi o : Nat) : Nat := let p := if lo ≤ o then o + 1 else o; if hi ≤ p then p + 1 else p
theorem third_ok {a b o : Nat} (hab : a ≠ b) (ho : o < 254) {lo hi : Nat} (h : (lo = a ∧ hi = b) ∨ (lo = b ∧ hi = a)) (hle : lo ≤ hi) : third lo hi o ≠ a ∧ third lo hi o ≠ b ∧ third lo hi o < 256 := by
  unfold third
  dsimp only
  rcases h with ⟨rfl, rfl⟩ | ⟨rfl, rfl⟩ <;> (repeat' split) <;> omega

set_option maxHeartbeats 4000000 in
theorem law_head {prog : Program} {w : World} {A : Around} {E : Value → Shared → Prop} {s s₁ : Shared} {L ad sp : Addr} {nm : Str} {cd : Value} {vs : List Value} {Q : Flow → Shared → Prop} (B : Base w s.heap) (hh : A.handled = none) (hsp : s.heap.IsList sp vs.toArray) (hI : AllInt vs) (hlen : vs.length ≤ 1000)
    {m : Str → Option Value} (H : St s L m (fun _ => True) s₁) (hm : m "script" = some (.ref sp))
    (h : ∀ (c : Cfg) fi se sz an t0 t1 t2 tf tg ts s' m', c.n0 ≠ c.n1 → c.n0 ≠ c.n2 → c.n1 ≠ c.n2 → fi ≤ 3 → se ≤ 3 → 2 ≤ sz → sz ≤ 9 → LNm c fi se sz an tf tg ts m' → St s L m' (fun h => h.IsList an [Value.int c.n0 t0, .int c.n1 t1, .int c.n2 t2].toArray) s' →
      wpAny (model prog w) A (execs ((body w.params 64).drop 9) (envOf nm (fn w.params 64).scope L ad cd)) Q E s') :
    wpAny (model prog w) A (execs (body w.params 64) (envOf nm (fn w.params 64).scope L ad cd)) Q E s₁ := by
  have hsl : sizeLine = 16777216 := rfl
  have H := (H.more (Stable.isList sp _) (Stable.isList sp _ _ _ (Sub.of_le H.F.keep) hsp))
  -- taken
  refine wpAny_execs_cons (wpAny_Assign_Name ?_)
  refine wpAny_Subscript_Slice list_getitem_lookup ?_
  refine nL H hm ?_
  refine wpAny_Slice ?_
  rw [evalPart_none, evalPart_some]
  refine wpAny_pure ?_
  refine cI H ?_; intro s₂ _ H
  refine wpAny_pure ?_
  refine ⟨Heap.IsList.typeIs (items := vs.toArray) (H.p.2.push _), ?_⟩
  refine slcL H H.p.2 .none (.int _ _) .none (by decide) (by simp; omega) ?_
  intro lt s₂ H
  have hAI : AllInt (slicePick vs.toArray none (some 60) none).toList := allInt_pick (by simpa using hI) _ _ _
  have hti : (slicePick vs.toArray none (some 60) none).size ≤ 1000 := Nat.le_trans (slicePick_size_le ..) (by simpa using hlen)
  generalize slicePick vs.toArray none (some 60) none = items at H hAI hti
  refine sL H ?_; intro s₂ H
  -- numbers
  refine wpAny_execs_cons (wpAny_Assign_Name (List_ (spl1 (wpAny_BinOp (wpAny_BinOp ?_)))))
  refine cI H ?_; intro s₂ _ H
  refine sumMod (k := 256) (i := 0) hh B H rfl H.p.2 hAI hti (by decide) ?_; intro s₂ _ S₀ H
  refine addI H ?_; intro s₂ _ H
  refine cI H ?_; intro s₂ _ H
  refine modI H (by decide) ?_; intro s₂ t0 H
  rw [show ((16 : Int) + (S₀ : Int)).fmod 256 = (((16 + S₀) % 256 : Nat) : Int) from by rw [Int.fmod_eq_emod_of_nonneg _ (by decide)]; omega]
  have hn0 : (16 + S₀) % 256 < 256 := Nat.mod_lt _ (by decide)
  generalize (16 + S₀) % 256 = n0 at hn0
  have Hp := H
  refine newLst H (show 1 ≤ sizeLine by decide) ?_; intro an s₂ han H
  have han0 : s.heap.get? an = none := by
    cases e : s.heap.get? an with
    | none => rfl
    | some o => have := Hp.F.keep an o e; rw [han] at this; cases this
  have hltan : lt ≠ an := by
    rintro rfl
    obtain ⟨o, e, _⟩ := Hp.p.2
    rw [han] at e; cases e
  clear Hp
  refine sL H ?_; intro s₂ H
  -- numbers.append
  refine wpAny_execs_cons (wpAny_Expr ?_)
  refine Call_method1 rfl rfl rfl ?_
  refine nL H rfl ?_
  refine methList PySem.slot_list_append PySem.type_list_append H.p.2 ?_
  refine cwB1 (wpAny_BinOp (wpAny_BinOp (wpAny_BinOp ?_)))
  refine subL (i := 0) H rfl H.p.2.isList rfl (by decide) ?_; intro s₂ H
  refine cI H ?_; intro s₂ _ H
  refine addI H ?_; intro s₂ _ H
  refine wpAny_BinOp (wpAny_BinOp ?_)
  refine cI H ?_; intro s₂ _ H
  refine sumMod (k := 255) (i := 1) hh B H rfl H.p.1.2 hAI hti (by decide) ?_; intro s₂ _ S₁ H
  refine addI H ?_; intro s₂ _ H
  refine cI H ?_; intro s₂ _ H
  refine modI H (by decide) ?_; intro s₂ _ H
  refine addI H ?_; intro s₂ _ H
  refine cI H ?_; intro s₂ _ H
  refine modI H (by decide) ?_; intro s₂ t1 H
  rw [show ((n0 : Int) + 1 + ((239 : Int) + (S₁ : Int)).fmod 255).fmod 256 = (((n0 + 1 + (239 + S₁) % 255) % 256 : Nat) : Int) from by
    rw [Int.fmod_eq_emod_of_nonneg _ (by decide), Int.fmod_eq_emod_of_nonneg _ (by decide)]; omega]
  have hn1 : (n0 + 1 + (239 + S₁) % 255) % 256 < 256 := Nat.mod_lt _ (by decide)
  have hn01 : n0 ≠ (n0 + 1 + (239 + S₁) % 255) % 256 := by omega
  generalize (n0 + 1 + (239 + S₁) % 255) % 256 = n1 at hn1 hn01
  refine appR (P' := fun h => h.IsList lt items ∧ h.PlainList an [Value.int n0 t0, .int n1 t1].toArray) H H.p.2 han0 (by show 1 ≤ sizeLine; decide) (Stable.and (Stable.isList _ _) (Stable.plain _ _)) ?_ ?_
  · intro h' hl' k
    exact ⟨isList_at H.p.1.2 fun o e => k _ o hltan e, hl'⟩
  intro s₃ H
  -- other
  refine wpAny_execs_cons (wpAny_Assign_Name (wpAny_BinOp (wpAny_BinOp ?_)))
  refine cI H ?_; intro s₂ _ H
  refine sumMod (k := 254) (i := 2) hh B H rfl H.p.1 hAI hti (by decide) ?_; intro s₂ _ S₂ H
  refine addI H ?_; intro s₂ _ H
  refine cI H ?_; intro s₂ _ H
  refine modI H (by decide) ?_; intro s₂ to H
  rw [show ((2 : Int) + (S₂ : Int)).fmod 254 = (((2 + S₂) % 254 : Nat) : Int) from by rw [Int.fmod_eq_emod_of_nonneg _ (by decide)]; omega]
  have ho : (2 + S₂) % 254 < 254 := Nat.mod_lt _ (by decide)
  generalize (2 + S₂) % 254 = o at ho
  refine sL H ?_; intro s₂ H
  -- the loop over the sorted two
  refine wpAny_execs_cons (wpAny_For ?_)
  refine Call_Name1 ?_
  refine nB H B (b_sorted _) rfl (by decide) ?_
  refine cwB1 ?_
  refine nL H rfl ?_
  refine sortedR (ns := [(n0 : Int), (n1 : Int)]) H H.p.2.isList (.cons _ _ (.cons _ _ .nil)) (show 2 < 64 by decide) ?_
  intro Ds s₂ vs' ns' hi' hperm hsort H
  have hns : ∃ lo hi : Nat, ns' = [(lo : Int), (hi : Int)] ∧ ((lo = n0 ∧ hi = n1) ∨ (lo = n1 ∧ hi = n0)) ∧ lo ≤ hi := by
    have hl2 := hperm.length_eq
    match ns', hperm, hsort, hl2 with
    | [a, b], hperm, hsort, _ =>
      have ha : a ∈ [(n0 : Int), (n1 : Int)] := hperm.subset List.mem_cons_self
      have hb : b ∈ [(n0 : Int), (n1 : Int)] := hperm.subset (List.mem_cons_of_mem _ List.mem_cons_self)
      have h0 : (n0 : Int) ∈ [a, b] := hperm.symm.subset List.mem_cons_self
      have h1 : (n1 : Int) ∈ [a, b] := hperm.symm.subset (List.mem_cons_of_mem _ List.mem_cons_self)
      have hab : a ≤ b := by
        rw [List.pairwise_cons] at hsort
        exact hsort.1 b List.mem_cons_self
      simp only [List.mem_cons, List.not_mem_nil, or_false] at ha hb h0 h1
      refine ⟨a.toNat, b.toNat, ?_, ?_, ?_⟩
      · rw [Int.toNat_of_nonneg (by omega), Int.toNat_of_nonneg (by omega)]
      · omega
      · omega
  obtain ⟨lo, hi, rfl, hlh, hle⟩ := hns
  obtain ⟨tl, th, rfl⟩ : ∃ tl th, vs' = [Value.int lo tl, .int hi th] := by
    cases hi' with
    | cons _ t1 h1 => cases h1 with | cons _ t2 h2 => cases h2; exact ⟨t1, t2, rfl⟩
  refine forR (fun _ q => q) H (srcFList hh H.p.2) (fun k m h => (m "numbers" = some (.ref an) ∧ m "taken" = some (.ref lt) ∧ ∃ t, m "other" = some (.int ((if k = 0 then o else if k = 1 then (if lo ≤ o then o + 1 else o) else third lo hi o : Nat) : Int) t)) ∧ h.IsList lt items ∧ h.PlainList an [Value.int n0 t0, .int n1 t1].toArray) ?_ ?_ ?_ ?_
  · exact fun k m => Seqy.and (Seqy.const _) (Seqy.and (Seqy.isList _ _) (Seqy.plain _ _))
  · exact ⟨⟨rfl, rfl, _, rfl⟩, H.p.1.1, H.p.1.2⟩
  · clear H
    intro i v s₃ m' It E' hi₀ hv hIt H
    obtain ⟨hmn, hmt, t₃, hmo⟩ := H.p.1.1
    have hvx : ∃ x tx, v = Value.int (x : Nat) tx ∧ ((i = 0 ∧ x = lo) ∨ (i = 1 ∧ x = hi)) := by
      match i, hv with
      | 0, hv => exact ⟨lo, tl, by simpa using hv.symm, .inl ⟨rfl, rfl⟩⟩
      | 1, hv => exact ⟨hi, th, by simpa using hv.symm, .inr ⟨rfl, rfl⟩⟩
      | i + 2, hv => simp at hv
    obtain ⟨x, tx, rfl, hx⟩ := hvx
    generalize hog : (if i = 0 then o else if i = 1 then (if lo ≤ o then o + 1 else o) else third lo hi o : Nat) = o₁ at hmo
    have hnext : (if i + 1 = 0 then o else if i + 1 = 1 then (if lo ≤ o then o + 1 else o) else third lo hi o : Nat) = if x ≤ o₁ then o₁ + 1 else o₁ := by
      rcases hx with ⟨rfl, rfl⟩ | ⟨rfl, rfl⟩
      · rw [← hog]; simp
      · rw [← hog]; simp [third]
    replace H := H.now (P' := fun h => (h.IsList lt items ∧ h.PlainList an [Value.int n0 t0, .int n1 t1].toArray) ∧ It h) (Stable.and (Stable.and (Stable.isList _ _) (Stable.plain _ _)) hIt) ⟨H.p.1.2, H.p.2⟩
    refine wpAny_assign_Name (sL H ?_); intro s₃ H
    refine wpAny_execs_cons (wpAny_Assign_Name (wpAny_BinOp ?_))
    refine nL H hmo ?_
    refine wpAny_IfExp ?_
    refine wpAny_isTrue_Compare1 ?_
    refine nL H hmo ?_
    refine nL H rfl ?_
    refine PyProof.Rows.ge_int ?_
    refine wpAny_truthy_bool ?_
    by_cases hxo : x ≤ o₁
    · rw [if_pos (by simpa using hxo)]
      refine cI H ?_; intro s₃ _ H
      refine addI H ?_; intro s₃ tz H
      refine sL H ?_; intro s₃ H
      refine wpAny_execs_nil ?_
      refine ⟨_, H.now (Stable.and (Seqy.stable (Seqy.and (Seqy.const _) (Seqy.and (Seqy.isList _ _) (Seqy.plain _ _)))) hIt) ⟨⟨⟨hmn, hmt, tz, ?_⟩, H.p.1⟩, H.p.2⟩⟩
      rw [hnext, if_pos hxo]
      rfl
    · rw [if_neg (by simpa using hxo)]
      refine cI H ?_; intro s₃ _ H
      refine addI H ?_; intro s₃ tz H
      refine sL H ?_; intro s₃ H
      refine wpAny_execs_nil ?_
      refine ⟨_, H.now (Stable.and (Seqy.stable (Seqy.and (Seqy.const _) (Seqy.and (Seqy.isList _ _) (Seqy.plain _ _)))) hIt) ⟨⟨⟨hmn, hmt, tz, ?_⟩, H.p.1⟩, H.p.2⟩⟩
      rw [hnext, if_neg hxo]
      show some (Value.int ((o₁ : Int) + 0) tz) = _
      rw [Int.add_zero]
  clear H
  intro s₂ m' H
  obtain ⟨⟨hmn, hmt, t2, hmo⟩, hl₂, hp₂⟩ := H.p
  have hmo : m' "other" = some (.int (third lo hi o : Nat) t2) := hmo
  obtain ⟨ht0, ht1, ht2⟩ := third_ok hn01 ho hlh hle
  generalize third lo hi o = n2 at hmo ht0 ht1 ht2
  replace H := H.now (P' := fun h => h.IsList lt items ∧ h.PlainList an [Value.int n0 t0, .int n1 t1].toArray) (Stable.and (Stable.isList _ _) (Stable.plain _ _)) ⟨hl₂, hp₂⟩
  -- numbers.append(other)
  refine wpAny_execs_cons (wpAny_Expr ?_)
  refine Call_method1 rfl rfl rfl ?_
  refine nL H hmn ?_
  refine methList PySem.slot_list_append PySem.type_list_append H.p.2 ?_
  refine cwB1 ?_
  refine nL H hmo ?_
  refine appR (P' := fun h => h.IsList lt items ∧ h.PlainList an [Value.int n0 t0, .int n1 t1, .int n2 t2].toArray) H H.p.2 han0 (by show 2 ≤ sizeLine; decide) (Stable.and (Stable.isList _ _) (Stable.plain _ _)) ?_ ?_
  · intro h' hl' k
    exact ⟨isList_at H.p.1 fun o e => k _ o hltan e, hl'⟩
  intro s₃ H
  -- first, second, size
  refine wpAny_execs_cons (wpAny_Assign_Name (wpAny_BinOp (wpAny_BinOp ?_)))
  refine cI H ?_; intro s₂ _ H
  refine sumMod (k := 4) (i := 3) hh B H hmt H.p.1 hAI hti (by decide) ?_; intro s₂ _ S₃ H
  refine addI H ?_; intro s₂ _ H
  refine cI H ?_; intro s₂ _ H
  refine modI H (by decide) ?_; intro s₂ tf H
  rw [show ((1 : Int) + (S₃ : Int)).fmod 4 = (((1 + S₃) % 4 : Nat) : Int) from by rw [Int.fmod_eq_emod_of_nonneg _ (by decide)]; omega]
  refine sL H ?_; intro s₂ H
  refine wpAny_execs_cons (wpAny_Assign_Name (wpAny_BinOp (wpAny_BinOp ?_)))
  refine cI H ?_; intro s₂ _ H
  refine sumMod (k := 4) (i := 4) hh B H hmt H.p.1 hAI hti (by decide) ?_; intro s₂ _ S₄ H
  refine addI H ?_; intro s₂ _ H
  refine cI H ?_; intro s₂ _ H
  refine modI H (by decide) ?_; intro s₂ tg H
  rw [show ((3 : Int) + (S₄ : Int)).fmod 4 = (((3 + S₄) % 4 : Nat) : Int) from by rw [Int.fmod_eq_emod_of_nonneg _ (by decide)]; omega]
  refine sL H ?_; intro s₂ H
  refine wpAny_execs_cons (wpAny_Assign_Name (wpAny_BinOp ?_))
  refine cI H ?_; intro s₂ _ H
  refine wpAny_BinOp (wpAny_BinOp ?_)
  refine cI H ?_; intro s₂ _ H
  refine sumMod (k := 8) (i := 5) hh B H hmt H.p.1 hAI hti (by decide) ?_; intro s₂ _ S₅ H
  refine addI H ?_; intro s₂ _ H
  refine cI H ?_; intro s₂ _ H
  refine modI H (by decide) ?_; intro s₂ _ H
  refine addI H ?_; intro s₂ ts H
  rw [show (2 : Int) + ((3 : Int) + (S₅ : Int)).fmod 8 = ((2 + (3 + S₅) % 8 : Nat) : Int) from by rw [Int.fmod_eq_emod_of_nonneg _ (by decide)]; omega]
  refine sL H ?_; intro s₂ H
  have Hf := H.now (P' := fun h => h.IsList an [Value.int n0 t0, .int n1 t1, .int n2 t2].toArray) (Stable.isList _ _) H.p.2.isList
  refine h ⟨n0, n1, n2, hn0, hn1, ht2⟩ ((1 + S₃) % 4) ((3 + S₄) % 4) (2 + (3 + S₅) % 8) an t0 t1 t2 tf tg ts s₂ _ hn01 (fun e => ht0 e.symm) (fun e => ht1 e.symm) (by omega) (by omega) (by omega) (by omega) ?_ Hf
  exact ⟨hmn, rfl, rfl, rfl⟩
end Mine
end

section
set_option maxRecDepth 10000
namespace Mine
/-- a number by its digits -/
def val (ds : List Nat) : Nat := ds.foldl (fun a d => a * 16 + d) 0
theorem val_foldl (ds : List Nat) : ∀ a, ds.foldl (fun a d => a * 16 + d) a = a * 16 ^ ds.length + val ds := by
  induction ds with
  | nil => intro a; simp [val]
  | cons d ds ih =>
    intro a
    have hv : val (d :: ds) = d * 16 ^ ds.length + val ds := by
      show List.foldl _ (0 * 16 + d) ds = _
      rw [ih]; simp
    rw [List.foldl_cons, ih, hv, List.length_cons, Nat.pow_succ, Nat.add_mul, Nat.mul_assoc, Nat.mul_comm 16, Nat.add_assoc]
theorem val_app (ds es : List Nat) : val (ds ++ es) = val ds * 16 ^ es.length + val es := by
  rw [val, List.foldl_append, val_foldl]; rfl
theorem val_one (d : Nat) : val [d] = d := by simp [val]
theorem val_snoc (ds : List Nat) (d : Nat) : val (ds ++ [d]) = val ds * 16 + d := by rw [val_app, val_one]; simp
theorem val_dg (n : Nat) : val (dg n) = n := by
  induction n using Nat.strongRecOn with
  | ind n ih =>
    by_cases h : n = 0
    · subst h; rw [dg_zero]; rfl
    · rw [dg_pos h, val_snoc, ih (n / 16) (by omega)]; omega
theorem dg_lt (n : Nat) : ∀ d ∈ dg n, d < 16 := by
  induction n using Nat.strongRecOn with
  | ind n ih =>
    by_cases h : n = 0
    · subst h; rw [dg_zero]; simp
    · rw [dg_pos h]
      intro d hd
      rcases List.mem_append.mp hd with q | q
      · exact ih (n / 16) (by omega) d q
      · rw [List.mem_singleton.mp q]; exact Nat.mod_lt _ (by decide)
/-- no nought in front -/
def Lead (ds : List Nat) : Prop := ∀ d r, ds = d :: r → d ≠ 0
theorem dg_lead (n : Nat) : Lead (dg n) := by
  induction n using Nat.strongRecOn with
  | ind n ih =>
    by_cases h : n = 0
    · subst h; rw [dg_zero]; intro d r e; cases e
    · rw [dg_pos h]
      by_cases h2 : n / 16 = 0
      · rw [h2, dg_zero]
        intro d r e
        simp at e
        omega
      · intro d r e
        cases q : dg (n / 16) with
        | nil =>
          have := val_dg (n / 16)
          rw [q] at this
          exact absurd this.symm h2
        | cons d' r' =>
          rw [q] at e
          simp at e
          rw [← e.1]
          exact ih (n / 16) (by omega) d' r' q
theorem lead_app {ds es : List Nat} (h1 : Lead ds) (h2 : Lead es) : Lead (ds ++ es) := by
  cases ds with
  | nil => exact h2
  | cons d r =>
    intro d' r' e
    simp at e
    rw [← e.1]
    exact h1 d r rfl
theorem dg_val : ∀ (n : Nat) (ds : List Nat), ds.length = n → (∀ d ∈ ds, d < 16) → Lead ds → dg (val ds) = ds := by
  intro n
  induction n with
  | zero => intro ds h _ _; cases ds with | nil => exact dg_zero | cons => cases h
  | succ n ih =>
    intro ds h hd hl
    obtain ⟨es, d, rfl⟩ : ∃ es d, ds = es ++ [d] := ⟨ds.dropLast, ds.getLast (by rintro rfl; cases h), (List.dropLast_concat_getLast _).symm⟩
    have hen : es.length = n := by simpa using h
    have hes : dg (val es) = es := ih es hen (fun x hx => hd x (List.mem_append_left _ hx)) (by
      intro x r e
      subst e
      exact hl x (r ++ [d]) rfl)
    have hdd : d < 16 := hd d (by simp)
    have hne : val es * 16 + d ≠ 0 := by
      cases es with
      | nil =>
        have := hl d [] rfl
        simp [val]; exact this
      | cons x r =>
        intro q
        have : val (x :: r) = 0 := by omega
        rw [this, dg_zero] at hes
        cases hes
    rw [val_snoc, dg_pos hne, show (val es * 16 + d) / 16 = val es by omega, show (val es * 16 + d) % 16 = d by omega, hes]
theorem dg_inj {a b : Nat} (h : dg a = dg b) : a = b := by rw [← val_dg a, ← val_dg b, h]
def up (l : List Nat) : List Nat := l.map (65 + ·)
theorem wd_up (n : Nat) : wd n = up (dg n) := rfl
theorem up_inj : ∀ {a b : List Nat}, up a = up b → a = b
  | [], [], _ => rfl
  | [], _ :: _, h => by cases h
  | _ :: _, [], h => by cases h
  | x :: a, y :: b, h => by
    simp only [up, List.map_cons, List.cons.injEq] at h
    rw [up_inj h.2, show x = y by omega]
theorem wd_inj {a b : Nat} (h : wd a = wd b) : a = b := dg_inj (up_inj h)
/-- the geometric series -/
noncomputable def geo (X : Nat) : Nat → Nat
  | 0 => 0
  | t + 1 => geo X t * X + 1
theorem geo_mul (X : Nat) (hX : 1 ≤ X) : ∀ t, geo X t * (X - 1) + 1 = X ^ t
  | 0 => by simp [geo]
  | t + 1 => by
    have ih := geo_mul X hX t
    obtain ⟨Y, rfl⟩ : ∃ Y, X = Y + 1 := ⟨X - 1, by omega⟩
    simp only [Nat.add_sub_cancel] at ih ⊢
    rw [geo, Nat.pow_succ, ← ih, Nat.add_mul (geo (Y + 1) t * (Y + 1)), Nat.add_mul _ 1 (Y + 1), Nat.mul_right_comm]
    omega
theorem geo_div {X t : Nat} (hX : 1 < X) : (X ^ t - 1) / (X - 1) = geo X t := by
  have := geo_mul X (by omega) t
  rw [show X ^ t - 1 = geo X t * (X - 1) by omega]
  exact Nat.mul_div_cancel _ (by omega)
theorem val_rep (e : List Nat) : ∀ t, val (List.replicate t e).flatten = val e * geo (16 ^ e.length) t
  | 0 => by simp [val, geo]
  | t + 1 => by
    rw [List.replicate_succ', List.flatten_append, List.flatten_singleton, val_app, val_rep e t, geo, Nat.mul_add, Nat.mul_one, Nat.mul_assoc]
theorem len_rep (e : List Nat) (t : Nat) : (List.replicate t e).flatten.length = e.length * t := by
  simp [Nat.mul_comm]
theorem num_step (ds e : List Nat) (t : Nat) : numStep (val ds) (val e, e.length, t) = val (ds ++ (List.replicate t e).flatten) := by
  unfold numStep
  dsimp only
  by_cases h : 0 < e.length
  · rw [if_pos h, val_app, len_rep, val_rep, Nat.pow_mul, geo_div (Nat.one_lt_pow (by omega) (by decide))]
  · have : e = [] := List.length_eq_zero_iff.mp (by omega)
    subst this
    rw [if_neg h, val_app, val_rep]
    simp [val]
theorem wd_len (n : Nat) : (wd n).length = (dg n).length := by simp [wd]
theorem two_val (c : Cfg) : c.two = val (dg c.n1 ++ dg c.n2) := by
  unfold Cfg.two
  rw [val_app, val_dg, val_dg, wd_len, Nat.mul_comm]
def NumOk (st : State) : Prop := apB st.1 = st.2.flatten.map Nat.toUInt8
theorem numOk_of {N : Nat} {rd : List (List Nat)} (hN : N = val rd.flatten) (hd : ∀ x ∈ rd, ∃ n, x = dg n) : NumOk (N, rd.map up) := by
  have h1 : ∀ d ∈ rd.flatten, d < 16 := by
    intro d hd'
    obtain ⟨x, hx, q⟩ := List.mem_flatten.mp hd'
    obtain ⟨n, rfl⟩ := hd x hx
    exact dg_lt n d q
  have h2 : Lead rd.flatten := by
    clear hN h1
    induction rd with
    | nil => intro d r e; cases e
    | cons x rd ih =>
      obtain ⟨n, rfl⟩ := hd x List.mem_cons_self
      exact lead_app (dg_lead n) (ih fun y hy => hd y (List.mem_cons_of_mem _ hy))
  show apB N = (rd.map up).flatten.map Nat.toUInt8
  rw [apB, hN, dg_val _ _ rfl h1 h2]
  have : (rd.map up).flatten = rd.flatten.map (65 + ·) := by rw [List.map_flatten]; rfl
  rw [this, List.map_map]
  rfl
theorem num3 (x y z : List Nat) (a b d : Nat) : num [(val x, x.length, a), (val y, y.length, b), (val z, z.length, d)] = val ((List.replicate a x).flatten ++ (List.replicate b y).flatten ++ (List.replicate d z).flatten) := by
  have h0 : (0 : Nat) = val [] := rfl
  unfold num
  simp only [List.foldl_cons, List.foldl_nil]
  rw [h0, num_step, num_step, num_step, List.nil_append]
theorem num2 (x y : List Nat) (a b : Nat) : num [(val x, x.length, a), (val y, y.length, b)] = val ((List.replicate a x).flatten ++ (List.replicate b y).flatten) := by
  have h0 : (0 : Nat) = val [] := rfl
  unfold num
  simp only [List.foldl_cons, List.foldl_nil]
  rw [h0, num_step, num_step, List.nil_append]
theorem num1 (x : List Nat) (a : Nat) : num [(val x, x.length, a)] = val (List.replicate a x).flatten := by
  have h0 : (0 : Nat) = val [] := rfl
  unfold num
  simp only [List.foldl_cons, List.foldl_nil]
  rw [h0, num_step, List.nil_append]
theorem flat_one (x : List Nat) : ∀ k, ((List.replicate k [x]).flatten).flatten = (List.replicate k x).flatten
  | 0 => rfl
  | k + 1 => by rw [List.replicate_succ, List.flatten_cons, List.flatten_append, flat_one x k, List.replicate_succ, List.flatten_cons]; simp
theorem flat_two (x y : List Nat) : ∀ k, ((List.replicate k [x, y]).flatten).flatten = (List.replicate k (x ++ y)).flatten
  | 0 => rfl
  | k + 1 => by rw [List.replicate_succ, List.flatten_cons, List.flatten_append, flat_two x y k, List.replicate_succ, List.flatten_cons]; simp
theorem map_rep {α β : Type} (f : α → β) (l : List α) (k : Nat) : ((List.replicate k l).flatten).map f = (List.replicate k (l.map f)).flatten := by
  rw [List.map_flatten, List.map_replicate]
theorem mem_rep {α : Type} {x : α} {l : List α} {k : Nat} (h : x ∈ (List.replicate k l).flatten) : x ∈ l := by
  obtain ⟨y, hy, q⟩ := List.mem_flatten.mp h
  rw [List.eq_of_mem_replicate hy] at q
  exact q
theorem numOkA (c : Cfg) (size t : Nat) : NumOk (c.stA size t) := by
  have e : c.rowA size t = ((List.replicate (size - 2 * t) [dg c.n0]).flatten ++ (List.replicate t [dg c.n1, dg c.n2]).flatten).map up := by
    rw [List.map_append, map_rep, map_rep]; rfl
  show NumOk (c.numA size t, c.rowA size t)
  rw [e]
  refine numOk_of ?_ ?_
  · rw [List.flatten_append, flat_one, flat_two, ← num2, val_dg, ← two_val, List.length_append]
    unfold Cfg.numA
    rw [wd_len, wd_len, wd_len]
  · intro x hx
    rcases List.mem_append.mp hx with q | q
    · exact ⟨c.n0, by simpa using mem_rep q⟩
    · have := mem_rep q
      simp at this
      rcases this with rfl | rfl
      · exact ⟨_, rfl⟩
      · exact ⟨_, rfl⟩
theorem numOkB (c : Cfg) (par half count t : Nat) : NumOk (c.stB par half count t) := by
  have e : c.rowB par half count t = ((List.replicate par [dg c.n2]).flatten ++ (List.replicate (half - t) [dg c.n1, dg c.n2]).flatten ++ (List.replicate (count * t) [dg c.n0]).flatten).map up := by
    rw [List.map_append, List.map_append, map_rep, map_rep, map_rep]; rfl
  show NumOk (c.numB par half count t, c.rowB par half count t)
  rw [e]
  refine numOk_of ?_ ?_
  · rw [List.flatten_append, List.flatten_append, flat_one, flat_one, flat_two, ← num3, val_dg, val_dg, ← two_val, List.length_append]
    unfold Cfg.numB
    rw [wd_len, wd_len, wd_len]
  · intro x hx
    rcases List.mem_append.mp hx with q | q
    · rcases List.mem_append.mp q with q | q
      · exact ⟨c.n2, by simpa using mem_rep q⟩
      · have := mem_rep q
        simp at this
        rcases this with rfl | rfl
        · exact ⟨_, rfl⟩
        · exact ⟨_, rfl⟩
    · exact ⟨c.n0, by simpa using mem_rep q⟩
theorem numOkL (c : Cfg) (z : Nat) : NumOk (num [(c.n0, c.A.length, z)], (List.replicate z [c.A]).flatten) := by
  have e : (List.replicate z [c.A]).flatten = ((List.replicate z [dg c.n0]).flatten).map up := by rw [map_rep]; rfl
  rw [e]
  refine numOk_of ?_ ?_
  · rw [flat_one, ← num1, val_dg, wd_len]
  · intro x hx
    exact ⟨c.n0, by simpa using mem_rep hx⟩
end Mine
end

section
set_option maxRecDepth 10000
namespace Mine
/-- what comes behind a row by its first name -/
noncomputable def Cfg.rule (c : Cfg) (fi se : Nat) (x : List Nat) : List (List Nat) := if x = c.A then [c.B, c.C] else if x = c.B then (List.replicate fi [c.A]).flatten else (List.replicate se [c.A]).flatten
noncomputable def Cfg.next (c : Cfg) (fi se : Nat) (r : List (List Nat)) : List (List Nat) := r.drop 2 ++ c.rule fi se (r.headD [])
def Cfg.Fit (c : Cfg) (st : State) (r : List (List Nat)) : Prop := st.2 = r ∧ NumOk st ∧ r.length ≤ 60 ∧ ∀ x ∈ r, x = c.A ∨ x = c.B ∨ x = c.C
noncomputable def Cfg.Ok (c : Cfg) (fi se : Nat) : List (List Nat) → List State → Prop
  | _, [] => True
  | r, st :: rest => c.Fit st r ∧ (2 ≤ r.length → Cfg.Ok c fi se (c.next fi se r) rest)
noncomputable def Cfg.Run (c : Cfg) (fi se : Nat) : List (List Nat) → List State → List (List Nat) → Prop
  | r, [], r' => r = r'
  | r, st :: rest, r' => c.Fit st r ∧ 2 ≤ r.length ∧ Cfg.Run c fi se (c.next fi se r) rest r'
noncomputable def Cfg.End (c : Cfg) (fi se : Nat) : List (List Nat) → List State → Prop
  | _, [] => False
  | r, st :: rest => c.Fit st r ∧ (r.length < 2 ∨ (2 ≤ r.length ∧ Cfg.End c fi se (c.next fi se r) rest))
section
variable {c : Cfg} {fi se : Nat}
theorem Run.ok : ∀ {l₁ l₂ : List State} {r r' : List (List Nat)}, c.Run fi se r l₁ r' → c.Ok fi se r' l₂ → c.Ok fi se r (l₁ ++ l₂)
  | [], _, _, _, h, h' => by cases h; exact h'
  | _ :: _, _, _, _, h, h' => ⟨h.1, fun _ => Run.ok h.2.2 h'⟩
theorem Run.run : ∀ {l₁ l₂ : List State} {r r' r'' : List (List Nat)}, c.Run fi se r l₁ r' → c.Run fi se r' l₂ r'' → c.Run fi se r (l₁ ++ l₂) r''
  | [], _, _, _, _, h, h' => by cases h; exact h'
  | _ :: _, _, _, _, _, h, h' => ⟨h.1, h.2.1, Run.run h.2.2 h'⟩
theorem Run.end : ∀ {l₁ l₂ : List State} {r r' : List (List Nat)}, c.Run fi se r l₁ r' → c.End fi se r' l₂ → c.End fi se r (l₁ ++ l₂)
  | [], _, _, _, h, h' => by cases h; exact h'
  | _ :: _, _, _, _, h, h' => ⟨h.1, .inr ⟨h.2.1, Run.end h.2.2 h'⟩⟩
theorem End.ok : ∀ {l₁ l₂ : List State} {r : List (List Nat)}, c.End fi se r l₁ → c.Ok fi se r (l₁ ++ l₂)
  | [], _, _, h => h.elim
  | _ :: _, _, _, h => ⟨h.1, fun q => by
    rcases h.2 with e | e
    · omega
    · exact End.ok e.2⟩
theorem End.app : ∀ {l₁ l₂ : List State} {r : List (List Nat)}, c.End fi se r l₁ → c.End fi se r (l₁ ++ l₂)
  | [], _, _, h => h.elim
  | _ :: _, _, _, h => ⟨h.1, h.2.imp id fun e => ⟨e.1, End.app e.2⟩⟩
end
noncomputable abbrev Cfg.bc (c : Cfg) (k : Nat) : List (List Nat) := (List.replicate k [c.B, c.C]).flatten
noncomputable abbrev Cfg.as (c : Cfg) (k : Nat) : List (List Nat) := (List.replicate k [c.A]).flatten
section
variable (c : Cfg) (fi se : Nat)
theorem bc_succ (k : Nat) : c.bc (k + 1) = c.B :: c.C :: c.bc k := by simp [Cfg.bc, List.replicate_succ]
theorem bc_snoc (k : Nat) : c.bc k ++ [c.B, c.C] = c.bc (k + 1) := by simp [Cfg.bc, List.replicate_succ']
theorem as_succ (k : Nat) : c.as (k + 1) = c.A :: c.as k := by simp [Cfg.as, List.replicate_succ]
theorem as_add (k l : Nat) : c.as k ++ c.as l = c.as (k + l) := by
  unfold Cfg.as
  rw [← List.flatten_append, List.replicate_append_replicate]
theorem bc_len (k : Nat) : (c.bc k).length = 2 * k := by simp [Cfg.bc]; omega
theorem as_len (k : Nat) : (c.as k).length = k := by simp [Cfg.as]
theorem rule_A : c.rule fi se c.A = [c.B, c.C] := if_pos rfl
theorem rule_B (h : c.n0 ≠ c.n1) : c.rule fi se c.B = c.as fi := by
  unfold Cfg.rule
  rw [if_neg (fun e => h (wd_inj e).symm), if_pos rfl]
theorem rule_C (h : c.n0 ≠ c.n2) (h' : c.n1 ≠ c.n2) : c.rule fi se c.C = c.as se := by
  unfold Cfg.rule
  rw [if_neg (fun e => h (wd_inj e).symm), if_neg (fun e => h' (wd_inj e).symm)]
theorem mem_as {k : Nat} {x : List Nat} (h : x ∈ c.as k) : x = c.A := by simpa using mem_rep h
theorem mem_bc {k : Nat} {x : List Nat} (h : x ∈ c.bc k) : x = c.B ∨ x = c.C := by simpa using mem_rep h
theorem fitA {size t : Nat} (hs : size ≤ 11) (ht : 2 * t ≤ size) : c.Fit (c.stA size t) (c.as (size - 2 * t) ++ c.bc t) := by
  refine ⟨rfl, numOkA c size t, by rw [List.length_append, as_len, bc_len]; omega, fun x hx => ?_⟩
  rcases List.mem_append.mp hx with q | q
  · exact .inl (mem_as c q)
  · exact .inr (mem_bc c q)
theorem fitB {par half count t : Nat} (hp : par ≤ 1) (hh : half ≤ 5) (hc : count ≤ 3) (ht : t ≤ half) : c.Fit (c.stB par half count t) ((List.replicate par [c.C]).flatten ++ c.bc (half - t) ++ c.as (count * t)) := by
  have : count * t ≤ 3 * 5 := Nat.mul_le_mul hc (by omega)
  refine ⟨rfl, numOkB c par half count t, ?_, fun x hx => ?_⟩
  · rw [List.length_append, List.length_append, as_len, bc_len]; simp; omega
  · rcases List.mem_append.mp hx with q | q
    · rcases List.mem_append.mp q with q | q
      · exact .inr (.inr (by simpa using mem_rep q))
      · exact .inr (mem_bc c q)
    · exact .inl (mem_as c q)
theorem nextA {k t : Nat} : c.next fi se (c.as (k + 2) ++ c.bc t) = c.as k ++ c.bc (t + 1) := by
  rw [as_succ, as_succ]
  show (c.as k ++ c.bc t) ++ c.rule fi se c.A = _
  rw [rule_A, List.append_assoc, bc_snoc]
/-- the row at the start of the second part, of t turns of the first -/
theorem runA {size : Nat} (hs : size ≤ 11) : ∀ k, 2 * k ≤ size → c.Run fi se (c.as size) (c.partA size k) (c.as (size - 2 * k) ++ c.bc k)
  | 0, _ => by show c.as size = c.as (size - 2 * 0) ++ []; simp
  | k + 1, h => by
    have ih := runA hs k (by omega)
    have e : c.partA size (k + 1) = c.partA size k ++ [c.stA size k] := by unfold Cfg.partA; rw [List.range_succ, List.map_append]; rfl
    rw [e]
    refine Run.run ih ⟨fitA c hs (by omega), ?_, ?_⟩
    · rw [List.length_append, as_len, bc_len]; omega
    · show c.next fi se _ = _
      obtain ⟨j, hj⟩ : ∃ j, size - 2 * k = j + 2 := ⟨size - 2 * k - 2, by omega⟩
      rw [hj, nextA, show size - 2 * (k + 1) = j by omega]
theorem runBe {half : Nat} (hh : half ≤ 5) (hf : fi ≤ 3) (h : c.n0 ≠ c.n1) : ∀ k, k ≤ half → c.Run fi se (c.bc half) (c.partB 0 half fi k) (c.bc (half - k) ++ c.as (fi * k))
  | 0, _ => by show c.bc half = c.bc (half - 0) ++ c.as (fi * 0); simp [Cfg.as]
  | k + 1, hk => by
    have ih := runBe hh hf h k (by omega)
    have e : c.partB 0 half fi (k + 1) = c.partB 0 half fi k ++ [c.stB 0 half fi k] := by unfold Cfg.partB; rw [List.range_succ, List.map_append]; rfl
    rw [e]
    refine Run.run ih ⟨?_, ?_, ?_⟩
    · have := fitB c (par := 0) (by omega) hh hf (t := k) (by omega)
      simpa using this
    · rw [List.length_append, as_len, bc_len]; omega
    · show c.next fi se _ = _
      obtain ⟨j, hj⟩ : ∃ j, half - k = j + 1 := ⟨half - k - 1, by omega⟩
      rw [hj, bc_succ]
      show (c.bc j ++ c.as (fi * k)) ++ c.rule fi se c.B = _
      rw [rule_B c fi se h, List.append_assoc, as_add, show half - (k + 1) = j by omega, Nat.mul_succ]
theorem runBo {half : Nat} (hh : half ≤ 5) (hf : se ≤ 3) (h : c.n0 ≠ c.n2) (h' : c.n1 ≠ c.n2) : ∀ k, k ≤ half → c.Run fi se (c.C :: c.bc half) (c.partB 1 half se k) (c.C :: (c.bc (half - k) ++ c.as (se * k)))
  | 0, _ => by show c.C :: c.bc half = c.C :: (c.bc (half - 0) ++ c.as (se * 0)); simp [Cfg.as]
  | k + 1, hk => by
    have ih := runBo hh hf h h' k (by omega)
    have e : c.partB 1 half se (k + 1) = c.partB 1 half se k ++ [c.stB 1 half se k] := by unfold Cfg.partB; rw [List.range_succ, List.map_append]; rfl
    rw [e]
    refine Run.run ih ⟨?_, ?_, ?_⟩
    · have := fitB c (par := 1) (by omega) hh hf (t := k) (by omega)
      simpa using this
    · rw [List.length_cons, List.length_append, as_len, bc_len]; omega
    · show c.next fi se _ = _
      obtain ⟨j, hj⟩ : ∃ j, half - k = j + 1 := ⟨half - k - 1, by omega⟩
      rw [hj, bc_succ]
      show (c.C :: c.bc j ++ c.as (se * k)) ++ c.rule fi se c.C = _
      rw [rule_C c fi se h h', List.append_assoc, as_add, show half - (k + 1) = j by omega, Nat.mul_succ]
      rfl
/-- a round -/
theorem round_ok {size : Nat} (h2 : 2 ≤ size) (hs : size ≤ 11) (hf : fi ≤ 3) (hg : se ≤ 3) (h01 : c.n0 ≠ c.n1) (h02 : c.n0 ≠ c.n2) (h12 : c.n1 ≠ c.n2) :
    (0 ≤ nextSize size fi se ∧ c.Run fi se (c.as size) (c.round size fi se) (c.as (nextSize size fi se).toNat)) ∨ c.End fi se (c.as size) (c.round size fi se) := by
  unfold Cfg.round
  by_cases hp : size % 2 = 1
  · have hc : cnt size fi se = se := by unfold cnt; rw [if_pos hp]
    rw [hc, hp]
    obtain ⟨half, rfl⟩ : ∃ half, size = 2 * half + 1 := ⟨size / 2, by omega⟩
    have hhalf : (2 * half + 1) / 2 = half := by omega
    rw [hhalf]
    have r1 := runA c fi se hs half (by omega)
    have e : c.partA (2 * half + 1) (half + 1) = c.partA (2 * half + 1) half ++ [c.stA (2 * half + 1) half] := by unfold Cfg.partA; rw [List.range_succ, List.map_append]; rfl
    have r2 : c.Run fi se (c.as (2 * half + 1)) (c.partA (2 * half + 1) (half + 1)) (c.C :: c.bc half) := by
      rw [e]
      refine Run.run r1 ⟨fitA c hs (by omega), ?_, ?_⟩
      · rw [List.length_append, as_len, bc_len]; omega
      · show c.next fi se _ = _
        obtain ⟨j, rfl⟩ : ∃ j, half = j + 1 := ⟨half - 1, by omega⟩
        rw [show 2 * (j + 1) + 1 - 2 * (j + 1) = 0 + 1 by omega, as_succ, bc_succ]
        show (c.C :: c.bc j) ++ c.rule fi se c.A = _
        rw [rule_A, List.cons_append, bc_snoc, bc_succ]
    have r3 := runBo c fi se (half := half) (by omega) hg h02 h12 half (Nat.le_refl _)
    rw [Nat.sub_self] at r3
    have e2 : c.partB 1 half se (half + 1) = c.partB 1 half se half ++ [c.stB 1 half se half] := by unfold Cfg.partB; rw [List.range_succ, List.map_append]; rfl
    rw [e2]
    have r3 : c.Run fi se (c.C :: c.bc half) (c.partB 1 half se half) (c.C :: c.as (se * half)) := r3
    have fit : c.Fit (c.stB 1 half se half) (c.C :: c.as (se * half)) := by
      have := fitB c (par := 1) (by omega) (half := half) (by omega) hg (Nat.le_refl half)
      rw [Nat.sub_self] at this
      exact this
    by_cases hz : se = 0
    · right
      refine Run.end r2 (Run.end r3 ⟨fit, .inl ?_⟩)
      subst hz
      rw [Nat.zero_mul]
      show 1 < 2
      decide
    · left
      have hpos : 1 ≤ se * half := Nat.mul_pos (by omega) (by omega)
      have hn : nextSize (2 * half + 1) fi se = ((se * half + se - 1 : Nat) : Int) := by
        unfold nextSize
        rw [hc, hp, hhalf]
        have e3 : (se : Int) * ((half + 1 : Nat) : Int) = ((se * half : Nat) : Int) + se := by rw [Int.natCast_add, Int.mul_add, Int.natCast_mul]; simp
        rw [e3]
        omega
      rw [hn]
      refine ⟨by omega, Run.run r2 (Run.run r3 ⟨fit, ?_, ?_⟩)⟩
      · rw [List.length_cons, as_len]; omega
      · show c.next fi se _ = _
        obtain ⟨j, hj⟩ : ∃ j, se * half = j + 1 := ⟨se * half - 1, by omega⟩
        rw [hj, as_succ]
        show c.as j ++ c.rule fi se c.C = _
        rw [rule_C c fi se h02 h12, as_add]
        congr 1
        simp
        omega
  · have hp0 : size % 2 = 0 := by omega
    have hc : cnt size fi se = fi := by unfold cnt; rw [if_neg hp]
    rw [hc, hp0]
    obtain ⟨half, rfl⟩ : ∃ half, size = 2 * half := ⟨size / 2, by omega⟩
    have hhalf : (2 * half) / 2 = half := by omega
    rw [hhalf, Nat.add_zero]
    left
    have r1 := runA c fi se hs half (by omega)
    rw [Nat.sub_self] at r1
    have r3 := runBe c fi se (half := half) (by omega) hf h01 half (Nat.le_refl _)
    rw [Nat.sub_self] at r3
    have hn : nextSize (2 * half) fi se = ((fi * half : Nat) : Int) := by
      unfold nextSize
      rw [hc, hp0, hhalf]
      simp
    rw [hn]
    exact ⟨by omega, Run.run r1 r3⟩
theorem it_ok {size : Nat} (hs : size ≤ 11) (hf : fi ≤ 3) (hg : se ≤ 3) (h01 : c.n0 ≠ c.n1) (h02 : c.n0 ≠ c.n2) (h12 : c.n1 ≠ c.n2) : ∀ k,
    (0 ≤ (c.it fi se size k).2 ∧ c.Run fi se (c.as size) (c.it fi se size k).1 (c.as (c.it fi se size k).2.toNat)) ∨ c.End fi se (c.as size) (c.it fi se size k).1
  | 0 => .inl ⟨by show 0 ≤ (size : Int); omega, rfl⟩
  | k + 1 => by
    have ih := it_ok hs hf hg h01 h02 h12 k
    show (0 ≤ (c.stp fi se (c.it fi se size k)).2 ∧ c.Run fi se (c.as size) (c.stp fi se (c.it fi se size k)).1 (c.as (c.stp fi se (c.it fi se size k)).2.toNat)) ∨ c.End fi se (c.as size) (c.stp fi se (c.it fi se size k)).1
    generalize c.it fi se size k = x at *
    obtain ⟨sts, z⟩ := x
    unfold Cfg.stp
    split
    · rename_i q
      dsimp only at *
      rcases ih with ⟨h0, r⟩ | e
      · rcases round_ok c fi se (size := z.toNat) (by omega) (by omega) hf hg h01 h02 h12 with ⟨h0', r'⟩ | e
        · exact .inl ⟨h0', Run.run r r'⟩
        · exact .inr (Run.end r e)
      · exact .inr (End.app e)
    · exact ih
theorem states_ok {size : Nat} (hs : size ≤ 11) (hf : fi ≤ 3) (hg : se ≤ 3) (h01 : c.n0 ≠ c.n1) (h02 : c.n0 ≠ c.n2) (h12 : c.n1 ≠ c.n2) : c.Ok fi se (c.as size) (c.states fi se size) := by
  have ih := it_ok c fi se hs hf hg h01 h02 h12 4
  have hle := it_le c hs hf hg 4
  unfold Cfg.states
  generalize c.it fi se size 4 = x at *
  obtain ⟨sts, z⟩ := x
  unfold Cfg.last
  dsimp only at *
  rcases ih with ⟨h0, r⟩ | e
  · rw [if_pos h0]
    refine Run.ok r ⟨⟨rfl, numOkL c _, by rw [as_len]; omega, fun x hx => .inl (mem_as c hx)⟩, fun _ => trivial⟩
  · split
    · exact End.ok e
    · have := End.ok (l₂ := []) e
      rwa [List.append_nil] at this
end
end Mine
end

section
open PySem PySem.W PyProof.Rows PySem.Calls
set_option maxRecDepth 100000
set_option maxHeartbeats 1000000
namespace Mine
section
variable {prog : Program} {w : World} {A : Around} {E : Value → Shared → Prop} {s : Shared} {Q : Value → Shared → Prop} {env : Env} {iter : Expr} {p₁ p₂ p₃ p₄ p₅ p₆ p₇ : Pos}
theorem vs_same {α : Type} {vs us : List α} (hlen : vs.length = us.length) (hP : ∀ (j : Nat) v, vs[j]? = some v → us[j]? = some v) : vs = us := by
  apply List.ext_getElem?
  intro j
  cases q : vs[j]? with
  | some v => exact (hP j v q).symm
  | none =>
    rw [List.getElem?_eq_none_iff] at q
    exact (List.getElem?_eq_none (by omega)).symm
theorem ords_of : ∀ (x : List Nat) {vs ys : List Value}, vs.length = x.length → (∀ j v, vs[j]? = some v → SignAt (T x) j v) → Paired (fun v y => ∀ c u, v = Value.str ⟨#[c]⟩ u → ∃ t, y = Value.int (c : Nat) t) vs ys → IntsAre ys (x.map fun c : Nat => (c : Int))
  | [], [], ys, _, _, hG => by cases hG; exact .nil
  | [], _ :: _, _, h, _, _ => by cases h
  | _ :: _, [], _, h, _, _ => by cases h
  | c :: x, v :: vs, ys, h, hP, hG => by
    cases hG with
    | cons a t =>
      obtain ⟨c', u, e, rfl⟩ := hP 0 v rfl
      obtain ⟨t', rfl⟩ := a c' u rfl
      have : c' = c := by simpa using e.symm
      subst this
      refine .cons _ _ (ords_of x (by simpa using h) (fun j v hv => ?_) t)
      obtain ⟨c₂, u₂, e₂, q⟩ := hP (j + 1) v hv
      exact ⟨c₂, u₂, by simpa using e₂, q⟩
/-- bytes([ord(letter) for letter in iter]) -/
theorem ordBytes {J : Shared → Prop} {x : List Nat} (hJ : ∀ s s', J s → Keeps s s' → J s') (hh : A.handled = none) (hB : ∀ s, J s → Base w s.heap) (h0 : J s) (hx : ∀ c ∈ x, c < 128) (hl : x.length ≤ 1000)
    (hev : wpAny (model prog w) A (eval iter env) (fun v s' => J s' ∧ ∃ t, v = .str (T x) t) E s) (h : ∀ s' t, J s' → Q (.bytes (x.map Nat.toUInt8).toArray t) s')
    (hs : ∀ x, foldedSetIterable iter env x = pure x := by intro _; rfl) (hg : env.globals = mainGlobals := by rfl) (hb : env.builtins = builtinsNs := by rfl) (hk : env.scope.kind = .function := by rfl) (hk' : env.kindOf "bytes" = some .globalImplicit := by rfl) :
    wpAny (model prog w) A (eval (.Call (.Name "bytes" p₁) [.ListComp (.Call (.Name "ord" p₂) [.Name "letter" p₃] [] p₄) [⟨.Name "letter" p₅, iter, [], 0⟩] ⟨.function, [(".0", .local), ("letter", .local), ("ord", .globalImplicit)], false, false, []⟩ p₆] [] p₇) env) Q E s := by
  have hsl : sizeLine = 16777216 := rfl
  refine Call_Name1 ?_
  refine nB' (hB _ h0) (b_bytes _) rfl (by decide) ?_ hg hb hk hk'
  refine cwT1 ?_
  refine lcE (cl := []) ?_ (hs := hs)
  refine wpAny_mono hev (fun v s₁ q => ?_) fun _ _ e => e
  obtain ⟨hJ₁, t, rfl⟩ := q
  have hsz : (T x).cps.size = x.length := by simp
  refine ⟨_, _, fun _ => true, fun _ _ v y => ∀ c u, v = Value.str ⟨#[c]⟩ u → ∃ t, y = Value.int (c : Nat) t, fun _ _ _ _ _ _ q => q, srcStr hh ?_, by omega, ?_, ?_⟩
  · simpa using hx
  · intro C i v s₃ m₃ Bb E hv hn hm hk₃ _
    refine ⟨wpAny_tests_nil ⟨rfl, kp_refl _⟩, fun _ => ?_⟩
    obtain ⟨c, u, e, rfl⟩ := hv
    refine Call_Name1 ?_
    refine nB' (hB _ (hJ _ _ hJ₁ hk₃)) (b_ord _) rfl (by decide) ?_ hg hb
    refine cwB1 ?_
    refine nC hn hm ?_
    refine P.ord_of_char ?_
    refine ⟨fun c₂ u₂ e => ?_, ⟨_, _, rfl, fun _ _ e => e⟩⟩
    have : c₂ = c := by
      have := congrArg (fun v => match v with | Value.str x _ => x.cps.toList | _ => []) e
      simpa using this.symm
    subst this
    exact ⟨_, rfl⟩
  · intro D _ s₃ ys vs _ _ hD hlen hP hG hk₃
    rw [List.filter_eq_self.mpr (fun _ _ => rfl)] at hG
    have hi := ords_of x (by omega) hP hG
    have hyl : ys.length = x.length := by rw [← PySem.Paired.length hG]; omega
    refine call_bytes_ints hD.isList hi (fun n hn => ?_) (by omega) hh fun h' t k hk₄ => ?_
    · obtain ⟨c, hc, rfl⟩ := List.mem_map.mp hn
      have := hx c hc
      omega
    · have e : byteArr (x.map fun c : Nat => (c : Int)) = (x.map Nat.toUInt8).toArray := by
        unfold byteArr
        rw [List.map_map]
        rfl
      rw [e]
      exact h _ t (hJ _ _ (hJ _ _ hJ₁ hk₃) ⟨h', k, rfl, hk₄⟩)
end
end Mine
end

section
open PySem PySem.W PyProof.Rows PySem.Calls
set_option maxRecDepth 100000
set_option maxHeartbeats 1000000
namespace Mine
open PySem.SeqAt (EqAt RcAt)
theorem get3 {α : Type} {x y z v : α} {i : Nat} (h : [x, y, z][i]? = some v) : (i = 0 ∧ v = x) ∨ (i = 1 ∧ v = y) ∨ (i = 2 ∧ v = z) := by
  match i, h with
  | 0, h => exact .inl ⟨rfl, by simpa using h.symm⟩
  | 1, h => exact .inr (.inl ⟨rfl, by simpa using h.symm⟩)
  | 2, h => exact .inr (.inr ⟨rfl, by simpa using h.symm⟩)
  | i + 3, h => simp at h
theorem apB_wd (n : Nat) : apB n = (wd n).map Nat.toUInt8 := by rw [apB, wd, List.map_map]; rfl
theorem wd_mem {n d : Nat} (h : d ∈ wd n) : 65 ≤ d ∧ d < 81 := by
  rw [wd_up] at h
  obtain ⟨e, he, rfl⟩ := List.mem_map.mp h
  have := dg_lt n e he
  exact ⟨Nat.le_add_right _ _, by omega⟩
theorem wd_tick (n : Nat) : 39 ∉ wd n := fun h => by have := (wd_mem h).1; omega
abbrev Cfg.NumsV (c : Cfg) (t0 t1 t2 : Tok) : List Value := [.int c.n0 t0, .int c.n1 t1, .int c.n2 t2]
noncomputable abbrev Cfg.NamsV (c : Cfg) (u0 u1 u2 : Tok) : List Value := [.str (T c.A) u0, .str (T c.B) u1, .str (T c.C) u2]
theorem numsV_get {c : Cfg} {t0 t1 t2 : Tok} {i : Nat} {v : Value} (h : (c.NumsV t0 t1 t2)[i]? = some v) : ∃ (n : Nat) (t : Tok), v = .int n t ∧ n < 256 := by
  rcases get3 h with ⟨_, rfl⟩ | ⟨_, rfl⟩ | ⟨_, rfl⟩
  · exact ⟨_, _, rfl, c.h0⟩
  · exact ⟨_, _, rfl, c.h1⟩
  · exact ⟨_, _, rfl, c.h2⟩
theorem namsV_get {c : Cfg} {u0 u1 u2 : Tok} {i : Nat} {v : Value} (h : (c.NamsV u0 u1 u2)[i]? = some v) : ∃ (n : Nat) (t : Tok), v = .str (T (wd n)) t ∧ n < 256 := by
  rcases get3 h with ⟨_, rfl⟩ | ⟨_, rfl⟩ | ⟨_, rfl⟩
  · exact ⟨_, _, rfl, c.h0⟩
  · exact ⟨_, _, rfl, c.h1⟩
  · exact ⟨_, _, rfl, c.h2⟩
/-- a fresh triple (None, None, name) -/
def Tri3 (h₀ : Heap) (B : Addr → Prop) (h : Heap) (v y : Value) : Prop := ∃ a, y = .ref a ∧ ¬ B a ∧ h₀.get? a = none ∧ IsTup h a #[.none, .none, v]
theorem Tri3.steady (h₀ : Heap) : Steady (Tri3 h₀) := by
  rintro B h h' v y k ⟨a, e, nb, hn, ht⟩
  exact ⟨a, e, nb, hn, isTup_at ht fun o q => k a o nb q⟩

set_option maxHeartbeats 4000000 in
theorem law_mid {prog : Program} {w : World} {A : Around} {E : Value → Shared → Prop} {s s₁ : Shared} {L ad an : Addr} {nm : Str} {cd : Value} {Q : Flow → Shared → Prop} {c : Cfg} {fi se sz : Nat} {t0 t1 t2 tf tg ts : Tok} {m : Str → Option Value}
    (B : Base w s.heap) (rm : Room A 3) (hm : LNm c fi se sz an tf tg ts m) (H : St s L m (fun h => h.IsList an (c.NumsV t0 t1 t2).toArray) s₁)
    (h : ∀ am u0 u1 u2 s' m', LNm c fi se sz an tf tg ts m' → m' "names" = some (.ref am) → St s L m' (fun h => h.IsList an (c.NumsV t0 t1 t2).toArray ∧ h.PlainList am (c.NamsV u0 u1 u2).toArray) s' →
      wpAny (model prog w) A (execs ((body w.params 64).drop 13) (envOf nm (fn w.params 64).scope L ad cd)) Q E s') :
    wpAny (model prog w) A (execs ((body w.params 64).drop 9) (envOf nm (fn w.params 64).scope L ad cd)) Q E s₁ := by
  have hsl : sizeLine = 16777216 := rfl
  have hap : ∀ {n : Nat}, n < 256 → (apB n).length ≤ 1000 := fun {n} hn => by rw [apB_wd, List.length_map]; have := wd_len_le hn; omega
  -- words
  refine wpAny_execs_cons (wpAny_Assign_Name (List_ (spl3 ?_)))
  refine Call_Name1 ?_
  refine nG H B (g_Int2AP _) ?_
  refine cwF1 rfl ?_
  refine subL (i := 0) H hm.numbers H.p rfl (by decide) ?_; intro s₂ H
  refine ⟨H.base B, wpAny_call (ap_call (H.base B) rm.less.less (by rw [Int.natAbs_natCast]; exact hap c.h0) ?_)⟩
  intro x0 s₂ k
  rw [Int.natAbs_natCast]
  replace H := H.keep k
  clear k
  show wpAny _ _ _ _ _ _
  refine Call_Name1 ?_
  refine nG H B (g_Int2AP _) ?_
  refine cwF1 rfl ?_
  refine wpAny_UnaryOp ?_
  refine subL (i := 1) H hm.numbers H.p rfl (by decide) ?_; intro s₂ H
  refine negI H ?_; intro s₂ _ H
  refine ⟨H.base B, wpAny_call (ap_call (H.base B) rm.less.less (by rw [Int.natAbs_neg, Int.natAbs_natCast]; exact hap c.h1) ?_)⟩
  intro x1 s₂ k
  rw [Int.natAbs_neg, Int.natAbs_natCast]
  replace H := H.keep k
  clear k
  show wpAny _ _ _ _ _ _
  refine Call_Name1 ?_
  refine nG H B (g_Int2AP _) ?_
  refine cwF1 rfl ?_
  refine subL (i := 2) H hm.numbers H.p rfl (by decide) ?_; intro s₂ H
  refine ⟨H.base B, wpAny_call (ap_call (H.base B) rm.less.less (by rw [Int.natAbs_natCast]; exact hap c.h2) ?_)⟩
  intro x2 s₂ k
  rw [Int.natAbs_natCast]
  replace H := H.keep k
  clear k
  show wpAny _ _ _ _ _ _
  refine newLst H (show 3 ≤ sizeLine by decide) ?_; intro aw s₂ _ H
  refine sL H ?_; intro s₂ H
  -- names
  refine wpAny_execs_cons (lcA (cl := []) (nL H hm.numbers ⟨H, ?_⟩))
  refine ⟨_, _, fun _ => true, fun _ _ v y => ∀ (n : Nat) t, v = Value.int n t → ∃ t', y = Value.str (T (wd n)) t', fun _ _ _ _ _ _ q => q, srcList rm.hh H.p.1, show 3 ≤ sizeLine by decide, ?_, ?_⟩
  · intro C i v s₃ m₃ Bb E hv hn hm hk _
    refine ⟨wpAny_tests_nil ⟨rfl, kp_refl _⟩, fun _ => ?_⟩
    obtain ⟨n, t, rfl, hn'⟩ := numsV_get hv
    have hB : Base w s₃.heap := (H.keep hk).base B
    refine Call_Name1 ?_
    refine nG' hB (g_word _) ?_
    refine cwF1 rfl ?_
    refine nC hn hm ?_
    refine ⟨hB, wpAny_call (word_call hB rm.less.less hn' ?_)⟩
    intro t' s₄ k
    refine ⟨fun n₂ t₂ e => ?_, k⟩
    cases Int.ofNat.inj (by injection e : Int.ofNat n = Int.ofNat n₂)
    exact ⟨_, rfl⟩
  intro am _ s₃ ys vs _ _ ham hlen hP hG hk
  have e := vs_same (us := c.NumsV t0 t1 t2) hlen hP
  subst e
  rw [List.filter_eq_self.mpr (fun _ _ => rfl)] at hG
  obtain ⟨u0, u1, u2, rfl⟩ : ∃ u0 u1 u2, ys = c.NamsV u0 u1 u2 := by
    cases hG with
    | cons a hG =>
      cases hG with
      | cons b hG =>
        cases hG with
        | cons d hG =>
          cases hG
          obtain ⟨u0, rfl⟩ := a _ _ rfl
          obtain ⟨u1, rfl⟩ := b _ _ rfl
          obtain ⟨u2, rfl⟩ := d _ _ rfl
          exact ⟨u0, u1, u2, rfl⟩
  clear hG hP hlen H
  intro s₄ H sub
  replace H := H.more (Stable.plain am _) (Stable.plain am _ _ _ sub ham)
  clear sub ham hk
  -- words != ..
  refine wpAny_execs_cons (wpAny_If ?_)
  refine wpAny_isTrue_Compare1 ?_
  refine nL H rfl ?_
  refine lcE (cl := []) ?_
  refine nL H rfl ?_
  refine ⟨_, _, fun _ => true, fun _ _ v y => ∀ r t, v = Value.str (T r) t → ∃ t', y = Value.bytes (r.map Nat.toUInt8).toArray t', fun _ _ _ _ _ _ q => q, srcList rm.hh H.p.2.isList, show 3 ≤ sizeLine by decide, ?_, ?_⟩
  · intro C i v s₃ m₃ Bb E hv hn hm hk _
    refine ⟨wpAny_tests_nil ⟨rfl, kp_refl _⟩, fun _ => ?_⟩
    obtain ⟨n, t, rfl, hn'⟩ := namsV_get hv
    have hB : Base w s₃.heap := (H.keep hk).base B
    have hwl := wd_len_le hn'
    refine ordBytes (J := Keeps s₃) (x := wd n) (fun _ _ => kp_trans) rm.hh (fun s' k => hB.keeps (kp_heap k)) (kp_refl _) (fun d hd => by have := (wd_mem hd).2; omega) (by omega) ?_ ?_
    · refine nC hn hm ?_
      exact ⟨kp_refl _, _, rfl⟩
    · intro s₅ t₅ k
      refine ⟨fun r t₂ e => ?_, k⟩
      cases str_inj e
      exact ⟨_, rfl⟩
  intro ab _ s₅ ys vs _ _ hab hlen hP hG hk
  have e := vs_same (us := c.NamsV u0 u1 u2) hlen hP
  subst e
  rw [List.filter_eq_self.mpr (fun _ _ => rfl)] at hG
  obtain ⟨y0, y1, y2, rfl⟩ : ∃ y0 y1 y2, ys = [.bytes (apB c.n0).toArray y0, .bytes (apB c.n1).toArray y1, .bytes (apB c.n2).toArray y2] := by
    cases hG with
    | cons a hG =>
      cases hG with
      | cons b hG =>
        cases hG with
        | cons d hG =>
          cases hG
          obtain ⟨u0, rfl⟩ := a _ _ rfl
          obtain ⟨u1, rfl⟩ := b _ _ rfl
          obtain ⟨u2, rfl⟩ := d _ _ rfl
          rw [apB_wd, apB_wd, apB_wd]
          exact ⟨u0, u1, u2, rfl⟩
  clear hG hP hlen
  replace H := H.keep hk
  clear hk
  refine neL (e := fun _ => true) H.p.1.2.isList hab.isList rfl rm.un ?_ ?_
  · intro j v w' hv hw
    have key : ∀ (x : List UInt8) (t u : Tok), EqAt A.in1 s₅ (.bytes x.toArray t) (.bytes x.toArray u) true := fun x t u => by
      have := eqAt_bytes (A := A.in1) (s := s₅) x x t u
      rwa [beq_self_eq_true] at this
    rcases get3 hv with ⟨rfl, rfl⟩ | ⟨rfl, rfl⟩ | ⟨rfl, rfl⟩
    · cases hw; exact key _ _ _
    · cases hw; exact key _ _ _
    · cases hw; exact key _ _ _
  refine wpAny_truthy_bool ?_
  rw [if_neg (by simp)]
  refine wpAny_execs_nil ?_
  replace H := H.now (P' := fun h => h.IsList an (c.NumsV t0 t1 t2).toArray ∧ h.PlainList am (c.NamsV u0 u1 u2).toArray) (Stable.and (Stable.isList _ _) (Stable.plain _ _)) ⟨H.p.1.1, H.p.2⟩
  clear hab
  -- decode
  refine wpAny_execs_cons (wpAny_If ?_)
  refine wpAny_isTrue_Compare1 ?_
  refine lcE (cl := []) ?_
  refine nL H rfl ?_
  refine ⟨_, _, fun _ => true, Tri3 s₅.heap, Tri3.steady _, srcList rm.hh H.p.2.isList, show 3 ≤ sizeLine by decide, ?_, ?_⟩
  · intro C i v s₃ m₃ Bb E hv hn hm hk alive
    refine ⟨wpAny_tests_nil ⟨rfl, kp_refl _⟩, fun _ => ?_⟩
    obtain ⟨n, t, rfl, hn'⟩ := namsV_get hv
    have hB : Base w s₃.heap := (H.keep hk).base B
    have hwl := wd_len_le hn'
    refine Call_Name1 ?_
    refine nG' hB (g_decode _) ?_
    refine cwF1 rfl ?_
    refine nC hn hm ?_
    refine ⟨hB, wpAny_call (decode_call hB rm.less.less (by rw [T_len]; omega) ?_)⟩
    intro y s₄ k hd
    have e : (Txt.splitMax (T (wd n)) "'" 2).length ≤ 2 := by rw [Pl.split_none (wd_tick n)]; show 1 ≤ 2; decide
    unfold DecOut at hd
    rw [if_pos e] at hd
    obtain ⟨a, rfl, ha, ht⟩ := hd
    refine ⟨⟨a, rfl, fun hb => ?_, ?_, ht⟩, k⟩
    · obtain ⟨o, e⟩ := alive a hb
      rw [ha] at e; cases e
    · cases e : s₅.heap.get? a with
      | none => rfl
      | some o => have := kp_heap hk a o e; rw [ha] at this; cases this
  intro a₁ B₁ s₆ ys vs _ _ ha₁ hlen hP hG hk
  have e := vs_same (us := c.NamsV u0 u1 u2) hlen hP
  subst e
  rw [List.filter_eq_self.mpr (fun _ _ => rfl)] at hG
  replace H := H.keep hk
  clear hlen hP hk
  refine lcE (cl := []) ?_
  refine nL H rfl ?_
  refine ⟨_, _, fun _ => true, Tri3 s₆.heap, Tri3.steady _, srcList rm.hh H.p.2.isList, show 3 ≤ sizeLine by decide, ?_, ?_⟩
  · intro C i v s₃ m₃ Bb E hv hn hm hk alive
    refine ⟨wpAny_tests_nil ⟨rfl, kp_refl _⟩, fun _ => ?_⟩
    refine Tuple_ (spl3 ?_)
    refine cN (cN ?_)
    refine nC hn hm ?_
    refine wpAny_newObj_type ?_ (by show 3 ≤ sizeLine; decide)
    have hf := fresh_none (h := s₃.heap) (Nat.le_refl _)
    refine ⟨⟨_, rfl, fun hb => ?_, ?_, IsTup.new _ _⟩, ⟨_, _, rfl, fun b o e => Heap.get?_push_of_some _ e⟩⟩
    · obtain ⟨o, e⟩ := alive _ hb
      rw [hf] at e; cases e
    · cases e : s₆.heap.get? s₃.heap.objs.size with
      | none => rfl
      | some o => have := kp_heap hk _ o e; rw [hf] at this; cases this
  intro a₂ B₂ s₇ zs vs _ _ ha₂ hlen hP hG₂ hk
  have e := vs_same (us := c.NamsV u0 u1 u2) hlen hP
  subst e
  rw [List.filter_eq_self.mpr (fun _ _ => rfl)] at hG₂
  replace H := H.keep hk
  have hl₁ : s₇.heap.IsList a₁ ys.toArray := Stable.isList _ _ _ _ (Sub.of_le (kp_heap hk)) ha₁.isList
  have hy3 := PySem.Paired.length hG
  have hz3 := PySem.Paired.length hG₂
  have hlen3 : (List.range ys.length).all (fun _ => true) = true := by simp
  refine neL (e := fun _ => true) hl₁ ha₂.isList (by omega) rm.un ?_ ?_
  · intro j v w' hv hw
    have key : ∀ u, Tri3 s₅.heap B₁ s₆.heap u v → Tri3 s₆.heap B₂ s₇.heap u w' → EqAt A.in1 s₇ v w' true := by
      rintro u ⟨a, rfl, _, _, ht⟩ ⟨b, rfl, _, hb, ht'⟩
      have hne : a ≠ b := by rintro rfl; obtain ⟨o, e, _⟩ := ht; rw [hb] at e; cases e
      have ht : IsTup s₇.heap a #[.none, .none, u] := Stable.isTup _ _ _ _ (Sub.of_le (kp_heap hk)) ht
      refine eqAt_tup (vs := [.none, .none, u]) (ws := [.none, .none, u]) (e := fun _ => true) ht ht' rfl hne rm.in1.un ?_
      intro j v w' hv hw
      rw [hv] at hw
      cases hw
      exact EqAt.same v
    have pick : ∀ {α β γ : Type} {F : α → β → Prop} {G : α → γ → Prop} {l : List α} {l₁ : List β} {l₂ : List γ} {j : Nat} {x : β} {y : γ}, Paired F l l₁ → Paired G l l₂ → l₁[j]? = some x → l₂[j]? = some y → ∃ u, F u x ∧ G u y := by
      intro α β γ F G l l₁ l₂ j x y h1
      induction h1 generalizing l₂ j with
      | nil => intro _ e; simp at e
      | cons a t ih =>
        intro h2 e e'
        cases h2 with
        | cons b t' =>
          cases j with
          | zero => simp at e e'; subst e; subst e'; exact ⟨_, a, b⟩
          | succ j => exact ih t' (by simpa using e) (by simpa using e')
    obtain ⟨u, q, q'⟩ := pick hG hG₂ hv hw
    exact key u q q'
  refine wpAny_truthy_bool ?_
  rw [if_neg (by simp)]
  refine wpAny_execs_nil ?_
  refine h am u0 u1 u2 s₇ _ ?_ ?_ H
  · exact ⟨hm.numbers, hm.first, hm.second, hm.size⟩
  · rfl
end Mine
end

section
open PySem PySem.W PyProof.Rows PySem.Calls
set_option maxRecDepth 100000
set_option maxHeartbeats 1000000
namespace Mine
open PySem.SeqAt (EqAt RcAt)
/-- the three rules -/
def Rls (c : Cfg) (fi se : Nat) (ar : Addr) (h : Heap) : Prop := ∃ r0 r1 r2, h.IsList ar [Value.ref r0, .ref r1, .ref r2].toArray ∧ IsRow r0 [c.B, c.C] h ∧ IsRow r1 (c.as fi) h ∧ IsRow r2 (c.as se) h
theorem Seqy.rls (c : Cfg) (fi se : Nat) (ar : Addr) : Seqy (Rls c fi se ar) :=
  Seqy.ex fun _ => Seqy.ex fun _ => Seqy.ex fun _ => Seqy.and (Seqy.isList _ _) (Seqy.and (Seqy.isRow _ _) (Seqy.and (Seqy.isRow _ _) (Seqy.isRow _ _)))
theorem Seqy.pairs (sts : List State) (vs : List Value) : Seqy fun h => Paired (IsState h) sts vs := fun _ _ s hp => Paired.imp (fun _ _ => IsState.mono s) hp
theorem Paired.get' {α β : Type} {F : α → β → Prop} : ∀ {l₁ : List α} {l₂ : List β}, Paired F l₁ l₂ → ∀ {i : Nat} {y : β}, l₂[i]? = some y → ∃ x, l₁.drop i = x :: l₁.drop (i + 1) ∧ F x y
  | _, _, .nil, _, _, h => by simp at h
  | _, _, .cons h t, i, y, e => by
    cases i with
    | zero => simp at e; subst e; exact ⟨_, rfl, h⟩
    | succ i =>
      obtain ⟨x, hx, q⟩ := Paired.get' t (i := i) (y := y) (by simpa using e)
      exact ⟨x, by simpa using hx, q⟩
theorem line_len {r : List (List Nat)} (h : ∀ x ∈ r, x.length ≤ 2) : (lineOf r).length ≤ 3 * r.length := by
  induction r with
  | nil => simp [lineOf]
  | cons x r ih =>
    have := ih fun y hy => h y (List.mem_cons_of_mem _ hy)
    have h2 := h x List.mem_cons_self
    unfold lineOf at this ⊢
    simp only [List.map_cons, List.flatten_cons, List.length_append, List.length_cons, List.length_nil]
    omega
theorem line_app (r r' : List (List Nat)) : lineOf r ++ lineOf r' = lineOf (r ++ r') := by
  unfold lineOf
  rw [List.map_append, List.flatten_append]
theorem flat_len {r : List (List Nat)} (h : ∀ x ∈ r, x.length ≤ 2) : r.flatten.length ≤ 2 * r.length := by
  induction r with
  | nil => simp
  | cons x r ih =>
    have := ih fun y hy => h y (List.mem_cons_of_mem _ hy)
    have h2 := h x List.mem_cons_self
    simp only [List.flatten_cons, List.length_append, List.length_cons]
    omega
/-- a name of the three, as a text -/
def Nam (c : Cfg) (x : List Nat) : Prop := x = c.A ∨ x = c.B ∨ x = c.C
theorem Nam.len {c : Cfg} {x : List Nat} (h : Nam c x) : x.length ≤ 2 := by
  rcases h with rfl | rfl | rfl
  · exact wd_len_le c.h0
  · exact wd_len_le c.h1
  · exact wd_len_le c.h2
theorem Nam.tick {c : Cfg} {x : List Nat} (h : Nam c x) : 39 ∉ x := by
  rcases h with rfl | rfl | rfl <;> exact wd_tick _
theorem Nam.low {c : Cfg} {x : List Nat} (h : Nam c x) {d : Nat} (hd : d ∈ x) : d < 128 := by
  rcases h with rfl | rfl | rfl <;> (have := (wd_mem hd).2; omega)
def isNam (x : List Nat) (v : Value) : Bool := match v with | .str y _ => y == T x | _ => false
theorem T_beq (a b : List Nat) : (T a == T b) = decide (a = b) := by
  by_cases h : a = b
  · subst h; simp
  · rw [decide_eq_false h]
    have : T a ≠ T b := fun e => h (by have := congrArg (fun x : Str => x.cps.toList) e; simpa using this)
    exact beq_eq_false_iff_ne.mpr this
/-- which rule a name picks -/
theorem rule_pick {c : Cfg} {fi se : Nat} {h : Heap} {u0 u1 u2 : Tok} {x : List Nat} (h01 : c.n0 ≠ c.n1) (h02 : c.n0 ≠ c.n2) (h12 : c.n1 ≠ c.n2) (hx : Nam c x) {r0 r1 r2 : Addr}
    (q0 : IsRow r0 [c.B, c.C] h) (q1 : IsRow r1 (c.as fi) h) (q2 : IsRow r2 (c.as se) h) :
    ∃ j v rr, (c.NamsV u0 u1 u2)[j]? = some v ∧ j < 1000 ∧ isNam x v = true ∧ (∀ i u, i < j → (c.NamsV u0 u1 u2)[i]? = some u → isNam x u = false) ∧ [Value.ref r0, .ref r1, .ref r2][j]? = some (.ref rr) ∧ IsRow rr (c.rule fi se x) h := by
  have hne : ∀ {a b : Nat}, a ≠ b → (T (wd a) == T (wd b)) = false := fun {a b} hab => by rw [T_beq]; exact decide_eq_false fun e => hab (wd_inj e)
  rcases hx with rfl | rfl | rfl
  · refine ⟨0, _, r0, rfl, by decide, ?_, fun i u hi => by omega, rfl, ?_⟩
    · exact beq_self_eq_true _
    · rw [rule_A]; exact q0
  · refine ⟨1, _, r1, rfl, by decide, ?_, fun i u hi e => ?_, rfl, ?_⟩
    · exact beq_self_eq_true _
    · rcases get3 e with ⟨rfl, rfl⟩ | ⟨rfl, rfl⟩ | ⟨rfl, rfl⟩
      · exact hne h01
      · omega
      · omega
    · rw [rule_B c fi se h01]; exact q1
  · refine ⟨2, _, r2, rfl, by decide, ?_, fun i u hi e => ?_, rfl, ?_⟩
    · exact beq_self_eq_true _
    · rcases get3 e with ⟨rfl, rfl⟩ | ⟨rfl, rfl⟩ | ⟨rfl, rfl⟩
      · exact hne h02
      · exact hne h12
      · omega
    · rw [rule_C c fi se h02 h12]; exact q2
theorem rule_nam {c : Cfg} {fi se : Nat} {x : List Nat} : ∀ y ∈ c.rule fi se x, Nam c y := by
  intro y hy
  unfold Cfg.rule at hy
  split at hy
  · simp at hy; rcases hy with rfl | rfl
    · exact .inr (.inl rfl)
    · exact .inr (.inr rfl)
  · split at hy
    · exact .inl (by simpa using mem_rep hy)
    · exact .inl (by simpa using mem_rep hy)
theorem rule_len {c : Cfg} {fi se : Nat} {x : List Nat} (hf : fi ≤ 3) (hg : se ≤ 3) : (c.rule fi se x).length ≤ 3 := by
  unfold Cfg.rule
  split
  · show 2 ≤ 3; decide
  · split
    · simpa using hf
    · simpa using hg
/-- the names of the loop -/
structure LpN (am ar : Addr) (m : Str → Option Value) : Prop where
  names : m "names" = some (.ref am)
  rules : m "rules" = some (.ref ar)
def LpV (c : Cfg) (fi se : Nat) (rest : List State) (m : Str → Option Value) : Prop :=
  (∃ sg t, m "sign" = some (.int sg t) ∧ (sg = 1 ∨ sg = -1)) ∧ ∃ r t, m "line" = some (.str (T (lineOf r)) t) ∧ c.Ok fi se r rest
def LpH (c : Cfg) (fi se : Nat) (am ar : Addr) (u0 u1 u2 : Tok) (sts : List State) (vs : List Value) (h : Heap) : Prop := h.PlainList am (c.NamsV u0 u1 u2).toArray ∧ Rls c fi se ar h ∧ Paired (IsState h) sts vs
theorem Seqy.lpH (c : Cfg) (fi se : Nat) (am ar : Addr) (u0 u1 u2 : Tok) (sts : List State) (vs : List Value) : Seqy (LpH c fi se am ar u0 u1 u2 sts vs) := Seqy.and (Seqy.plain _ _) (Seqy.and (Seqy.rls _ _ _ _) (Seqy.pairs _ _))
def Inv (c : Cfg) (fi se : Nat) (am ar : Addr) (u0 u1 u2 : Tok) (sts : List State) (vs : List Value) (k : Nat) (m : Str → Option Value) (h : Heap) : Prop := (LpN am ar m ∧ LpV c fi se (sts.drop k) m) ∧ LpH c fi se am ar u0 u1 u2 sts vs h
theorem Seqy.inv (c : Cfg) (fi se : Nat) (am ar : Addr) (u0 u1 u2 : Tok) (sts : List State) (vs : List Value) (k : Nat) (m : Str → Option Value) : Seqy (Inv c fi se am ar u0 u1 u2 sts vs k m) := Seqy.and (Seqy.const _) (Seqy.lpH _ _ _ _ _ _ _ _ _ _)
noncomputable def loopBody (P : Params) : List Stmt := match (body P 64).drop 16 with
  | .For _ _ b _ _ :: _ => b
  | _ => []
end Mine
end

section
open PySem PySem.W PyProof.Rows PySem.Calls
set_option maxRecDepth 100000
set_option maxHeartbeats 1000000
namespace Mine
open PySem.SeqAt (EqAt RcAt)
set_option maxHeartbeats 4000000 in
theorem law_turn {prog : Program} {w : World} {A : Around} {E : Value → Shared → Prop} {s s₁ : Shared} {L ad am ar : Addr} {nm : Str} {cd : Value} {Q : Flow → Shared → Prop} {c : Cfg} {fi se i : Nat} {u0 u1 u2 : Tok} {m : Str → Option Value}
    {sts : List State} {vs : List Value} {v : Value} {It : Heap → Prop} {p₁ p₂ p₃ : Pos}
    (B : Base w s.heap) (rm : Room A 3) (h01 : c.n0 ≠ c.n1) (h02 : c.n0 ≠ c.n2) (h12 : c.n1 ≠ c.n2) (hf : fi ≤ 3) (hg : se ≤ 3) (hIt : Stable It) (hv : vs[i]? = some v)
    (H : St s L m (fun h => Inv c fi se am ar u0 u1 u2 sts vs i m h ∧ It h) s₁)
    (hnext : ∀ m' s', St s L m' (fun h => Inv c fi se am ar u0 u1 u2 sts vs (i + 1) m' h ∧ It h) s' → Q .next s')
    (hret : ∀ m' P' s', St s L m' P' s' → Q (.ret (.bool true)) s') :
    wpAny (model prog w) A (assign (.Tuple [.Name "number" p₁, .Name "row" p₂] 0 p₃) (envOf nm (fn w.params 64).scope L ad cd) v) (fun _ s₂ => wpAny (model prog w) A (execs (loopBody w.params) (envOf nm (fn w.params 64).scope L ad cd)) Q E s₂) E s₁ := by
  have hsl : sizeLine = 16777216 := rfl
  obtain ⟨⟨⟨hmn, hmv⟩, hH⟩, _⟩ := H.p
  obtain ⟨⟨sg, tsg, hms, hsg⟩, r, tl, hml, hok⟩ := hmv
  obtain ⟨st, hdrop, hst⟩ := Paired.get' hH.2.2 hv
  rw [hdrop] at hok
  obtain ⟨⟨hr2, hnum, hrl, hrn⟩, hok⟩ := hok
  obtain ⟨a, tn, rr, rfl, htup, hrow⟩ := hst
  rw [hr2] at hrow
  have hnam : ∀ x ∈ r, Nam c x := hrn
  have hlen2 : ∀ x ∈ r, x.length ≤ 2 := fun x hx => (hnam x hx).len
  have hll := line_len hlen2
  have hfl := flat_len hlen2
  replace H := ((H.now (P' := fun h => LpH c fi se am ar u0 u1 u2 sts vs h ∧ It h) (Stable.and (Seqy.lpH _ _ _ _ _ _ _ _ _ _).stable hIt) ⟨hH, H.p.2⟩).more (Stable.isTup _ _) htup).more (Stable.isRow _ _) hrow
  clear hH htup hrow
  refine unp2 rm.hh H H.p.1.2 ?_; intro s₂ H
  -- sign = -sign
  refine wpAny_execs_cons (wpAny_Assign_Name (wpAny_UnaryOp ?_))
  refine nL H hms ?_
  refine negI H ?_; intro s₂ ts H
  refine sL H ?_; intro s₂ H
  -- Int2AP(sign * number) != bytes(..)
  refine wpAny_execs_cons (wpAny_If ?_)
  refine wpAny_isTrue_Compare1 ?_
  refine Call_Name1 ?_
  refine nG H B (g_Int2AP _) ?_
  refine cwF1 rfl ?_
  refine wpAny_BinOp ?_
  refine nL H rfl ?_
  refine nL H rfl ?_
  refine mulI H (IntMulOk.of_left (by rcases hsg with rfl | rfl <;> decide)) ?_; intro s₂ _ H
  have hab : (-sg * (st.1 : Int)).natAbs = st.1 := by rcases hsg with rfl | rfl <;> omega
  have hnum' : apB st.1 = r.flatten.map Nat.toUInt8 := by rw [← hr2]; exact hnum
  refine ⟨H.base B, wpAny_call (ap_call (H.base B) rm.less.less (by rw [hab, hnum', List.length_map]; omega) ?_)⟩
  intro x0 s₂ k
  rw [hab, hnum']
  replace H := H.keep k
  clear k
  show wpAny _ _ _ _ _ _
  refine ordBytes (x := r.flatten) (fun s s' q k => St.keep q k) rm.hh (fun s' q => St.base q B) H ?_ (by omega) ?_ ?_
  · intro d hd
    obtain ⟨x, hx, hd⟩ := List.mem_flatten.mp hd
    exact (hnam x hx).low hd
  · refine Call_method1 rfl rfl rfl ?_
    refine cS H ?_; intro s₂ t₁ H
    refine methStr F.slot_str_join (by first | rfl | kernel_rfl) ?_
    refine cwB1 ?_
    refine nL H rfl ?_
    show wpAny _ _ (call (.builtin "str.join") [.str (Str.ofString "") t₁, .ref rr]) _ _ _
    rw [T_nil]
    refine joinR (B := 2) H H.p.2 hlen2 (by omega) ?_
    intro s₂ t H
    exact ⟨H, t, rfl⟩
  clear H
  intro s₂ x1 H
  refine ne_bytes ?_
  refine wpAny_truthy_bool ?_
  rw [if_neg (by simp)]
  refine wpAny_execs_nil ?_
  -- parts
  refine wpAny_execs_cons (wpAny_Assign_Name ?_)
  refine Call_Name1 ?_
  refine nG H B (g_decode _) ?_
  refine cwF1 rfl ?_
  refine nL H hml ?_
  refine ⟨H.base B, wpAny_call (decode_call (H.base B) rm.less.less (by rw [T_len]; omega) ?_)⟩
  intro y s₃ k hd
  replace H := H.keep k
  clear k
  show wpAny _ _ _ _ _ _
  unfold DecOut at hd
  have hwl : ∀ {h : Heap}, IsRow rr r h → ∃ ws, h.IsList rr ws.toArray ∧ Strs r ws ∧ ws.length = r.length := fun ⟨ws, hl, hs⟩ => ⟨ws, hl, hs, hs.length.symm⟩
  by_cases hlt : r.length < 2
  case pos =>
    have hsp : (Txt.splitMax (T (lineOf r)) "'" 2).length ≤ 2 := by
      match r, hlt, hnam with
      | [], _, _ => rw [show lineOf [] = [] from rfl, Pl.split_none (by simp)]; show 1 ≤ 2; decide
      | [x], _, hnam =>
        rw [show lineOf [x] = x ++ [39] by simp [lineOf]]
        exact Pl.split_one (hnam x List.mem_cons_self).tick
      | _ :: _ :: _, hlt, _ => simp at hlt; omega
    rw [if_pos hsp] at hd
    obtain ⟨ap, rfl, _, htp⟩ := hd
    replace H := H.more (Stable.isTup _ _) htp
    clear htp
    refine sL H ?_; intro s₃ H
    refine wpAny_execs_cons (wpAny_If ?_)
    refine wpAny_isTrue_Compare1 ?_
    refine Call_Name1 ?_
    refine nB H B (b_len _) rfl (by decide) ?_
    refine cwB1 ?_
    refine nL H rfl ?_
    obtain ⟨ws, hl, hs, hwr⟩ := hwl H.p.1.2
    refine lenL H hl (by omega) ?_; intro s₃ _ H
    refine cI H ?_; intro s₃ _ H
    refine PyProof.Rows.lt_int ?_
    refine wpAny_truthy_bool ?_
    rw [if_pos (by simp; omega)]
    refine wpAny_execs_cons (wpAny_Return_some ?_)
    refine wpAny_Compare1 ?_
    refine nL H rfl ?_
    refine Tuple_ (spl3 ?_)
    refine cN (cN ?_)
    refine Call_Name1 ?_
    refine nG H B (g_line _) ?_
    refine cwF1 rfl ?_
    refine nL H rfl ?_
    refine ⟨H.base B, wpAny_call (line_call (H.base B) rm.less.less H.p.1.2 (fun x hx => by have := hlen2 x hx; omega) (by omega) ?_)⟩
    intro tz s₄ k
    replace H := H.keep k
    clear k
    show wpAny _ _ _ _ _ _
    refine newTup H (show 3 ≤ sizeLine by decide) ?_; intro az s₄ _ H
    refine eqT (vs := [.none, .none, .str (T (lineOf r)) tl]) (ws := [.none, .none, .str (T (lineOf r)) tz]) (e := fun _ => true) H.p.1.2 H.p.2 rfl rm.un ?_ ?_
    · intro j v w' hv hw
      rcases get3 hv with ⟨rfl, rfl⟩ | ⟨rfl, rfl⟩ | ⟨rfl, rfl⟩
      · cases hw; exact EqAt.same _
      · cases hw; exact EqAt.same _
      · cases hw
        have := EqAt.str_str (A := A.in1) (s := s₄) (T (lineOf r)) tl (T (lineOf r)) tz
        rwa [beq_self_eq_true] at this
    · exact hret _ _ _ H
  obtain ⟨x0, x1', rest, rfl⟩ : ∃ x0 x1 rest, r = x0 :: x1 :: rest := by
    match r, hlt with
    | [], hlt => simp at hlt
    | [_], hlt => simp at hlt
    | x0 :: x1 :: rest, _ => exact ⟨_, _, _, rfl⟩
  have hn0 : Nam c x0 := hnam x0 List.mem_cons_self
  have hn1 : Nam c x1' := hnam x1' (List.mem_cons_of_mem _ List.mem_cons_self)
  have hsp : Txt.splitMax (T (lineOf (x0 :: x1' :: rest))) "'" 2 = [T x0, T x1', T (lineOf rest)] := by
    have := Pl.split_two (r := lineOf rest) hn0.tick hn1.tick
    rw [show lineOf (x0 :: x1' :: rest) = x0 ++ [39] ++ (x1' ++ [39] ++ lineOf rest) by simp [lineOf]]
    exact this
  rw [hsp, if_neg (by show ¬ 3 ≤ 2; decide)] at hd
  obtain ⟨ap, l, rfl, hlp, hle⟩ := hd
  obtain ⟨v0, v1, v2, hlv⟩ : ∃ v0 v1 v2, strValues l = [Value.str (T x0) v0, .str (T x1') v1, .str (T (lineOf rest)) v2] := by
    match l, hle with
    | [(_, v0), (_, v1), (_, v2)], hle =>
      simp only [List.map_cons, List.map_nil, List.cons.injEq, and_true] at hle
      obtain ⟨rfl, rfl, rfl⟩ := hle
      exact ⟨v0, v1, v2, rfl⟩
  rw [hlv] at hlp
  clear hlv hle hsp
  replace H := H.more (Stable.isList _ _) hlp
  clear hlp
  refine sL H ?_; intro s₃ H
  refine wpAny_execs_cons (wpAny_If ?_)
  refine wpAny_isTrue_Compare1 ?_
  refine Call_Name1 ?_
  refine nB H B (b_len _) rfl (by decide) ?_
  refine cwB1 ?_
  refine nL H rfl ?_
  obtain ⟨ws, hl, hs, hwr⟩ := hwl H.p.1.2
  replace H := H.more (Stable.isList _ _) hl
  clear hl
  refine lenL H H.p.2 (by omega) ?_; intro s₃ _ H
  refine cI H ?_; intro s₃ _ H
  refine PyProof.Rows.lt_int ?_
  refine wpAny_truthy_bool ?_
  rw [if_neg (by simp; simp at hwr; omega)]
  refine wpAny_execs_nil ?_
  -- parts != [..]
  refine wpAny_execs_cons (wpAny_If ?_)
  refine wpAny_isTrue_Compare1 ?_
  refine nL H rfl ?_
  obtain ⟨b0, hb0⟩ := hs.get (i := 0) (r := x0) rfl
  obtain ⟨b1, hb1⟩ := hs.get (i := 1) (r := x1') rfl
  refine List_ (spl3 ?_)
  refine subL (i := 0) H rfl H.p.2 hb0 (by decide) ?_; intro s₃ H
  refine subL (i := 1) H rfl H.p.2 hb1 (by decide) ?_; intro s₃ H
  refine Call_Name1 ?_
  refine nG H B (g_line _) ?_
  refine cwF1 rfl ?_
  refine wpAny_Subscript_Slice list_getitem_lookup ?_
  refine nL H rfl ?_
  refine wpAny_Slice ?_
  rw [evalPart_some, evalPart_none]
  refine cI H ?_; intro s₃ _ H
  refine wpAny_pure ?_
  refine wpAny_pure ?_
  refine ⟨Heap.IsList.typeIs (items := ws.toArray) (H.p.2.push _), ?_⟩
  refine slcL H H.p.2 (.int _ _) .none .none (by decide) (by simp; omega) ?_
  intro D s₃ H
  have hD := H.p.2
  have e2 : slicePick ws.toArray (some 2) none none = (ws.drop 2).toArray := by
    have := slicePick_from' ws.toArray 2
    simpa using this
  rw [e2] at hD
  have hDr : IsRow D rest s₃.heap := ⟨_, hD, hs.drop 2⟩
  have hrest : ∀ x ∈ rest, x.length ≤ 2 := fun x hx => hlen2 x (List.mem_cons_of_mem _ (List.mem_cons_of_mem _ hx))
  simp only [List.length_cons] at hrl hwr hll hfl
  refine ⟨H.base B, wpAny_call (line_call (H.base B) rm.less.less hDr (fun x hx => by have := hrest x hx; omega) (by omega) ?_)⟩
  intro tz s₄ k
  replace H := H.keep k
  clear k hD hDr
  show wpAny _ _ _ _ _ _
  refine newLst H (show 3 ≤ sizeLine by decide) ?_; intro aq s₄ _ H
  refine neL (vs := [Value.str (T x0) v0, .str (T x1') v1, .str (T (lineOf rest)) v2]) (ws := [Value.str (T x0) b0, .str (T x1') b1, .str (T (lineOf rest)) tz]) (e := fun _ => true) H.p.1.1.1.2 H.p.2.isList rfl rm.un ?_ ?_
  · intro j v w' hv hw
    have key : ∀ (x : List Nat) (t u : Tok), EqAt A.in1 s₄ (.str (T x) t) (.str (T x) u) true := fun x t u => by
      have := EqAt.str_str (A := A.in1) (s := s₄) (T x) t (T x) u
      rwa [beq_self_eq_true] at this
    rcases get3 hv with ⟨rfl, rfl⟩ | ⟨rfl, rfl⟩ | ⟨rfl, rfl⟩
    · cases hw; exact key _ _ _
    · cases hw; exact key _ _ _
    · cases hw; exact key _ _ _
  refine wpAny_truthy_bool ?_
  rw [if_neg (by simp)]
  refine wpAny_execs_nil ?_
  replace H := H.now (P' := fun h => (LpH c fi se am ar u0 u1 u2 sts vs h ∧ It h) ∧ h.IsList ap [Value.str (T x0) v0, .str (T x1') v1, .str (T (lineOf rest)) v2].toArray) (Stable.and (Stable.and (Seqy.lpH _ _ _ _ _ _ _ _ _ _).stable hIt) (Stable.isList _ _)) ⟨H.p.1.1.1.1.1.1, H.p.1.1.1.2⟩
  -- line
  refine wpAny_execs_cons (wpAny_Assign_Name (wpAny_BinOp ?_))
  refine subL (i := 2) H rfl H.p.2 rfl (by decide) ?_; intro s₄ H
  refine Call_Name1 ?_
  refine nG H B (g_line _) ?_
  refine cwF1 rfl ?_
  refine Subscript_ ?_
  refine nL H hmn.rules ?_
  refine Call_method1 rfl rfl rfl ?_
  refine nL H hmn.names ?_
  refine methList F.slot_list_index F.type_list_index H.p.1.1.1 ?_
  refine cwB1 ?_
  refine subL (i := 0) H rfl H.p.2 rfl (by decide) ?_; intro s₄ H
  obtain ⟨r0, r1, r2, hrl0, q0, q1, q2⟩ := H.p.1.1.2.1
  obtain ⟨j, vj, rj, hj1, hj2, hj3, hj4, hj5, hj6⟩ := rule_pick (u0 := u0) (u1 := u1) (u2 := u2) h01 h02 h12 hn0 q0 q1 q2
  replace H := (H.more (Stable.isList _ _) hrl0).more (Stable.isRow _ _) hj6
  clear hrl0 hj6 q0 q1 q2
  refine indexR (e := isNam x0) H H.p.1.1.1.1.1 hj1 hj2 hj3 hj4 ?_ ?_
  · intro y hy
    have key : ∀ (x : List Nat) (t : Tok), EqAt A.in1 s₄ (.str (T x) t) (.str (T x0) v0) (isNam x0 (.str (T x) t)) := fun x t => EqAt.str_str (A := A.in1) (s := s₄) (T x) t (T x0) v0
    simp only [List.mem_cons, List.not_mem_nil, or_false] at hy
    rcases hy with rfl | rfl | rfl
    · exact key _ _
    · exact key _ _
    · exact key _ _
  intro s₄ tj H
  refine itemL H.p.1.2 hj5 (by omega) ?_
  have hrule := rule_len (c := c) (x := x0) hf hg
  refine ⟨H.base B, wpAny_call (line_call (H.base B) rm.less.less H.p.2 (fun x hx => by have := (rule_nam x hx).len; omega) (by omega) ?_)⟩
  intro tw s₅ k
  replace H := H.keep k
  clear k
  show wpAny _ _ _ _ _ _
  have hl1 := line_len hrest
  have hl2 := line_len (r := c.rule fi se x0) fun x hx => (rule_nam x hx).len
  refine PyProof.Rows.add_str (fun t' kk => ?_) (by rw [T_len, T_len, hsl]; omega)
  rw [T_app, line_app]
  replace H := H.toks kk
  refine sL H ?_; intro s₆ H
  refine wpAny_execs_nil ?_
  refine hnext _ _ (H.now (Stable.and (Seqy.inv _ _ _ _ _ _ _ _ _ _ _ _).stable hIt) ⟨⟨⟨⟨hmn.names, hmn.rules⟩, ⟨-sg, ts, rfl, by omega⟩, _, t', rfl, hok (by simp)⟩, H.p.1.1.1.1⟩, H.p.1.1.1.2⟩)
end Mine
end

section
open PySem PySem.W PyProof.Rows PySem.Calls
set_option maxRecDepth 100000
set_option maxHeartbeats 1000000
namespace Mine
theorem as_nam {c : Cfg} {k : Nat} : ∀ x ∈ c.as k, x.length ≤ 9 := fun x hx => by
  rw [mem_as c hx]
  have : c.A.length ≤ 2 := wd_len_le c.h0
  omega
set_option maxHeartbeats 4000000 in
theorem law_tail {prog : Program} {w : World} {A : Around} {E : Value → Shared → Prop} {s s₁ : Shared} {L ad an am : Addr} {nm : Str} {cd : Value} {Q : Flow → Shared → Prop} {c : Cfg} {fi se sz : Nat} {t0 t1 t2 tf tg ts u0 u1 u2 : Tok} {m : Str → Option Value}
    (B : Base w s.heap) (rm : Room A 3) (h01 : c.n0 ≠ c.n1) (h02 : c.n0 ≠ c.n2) (h12 : c.n1 ≠ c.n2) (hf : fi ≤ 3) (hg : se ≤ 3) (hz : sz ≤ 9)
    (hm : LNm c fi se sz an tf tg ts m) (hmn : m "names" = some (.ref am)) (H : St s L m (fun h => h.IsList an (c.NumsV t0 t1 t2).toArray ∧ h.PlainList am (c.NamsV u0 u1 u2).toArray) s₁)
    (hQ : ∀ m' P' s', St s L m' P' s' → Q (.ret (.bool true)) s') :
    wpAny (model prog w) A (execs ((body w.params 64).drop 13) (envOf nm (fn w.params 64).scope L ad cd)) Q E s₁ := by
  have hsl : sizeLine = 16777216 := rfl
  -- rules
  refine wpAny_execs_cons (wpAny_Assign_Name (List_ (spl3 ?_)))
  refine List_ (spl2 ?_)
  refine subL (i := 1) H hmn H.p.2.isList rfl (by decide) ?_; intro s₂ H
  refine subL (i := 2) H hmn H.p.2.isList rfl (by decide) ?_; intro s₂ H
  refine newLst H (show 2 ≤ sizeLine by decide) ?_; intro r0 s₂ _ H
  refine wpAny_BinOp ?_
  refine List_ (spl1 ?_)
  refine subL (i := 0) H hmn H.p.1.2.isList rfl (by decide) ?_; intro s₂ H
  refine newLst H (show 1 ≤ sizeLine by decide) ?_; intro r1' s₂ _ H
  refine nL H hm.first ?_
  refine mulL H H.p.2 (by show 1 * fi ≤ 2 ^ 24; omega) (by omega) ?_; intro r1 s₂ _ H
  refine wpAny_BinOp ?_
  refine List_ (spl1 ?_)
  refine subL (i := 0) H hmn H.p.1.1.1.2.isList rfl (by decide) ?_; intro s₂ H
  refine newLst H (show 1 ≤ sizeLine by decide) ?_; intro r2' s₂ _ H
  refine nL H hm.second ?_
  refine mulL H H.p.2 (by show 1 * se ≤ 2 ^ 24; omega) (by omega) ?_; intro r2 s₂ _ H
  refine newLst H (show 3 ≤ sizeLine by decide) ?_; intro ar s₂ _ H
  have hR : Rls c fi se ar s₂.heap := ⟨r0, r1, r2, H.p.2.isList, ⟨_, H.p.1.1.1.1.1.2.isList, Strs.two _ _ _ _⟩, ⟨_, H.p.1.1.1.2.isList, (Strs.one _ _).rep _⟩, ⟨_, H.p.1.2.isList, (Strs.one _ _).rep _⟩⟩
  have htwo : Two c an am t0 t1 t2 u0 u1 u2 s₂.heap := ⟨H.p.1.1.1.1.1.1.1, H.p.1.1.1.1.1.1.2.isList⟩
  replace H := H.now (P' := fun h => (Two c an am t0 t1 t2 u0 u1 u2 h ∧ h.PlainList am (c.NamsV u0 u1 u2).toArray) ∧ Rls c fi se ar h) (Seqy.stable (Seqy.and (Seqy.and (Seqy.two _ _ _ _ _ _ _ _ _) (Seqy.plain _ _)) (Seqy.rls _ _ _ _))) ⟨⟨htwo, H.p.1.1.1.1.1.1.2⟩, hR⟩
  clear hR htwo
  refine sL H ?_; intro s₂ H
  -- line
  refine wpAny_execs_cons (wpAny_Assign_Name ?_)
  refine Call_Name1 ?_
  refine nG H B (g_line _) ?_
  refine cwF1 rfl ?_
  refine wpAny_BinOp ?_
  refine List_ (spl1 ?_)
  refine subL (i := 0) H hmn H.p.1.2.isList rfl (by decide) ?_; intro s₂ H
  refine newLst H (show 1 ≤ sizeLine by decide) ?_; intro l₀ s₂ _ H
  refine nL H hm.size ?_
  refine mulL H H.p.2 (by show 1 * sz ≤ 2 ^ 24; omega) (by omega) ?_; intro l₁ s₂ _ H
  have hrow : IsRow l₁ (c.as sz) s₂.heap := ⟨_, H.p.2.isList, (Strs.one _ _).rep _⟩
  refine ⟨H.base B, wpAny_call (line_call (H.base B) rm.less.less hrow as_nam (by rw [as_len]; omega) ?_)⟩
  intro tl s₃ k
  replace H := (H.keep k).less (P' := fun h => (Two c an am t0 t1 t2 u0 u1 u2 h ∧ h.PlainList am (c.NamsV u0 u1 u2).toArray) ∧ Rls c fi se ar h) (Seqy.stable (Seqy.and (Seqy.and (Seqy.two _ _ _ _ _ _ _ _ _) (Seqy.plain _ _)) (Seqy.rls _ _ _ _))) fun _ q => q.1.1
  clear k hrow
  show wpAny _ _ _ _ _ _
  refine sL H ?_; intro s₂ H
  -- sign
  refine wpAny_execs_cons (wpAny_Assign_Name ?_)
  refine cI H ?_; intro s₂ tg' H
  refine sL H ?_; intro s₂ H
  -- the loop
  refine wpAny_execs_cons (wpAny_For ?_)
  refine Call_Name rfl ?_
  refine nG H B (g_states _) ?_
  refine cwF5 rfl ?_
  refine nL H hm.size ?_
  refine nL H hm.numbers ?_
  refine nL H hmn ?_
  refine nL H hm.first ?_
  refine nL H hm.second ?_
  refine ⟨H.base B, wpAny_call (states_call (H.base B) rm H.p.1.1 (by omega) hf hg ?_)⟩
  intro ls s₃ k hsts
  replace H := H.keep k
  clear k
  show wpAny _ _ _ _ _ _
  have hok := states_ok c fi se (size := sz) (by omega) hf hg h01 h02 h12
  generalize c.states fi se sz = sts at hok hsts
  obtain ⟨vs, hl, hp⟩ := hsts
  refine forR (fun _ q => q) H (srcFList rm.hh hl) (Inv c fi se am ar u0 u1 u2 sts vs) (fun k m => Seqy.inv _ _ _ _ _ _ _ _ _ _ k m) ?_ ?_ ?_
  · exact ⟨⟨⟨hmn, rfl⟩, ⟨1, tg', rfl, .inl rfl⟩, c.as sz, tl, rfl, hok⟩, H.p.1.2, H.p.2, hp⟩
  · clear H
    intro i v s₃ m' It E' hi hv hIt H
    refine law_turn B rm h01 h02 h12 hf hg hIt hv H ?_ ?_
    · intro m₃ s₄ H
      exact ⟨m₃, H⟩
    · intro m₃ P₃ s₄ H
      exact hQ _ _ _ H
  · clear H
    intro s₃ m' H
    refine wpAny_execs_cons (wpAny_Return_some ?_)
    refine cB ?_
    exact hQ _ _ _ H
end Mine
end

section
open PySem PySem.W PyProof.Rows PySem.Calls
set_option maxRecDepth 100000
set_option maxHeartbeats 4000000
namespace Mine
theorem law_all {prog : Program} {w : World} {A : Around} {E : Value → Shared → Prop} {s s₁ : Shared} {L ad sp : Addr} {nm : Str} {cd : Value} {vs : List Value} {Q : Flow → Shared → Prop} {m : Str → Option Value}
    (B : Base w s.heap) (rm : Room A 3) (hsp : s.heap.IsList sp vs.toArray) (hI : AllInt vs) (hlen : vs.length ≤ 1000) (H : St s L m (fun _ => True) s₁) (hm : m "script" = some (.ref sp))
    (hQ : ∀ m' P' s', St s L m' P' s' → Q (.ret (.bool true)) s') :
    wpAny (model prog w) A (execs (body w.params 64) (envOf nm (fn w.params 64).scope L ad cd)) Q E s₁ := by
  refine law_head B rm.hh hsp hI hlen H hm ?_
  clear H hm
  intro c fi se sz an t0 t1 t2 tf tg ts s' m' h01 h02 h12 hf hg hz hz' hm H
  refine law_mid B rm hm H ?_
  clear H hm
  intro am u0 u1 u2 s' m' hm hmn H
  exact law_tail B rm h01 h02 h12 hf hg hz' hm hmn H hQ
theorem allInt_of {vs : List Value} {ns : List Int} (h : IntsAre vs ns) : AllInt vs := by
  induction h with
  | nil => intro v hv; cases hv
  | cons n t _ ih =>
    intro v hv
    rcases List.mem_cons.mp hv with rfl | hv
    · exact ⟨n, t, rfl⟩
    · exact ih v hv
theorem ints_len {vs : List Value} {ns : List Int} (h : IntsAre vs ns) : vs.length = ns.length := by
  induction h with
  | nil => rfl
  | cons n t _ ih => simp [ih]
theorem room_caller (e : Env) : Room (callerA.deeper e) 3 := ⟨rfl, by show 1 + claimMargin + 1 + 3 ≤ 900; decide, by show 4 + 3 + 8 * 3 ≤ 9000; decide⟩
theorem whole : PySem.Challenge.rw_pk0004_01.Holds := hd (by
  k_go0
  rename (hd.heap_39 _).In _ => KX
  rename Top _ _ _ _ _ _ => T
  rename Fr _ _ _ _ => F
  rename IntsAre _ _ => hI
  rename Heap.IsList _ _ _ => hL
  rename ¬ _ < _ => hc
  rename Shared.gens _ = _ => hgen
  refine law_all ⟨KX, ⟨_, T.g⟩, ⟨_, T.b, T.builtins⟩, T.nolimit⟩ (room_caller _) hL (allInt_of hI) ?_ ⟨⟨_, _, rfl⟩, F, Stable.true, trivial⟩ rfl ?_
  · rw [ints_len hI]
    omega
  · intro m' P' s' H
    have F' := H.F
    obtain ⟨⟨h', tk', rfl⟩, _⟩ := H
    refine goodW_bool F' hgen (fun _ => rfl) ?_
    refine postW_of (X := (true == true)) ?_ ?_ rfl
    · first | rfl | decide +kernel | simp [OpenLaw.row, PySem.Challenge.rw_pk0004_01]
    · exact w_eq_bool (w_res rfl) w_lit)
end Mine
end

theorem PySem.Challenge.cw_pk0004_01_holds : PySem.Challenge.rw_pk0004_01.Holds :=
  Mine.whole
