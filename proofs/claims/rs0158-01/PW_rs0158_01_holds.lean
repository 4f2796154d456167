import PyProof.Rows.All
import Wide.All
import OpenK.AllK
import Wide.FinOn
import PySem.Challenge.RW_rs0158_01
set_option Elab.async false
open PySem PySem.W PyProof.Rows PySem.Calls
section
namespace Mine
set_option autoImplicit true
theorem at1 {M : Model} {A : Around} {x1 x2} {Q} {E} {s} (h : wpAny M A (call (.type x1) x2) Q E s) : wpAny M A (call (.type x1) x2) Q E s := h
theorem at2 {M : Model} {A : Around} {x1} {Q} {E} {s} (h : wpAny M A (call (.type "enumerate") x1) Q E s) : wpAny M A (call (.type "enumerate") x1) Q E s := h
theorem at3 {M : Model} {A : Around} {x1 x2 x3 x4 x5 x6 x7} {Q} {E} {s} (h : wpAny M A (subscriptTail x1 (Expr.Slice x2 x3 x4 x5) x6 x7) Q E s) : wpAny M A (subscriptTail x1 (Expr.Slice x2 x3 x4 x5) x6 x7) Q E s := h
theorem at4 {M : Model} {A : Around} {x1 x2 x3} {Q} {E} {s} (h : wpAny M A (binaryOp x1 (.ref x2) (.ref x3)) Q E s) : wpAny M A (binaryOp x1 (.ref x2) (.ref x3)) Q E s := h
theorem at5 {M : Model} {A : Around} {x1 x2 x3} {Q} {E} {s} (h : wpAny M A (binaryOp .Mult (.str x1 x2) x3) Q E s) : wpAny M A (binaryOp .Mult (.str x1 x2) x3) Q E s := h
theorem at6 {M : Model} {A : Around} {x1 x2 x3 x4 x5} {Q} {E} {s} (h : wpAny M A (subscriptTail x1 x2 (.str x3 x4) x5) Q E s) : wpAny M A (subscriptTail x1 x2 (.str x3 x4) x5) Q E s := h
theorem at7 {M : Model} {A : Around} {x1 x2 x3 x4} {Q} {E} {s} (h : wpAny M A (binaryOp .Add (.str x1 x2) (.str x3 x4)) Q E s) : wpAny M A (binaryOp .Add (.str x1 x2) (.str x3 x4)) Q E s := h
theorem at8 {M : Model} {A : Around} {x1 x2 x3 x4 x5} {Q} {E} {s} (h : wpAny M A (eval (Expr.ListComp x1 x2 x3 x4) x5) Q E s) : wpAny M A (eval (Expr.ListComp x1 x2 x3 x4) x5) Q E s := h
theorem at9 {M : Model} {A : Around} {x1} {Q} {E} {s} (h : wpAny M A (call (.builtin "str.join") x1) Q E s) : wpAny M A (call (.builtin "str.join") x1) Q E s := h
theorem at10 {M : Model} {A : Around} {x1} {Q} {E} {s} (h : wpAny M A (call (.builtin "dict.get") x1) Q E s) : wpAny M A (call (.builtin "dict.get") x1) Q E s := h
theorem at11 {M : Model} {A : Around} {x1} {Q} {E} {s} (h : wpAny M A (call (.builtin "list.append") x1) Q E s) : wpAny M A (call (.builtin "list.append") x1) Q E s := h
theorem at12 {M : Model} {A : Around} {x1 x2 x3 x4 x5 x6 x7} {Q} {E} {s} (h : wpAny M A (exec (Stmt.Assign x1 (Expr.ListComp x2 x3 x4 x5) x6) x7) Q E s) : wpAny M A (exec (Stmt.Assign x1 (Expr.ListComp x2 x3 x4 x5) x6) x7) Q E s := h
theorem at13 {M : Model} {A : Around} {x1 x2 x3 x4 x5} {Q} {E} {s} (h : wpAny M A (exec (Stmt.While x1 x2 x3 x4) x5) Q E s) : wpAny M A (exec (Stmt.While x1 x2 x3 x4) x5) Q E s := h
theorem at14 {M : Model} {A : Around} {x1 x2 x3 x4 x5 x6} {Q} {E} {s} (h : wpAny M A (exec (Stmt.For x1 x2 x3 x4 x5) x6) Q E s) : wpAny M A (exec (Stmt.For x1 x2 x3 x4 x5) x6) Q E s := h
theorem at15 {M : Model} {A : Around} {x1} {Q} {E} {s} (h : wpAny M A (pyIter x1) Q E s) : wpAny M A (pyIter x1) Q E s := h
theorem at16 {M : Model} {A : Around} {x1 x2} {Q} {E} {s} (h : wpAny M A (call (.ref x1) x2) Q E s) : wpAny M A (call (.ref x1) x2) Q E s := h
end Mine
end
local macro_rules | `(tactic| walk_at "mine loop") => `(tactic| ((fail_if_success (with_reducible refine Mine.at13 ?_)); (fail_if_success (with_reducible refine Mine.at14 ?_)); (fail_if_success (with_reducible refine Mine.at15 ?_))))
local macro_rules | `(tactic| walk_at "mine ref") => `(tactic| (fail_if_success (with_reducible refine Mine.at16 ?_)))
local macro_rules | `(tactic| walk_at "mine one") => `(tactic| first | (k_unfold; (try dsimp only)) | (walk1 <;> (try dsimp only)) | (dsimp only; walk1))
local macro_rules | `(tactic| walk_at "mine one plain") => `(tactic| first | (k_unfold; (try dsimp only)) | walk1 | (dsimp only; walk1))
local macro_rules | `(tactic| walk_at "mine one idle") => `(tactic| first | (k_unfold; (try dsimp only)) | (walk1 <;> (try contradiction) <;> (try dsimp only)) | (dsimp only; walk1))
local macro_rules | `(tactic| walk_at "go 0") => `(tactic| repeat' ((fail_if_success (with_reducible show Seg _ _ _ _ _ _ _ _ _ _)); walk_at "mine loop"; walk_at "mine one"))
local macro_rules | `(tactic| walk_at "go 8") => `(tactic| repeat' (walk_at "mine loop"; walk_at "mine ref"; walk_at "mine one"))
section -- T0
open PySem PySem.W PyProof.Rows
namespace Mine
set_option maxRecDepth 100000
set_option maxHeartbeats 8000000
theorem keep_goal {p : Prop} (_hw : True) (hc : p) : p := hc
section
local macro_rules | `(tactic| o_head $_) => `(tactic| refine keep_goal ?hw ?hc)
local macro_rules | `(tactic| w_witness2) => `(tactic| trivial)
open_top hq for (OpenLaw.row PySem.Challenge.rw_rs0158_01)
end
noncomputable def KA : List Addr := [2, 3, 6, 15, 17, 18, 20, 21, 22, 24, 25, 27, 28, 29, 31, 32, 34, 35, 36, 38, 39, 41, 42, 43, 45, 46, 48, 49, 50, 53, 55, 56, 58, 59, 60, 62, 63, 65, 66, 67, 69, 70, 72, 73, 74, 76, 77, 79, 80, 81, 83, 84, 86, 87, 88, 91, 92, 93, 95, 96, 98, 99, 100, 102, 103, 105, 106, 107, 110, 111]
/-- the written heap once more, with no twin of its own -/
theorem two_signs : (Str.ofString "ab").cps.size = 2 := by decide +kernel
noncomputable def KH : Params → Frag := by
  refine (fun (_ : (Str.ofString "ab").cps.size = 2) (_ : True) => (?lit : Params → Frag)) two_signs ?told
  case told =>
    have e : ?lit = hq.heap_1 := by
      unfold hq.heap_1
      exact rfl
    trivial
section
local macro_rules | `(tactic| k_head) => `(tactic| o_head (kHook Mine.KH Mine.KA (fun _ => by kernel_rfl)))
open_top hd for PySem.Challenge.rw_rs0158_01
end
end Mine
end
section -- P0
open PySem PySem.W PyProof.Rows PySem.Calls PySem.Builtin PySem.Builtin.Str
namespace Mine
/-- a text by the list of its signs' numbers -/
noncomputable abbrev S (l : List Nat) : Str := ⟨l.toArray⟩
theorem S_length (l : List Nat) : (S l).length = l.length := by simp [Str.length]
theorem S_inj {l l' : List Nat} (h : S l = S l') : l = l' := by
  have := congrArg (fun x : Str => x.cps.toList) h
  simpa using this
theorem S_append (l l' : List Nat) : S l ++ S l' = S (l ++ l') := by
  show Str.append _ _ = _
  simp [Str.append, S]
theorem fm_range (l : List Nat) (a : Nat) : ∀ k, a + k ≤ l.length → ((List.range k).map (fun i => a + i)).filterMap (fun i => l[i]?) = (l.drop a).take k := by
  intro k
  induction k with
  | zero => intro _; simp
  | succ k ih =>
    intro h
    rw [List.range_succ, List.map_append, List.filterMap_append, ih (by lia)]
    have e : l[a + k]? = some (l[a + k]'(by lia)) := List.getElem?_eq_getElem (by lia)
    have e2 : (l.drop a)[k]? = l[a + k]? := by simp
    simp only [List.map_cons, List.map_nil, List.filterMap_cons, e, List.filterMap_nil]
    rw [List.take_add_one, e2, e]
    simp
theorem range_one (a b : Nat) : sliceRange (a : Int) (b : Int) 1 = (List.range (b - a)).map (fun i => a + i) := by
  unfold sliceRange
  simp only [show (1 : Int) > 0 by decide, if_true, Int.ediv_one, Int.one_mul]
  have e : (if (a : Int) < b then (b : Int) - a + 1 - 1 else 0).toNat = b - a := by split <;> lia
  rw [e]
  apply List.map_congr_left
  intro k _
  lia
theorem slice_gen {l : List Nat} {lo hi : Option Int} {a b : Nat} (h : strSliceIndices lo hi 1 l.length = sliceRange (a : Int) (b : Int) 1) (hb : b ≤ l.length) : Txt.slice (S l) lo hi = S ((l.drop a).take (b - a)) := by
  unfold Txt.slice
  rw [S_length, h, range_one]
  have hsz : ((List.range (b - a)).map (fun i => a + i)).length = b - a := by simp
  by_cases hab : a ≤ b
  · have fm : ((List.range (b - a)).map (fun i => a + i)).filterMap (fun i => (S l).cps[i]?) = (l.drop a).take (b - a) := by
      have := fm_range l a (b - a) (by lia)
      simpa [S] using this
    split
    · rename_i hc
      rw [hsz] at hc
      have hc' : b - a = l.length := by simpa using hc
      have : a = 0 := by lia
      subst this
      simp [show b = l.length by lia]
    · rw [fm]
  · have hz : b - a = 0 := by lia
    rw [hz]
    split
    · rename_i hc
      simp at hc
      have : l = [] := List.length_eq_zero_iff.mp hc.symm
      subst this; simp
    · simp
theorem slice_from {l : List Nat} {p : Nat} : Txt.slice (S l) (some (p : Int)) none = S (l.drop p) := by
  have h : strSliceIndices (some (p : Int)) none 1 l.length = sliceRange ((min p l.length : Nat) : Int) (l.length : Int) 1 := by
    simp only [strSliceIndices, show (1 : Int) > 0 by decide, if_true]
    congr 1
    split <;> lia
  rw [slice_gen h (Nat.le_refl _)]
  refine congrArg S ?_
  have : (l.drop (min p l.length)).take (l.length - min p l.length) = l.drop (min p l.length) := by
    apply List.take_of_length_le; simp
  rw [this]
  by_cases hp : p ≤ l.length
  · rw [Nat.min_eq_left hp]
  · rw [Nat.min_eq_right (by lia), List.drop_eq_nil_of_le (Nat.le_refl _), List.drop_eq_nil_of_le (by lia)]
theorem slice_all {l : List Nat} : Txt.slice (S l) none none = S l := by
  have h : strSliceIndices none none 1 l.length = sliceRange ((0 : Nat) : Int) (l.length : Int) 1 := by
    simp only [strSliceIndices, show (1 : Int) > 0 by decide, if_true]; rfl
  rw [slice_gen h (Nat.le_refl _)]; simp
theorem slice_neg {l : List Nat} {q : Nat} (hq : 0 < q) : Txt.slice (S l) none (some (-(q : Int))) = S (l.take (l.length - q)) := by
  have h : strSliceIndices none (some (-(q : Int))) 1 l.length = sliceRange ((0 : Nat) : Int) ((l.length - q : Nat) : Int) 1 := by
    simp only [strSliceIndices, show (1 : Int) > 0 by decide, if_true]
    congr 1
    split <;> lia
  rw [slice_gen h (by lia)]; simp
theorem slice_ss {l : List Nat} {i j : Nat} : Txt.slice (S l) (some (i : Int)) (some (j : Int)) = S ((l.drop i).take (j - i)) := by
  have h : strSliceIndices (some (i : Int)) (some (j : Int)) 1 l.length = sliceRange ((min i l.length : Nat) : Int) ((min j l.length : Nat) : Int) 1 := by
    simp only [strSliceIndices, show (1 : Int) > 0 by decide, if_true]
    congr 1 <;> split <;> lia
  rw [slice_gen h (by lia)]
  refine congrArg S ?_
  by_cases hi : i ≤ l.length
  · rw [Nat.min_eq_left hi]
    by_cases hj : j ≤ l.length
    · rw [Nat.min_eq_left hj]
    · rw [Nat.min_eq_right (by lia), List.take_of_length_le (by simp), List.take_of_length_le (by simp; lia)]
  · rw [Nat.min_eq_right (by lia : l.length ≤ i), List.drop_eq_nil_of_le (Nat.le_refl _), List.drop_eq_nil_of_le (by lia)]; simp
theorem item_pos {l : List Nat} {p : Nat} (h : p < l.length) : Txt.item (S l) (p : Int) = S [l[p]] := by
  unfold Txt.item Txt.charAt seqIndex?
  simp only [S_length]
  have h1 : ¬ ((p : Int) < 0) := by lia
  simp [h1, h, List.getElem?_eq_getElem h]
theorem item_neg {l : List Nat} {q : Nat} (hq : 0 < q) (h : q ≤ l.length) : Txt.item (S l) (-(q : Int)) = S [l[l.length - q]'(by lia)] := by
  unfold Txt.item Txt.charAt seqIndex?
  simp only [S_length]
  have h1 : (-(q : Int) < 0) := by lia
  have h2 : (-(q : Int) + (l.length : Int)) = ((l.length - q : Nat) : Int) := by lia
  have h3 : l.length - q < l.length := by lia
  simp only [h1, if_true, h2]
  simp [h3, List.getElem?_eq_getElem h3]
theorem low_lower : ∀ n, n < 65 → Txt.lower (S [n]) = S [n] := by decide +kernel
end Mine
end
local macro_rules | `(tactic| walk_at "num") => `(tactic| first | lia | (simp only [List.length_drop, List.length_take, Mine.S_length] at *; lia))
section -- B0
open PySem PySem.W PyProof.Rows PySem.Calls
set_option maxRecDepth 100000
set_option maxHeartbeats 4000000
namespace Mine
noncomputable abbrev nm (x : String) : Str := Str.ofString x
noncomputable abbrev PP : Program := PySem.Challenge.rw_rs0158_01.row.prog
/-- a word that the walker leaves alone -/
noncomputable def Shut (P : Prop) : Prop := P
structure Gd (w : World) (mean : ExcName → Option Value) (mg mb : Str → Option Value) (h : Heap) : Prop where
  KX : (hq.heap_1 w.params).In h
  T : Top hd.view_39 (looseW hd.view_39 [Str.ofString "EXACT_TOKEN_TYPES"]) mean mg mb h
noncomputable def Keeps (h h' : Heap) : Prop := ∀ b o, h.get? b = some o → h'.get? b = some o
theorem Keeps.refl {h : Heap} : Keeps h h := fun _ _ e => e
theorem Keeps.trans {h h' h'' : Heap} (a : Keeps h h') (b : Keeps h' h'') : Keeps h h'' := fun _ _ e => b _ _ (a _ _ e)
theorem Gd.keeps {w mean mg mb h h'} (g : Gd w mean mg mb h) (k : Keeps h h') : Gd w mean mg mb h' := ⟨g.KX.keeps k, g.T.keeps k⟩
structure Grown (s s' : Shared) : Prop where
  keep : Keeps s.heap s'.heap
  gens : s'.gens = s.gens
  drawn : s'.drawn = s.drawn
  os : s'.os = s.os
theorem sh3 {s s' : Shared} (g1 : s'.gens = s.gens) (g2 : s'.drawn = s.drawn) (g3 : s'.os = s.os) (h : Heap) (tk : Nat) : ({ s' with heap := h, toks := tk } : Shared) = { s with heap := h, toks := tk } := by rw [g1, g2, g3]
theorem sh2 {s s' : Shared} (g2 : s'.drawn = s.drawn) (g3 : s'.os = s.os) (h : Heap) (tk : Nat) (gens : Array GenState) : ({ s' with heap := h, gens := gens, toks := tk } : Shared) = { s with heap := h, gens := gens, toks := tk } := by rw [g2, g3]
theorem n_step {a j : Nat} (h : j < a) : a - (j + 1) < a - j := Nat.sub_lt_sub_left h (Nat.lt_succ_self j)
theorem n_end {a j : Nat} (h : j ≤ a) (h' : ¬ j < a) : j = a := Nat.le_antisymm h (Nat.not_lt.mp h')
theorem n_pos {a j : Nat} (h : j < a) : ∃ m, a - j = m + 1 := ⟨a - j - 1, by lia⟩
theorem n_idx {a j m : Nat} (h : a - j = m + 1) : a - 1 - (m + 1 - 1) = j := by lia
theorem n_next {a j m : Nat} (h : a - j = m + 1) : a - (j + 1) = m := by lia
theorem Grown.refl {s : Shared} : Grown s s := ⟨.refl, rfl, rfl, rfl⟩
theorem Grown.trans {a b c : Shared} (x : Grown a b) (y : Grown b c) : Grown a c := ⟨x.keep.trans y.keep, y.gens.trans x.gens, y.drawn.trans x.drawn, y.os.trans x.os⟩
theorem Fr.grown {h₀ h h' : Heap} {L : Addr} {m : Str → Option Value} (F : Fr h₀ L h m) (k : Keeps h h') : Fr h₀ L h' m :=
  ⟨F.ns.at' fun _ e => k _ _ e, fun b o e => k _ _ (F.keep b o e), F.above⟩
theorem News.keepsK {h₀ h h' : Heap} {L : Addr} {news : List (Addr × Obj)} (N : News h₀ L h news) (k : Keeps h h') : News h₀ L h' news :=
  fun p hp => ⟨k _ _ (N p hp).1, (N p hp).2.1, (N p hp).2.2⟩
theorem News.sub {h₀ h : Heap} {L : Addr} {news news' : List (Addr × Obj)} (N : News h₀ L h news) (k : ∀ p ∈ news', p ∈ news) : News h₀ L h news' := fun p hp => N p (k p hp)
theorem Fr.lay {h₀ h : Heap} {L : Addr} {m : Str → Option Value} {x : Str} {v : Value} (F : Fr h₀ L h m) (e : m x = some v) : Fr h₀ L h (fun y => if y = x then some v else m y) := by
  have : (fun y => if y = x then some v else m y) = m := funext fun y => by
    split
    · rename_i q; rw [q]; exact e.symm
    · rfl
  rw [this]; exact F
/-- names laid over a frame's map -/
noncomputable def ov : List (Str × Value) → (Str → Option Value) → Str → Option Value
  | [], m => m
  | (x, v) :: l, m => fun y => if y = x then some v else ov l m y
noncomputable def Has (m : Str → Option Value) : List (Str × Value) → Prop
  | [] => True
  | (x, v) :: l => m x = some v ∧ Has m l
theorem ov_eq {m : Str → Option Value} : ∀ {l : List (Str × Value)}, Has m l → ov l m = m
  | [], _ => rfl
  | (x, v) :: l, ⟨e, r⟩ => funext fun y => by
    show (if y = x then some v else ov l m y) = m y
    split
    · rename_i q; rw [q]; exact e.symm
    · rw [ov_eq r]
theorem Fr.lays {h₀ h : Heap} {L : Addr} {m : Str → Option Value} (l : List (Str × Value)) (e : Has m l) (F : Fr h₀ L h m) : Fr h₀ L h (ov l m) := by rw [ov_eq e]; exact F
/-- the heap but for one new object -/
noncomputable def But (I : Addr) (h h' : Heap) : Prop := ∀ b o, b ≠ I → h.get? b = some o → h'.get? b = some o
theorem Fr.but {h₀ h h' : Heap} {L I : Addr} {m : Str → Option Value} (F : Fr h₀ L h m) (hI : h₀.get? I = none) (hL : I ≠ L) (k : But I h h') : Fr h₀ L h' m :=
  ⟨F.ns.at' fun _ e => k _ _ (Ne.symm hL) e, fun b o e => k b o (fun q => by rw [q, hI] at e; cases e) (F.keep b o e), F.above⟩
theorem News.but {h₀ h h' : Heap} {L I : Addr} {news : List (Addr × Obj)} (N : News h₀ L h news) (hn : ∀ p ∈ news, p.1 ≠ I) (k : But I h h') : News h₀ L h' news :=
  fun p hp => ⟨k _ _ (hn p hp) (N p hp).1, (N p hp).2.1, (N p hp).2.2⟩
theorem spec_def {w : World} {mean mg mb} {A : Around} {s : Shared} {R : Result → Shared → Prop} {name qual : Str} {params : Arguments} {body : List Stmt} {scope : Scope} {dV kV doc pm cdv ct oc : Value} {an od : Option Addr} {osl : Array (Option Value)} {f : Addr} {args : Args} {binds : List (Str × Value)}
    (G : Gd w mean mg mb s.heap)
    (ho : (hq.heap_1 w.params).lookup f = some ⟨oc, od, .func (fnOf name qual params body scope dV kV doc pm an cdv ct), osl⟩) (hcd : codeIn (hq.heap_1 w.params) cdv qual = true) (hroom : A.depth < recursionLimit)
    (hbind : BindsTo s (fnOf name qual params body scope dV kV doc pm an cdv ct) args binds) (hloc : ∀ y ∈ binds, scope.names.lookup y.1 = some .local)
    (h : ∀ (L : Addr) h₁, Fr s.heap L h₁ (fun y => binds.reverse.lookup y) → News s.heap L h₁ [] →
      wpAny (model PP w) (A.deeper (envOf qual scope L f cdv)) (execs body (envOf qual scope L f cdv))
        (fun fl s' => R (.ok (.ret (match fl with | .ret v => v | _ => .none))) s') (fun _ _ => False)
        { s with heap := h₁, toks := s.toks + binds.length })
    (hco : scope.isCoroutine = false := by rfl) (hgen : scope.isGenerator = false := by rfl) (hk : scope.kind = .function := by rfl)
    (hcell : ∀ x ∈ scope.names, x.2 ≠ .cell := by decide) : codeAny (model PP w) A (.call (.ref f) args) R s :=
  codeAny_call_def hroom (G.KX f _ ho) rfl G.T.nolimit (codeRec_of G.KX hcd) rfl hbind hcell hloc
    (fun h₁ hns hk => wpAny_mono (h _ h₁ ⟨hns, hk, Nat.le_refl _⟩ News.nil) (fun _ _ x => x) (fun _ _ x => x.elim)) hco hgen hk
section
variable {prog : Program} {w : World} {A : Around} {E : Value → Shared → Prop} {s : Shared} {env : Env} {Q : Flow → Shared → Prop}
noncomputable def LoopOn (I : Nat → Shared → Prop) (n : Nat) (s : Shared) : Prop := ∃ m, m < n ∧ I m s
theorem while_ {test : Expr} {body : List Stmt} {pos : Pos} (I : Nat → Shared → Prop) (n : Nat) (h : I n s)
    (turn : ∀ n s, I n s → wpAny (model prog w) A (isTrue test env (eval test env)) (fun b s₂ =>
      if b = true then wpAny (model prog w) A (execs body env) (fun f s₃ => match f with
          | .next | .cont => LoopOn I n s₃
          | .brk => Q .next s₃
          | .ret v => Q (.ret v) s₃) (fun _ _ => False) s₂
      else Q .next s₂) (fun _ _ => False) s) :
    wpAny (model prog w) A (exec (.While test body [] pos) env) Q E s := by
  refine wpAny_While (codeAny_whileLoop I (fun n s hI => ?_) n h)
  refine wpAny_mono (turn n s hI) (fun b s₂ hb => ?_) (fun _ _ x => x.elim)
  cases b with
  | true =>
    simp only [if_true] at hb ⊢
    exact wpAny_mono hb (fun f s₃ hf => by cases f <;> exact hf) (fun _ _ x => x.elim)
  | false =>
    simp only [Bool.false_eq_true, if_false] at hb ⊢
    exact wpAny_pure hb
theorem while_cut0 {test : Expr} {body : List Stmt} {pos : Pos} (I : Nat → Shared → Prop) (Mid : Shared → Prop) (n : Nat) (h : I n s)
    (turn : ∀ n s, I n s → wpAny (model prog w) A (isTrue test env (eval test env)) (fun b s₂ =>
      if b = true then wpAny (model prog w) A (execs body env) (fun f s₃ => match f with
          | .next | .cont => LoopOn I n s₃
          | .brk => Mid s₃
          | .ret v => Q (.ret v) s₃) (fun _ _ => False) s₂
      else Mid s₂) (fun _ _ => False) s)
    (rest : ∀ s', Mid s' → Q .next s') :
    wpAny (model prog w) A (exec (.While test body [] pos) env) Q E s := by
  refine while_ I n h fun n s hI => wpAny_mono (turn n s hI) (fun b s₂ hb => ?_) (fun _ _ x => x)
  cases b with
  | true =>
    simp only [if_true] at hb ⊢
    exact wpAny_mono hb (fun f s₃ hf => by cases f <;> first | exact rest _ hf | exact hf) (fun _ _ x => x)
  | false =>
    simp only [Bool.false_eq_true, if_false] at hb ⊢
    exact rest _ hb
theorem while_cut {test : Expr} {body : List Stmt} {pos : Pos} (I : Nat → Shared → Prop) (Mid : Shared → Prop) (n : Nat) (h : I n s)
    (turn : ∀ n s, I n s → ∀ (Nx Dn : Shared → Prop) (Rt : Value → Shared → Prop), (∀ s', LoopOn I n s' → Nx s') → (∀ s', Mid s' → Dn s') → (∀ v s', Q (.ret v) s' → Rt v s') →
      wpAny (model prog w) A (isTrue test env (eval test env)) (fun b s₂ =>
      if b = true then wpAny (model prog w) A (execs body env) (fun f s₃ => match f with
          | .next | .cont => Nx s₃
          | .brk => Dn s₃
          | .ret v => Rt v s₃) (fun _ _ => False) s₂
      else Dn s₂) (fun _ _ => False) s)
    (rest : ∀ s', Mid s' → Q .next s') :
    wpAny (model prog w) A (exec (.While test body [] pos) env) Q E s :=
  while_cut0 I Mid n h (fun n s hI => turn n s hI _ _ _ (fun _ x => x) (fun _ x => x) (fun _ _ x => x)) rest
theorem execs_append (env : Env) (l₂ : List Stmt) : ∀ l₁ : List Stmt, execs (l₁ ++ l₂) env = (execs l₁ env >>= fun f => match f with | .next => execs l₂ env | f => pure f)
  | [] => rfl
  | st :: l => by
    rw [List.cons_append, execs_cons, execs_cons, bind_assoc]
    refine congrArg (exec st env >>= ·) (funext fun f => ?_)
    cases f with
    | next => exact execs_append env l₂ l
    | brk => rfl
    | cont => rfl
    | ret v => rfl
theorem execs_cut0 (n : Nat) (Mid : Shared → Prop) {l : List Stmt} (h : wpAny (model prog w) A (execs (l.take n) env) (fun f s' => match f with | .next => Mid s' | f => Q f s') E s)
    (rest : ∀ s', Mid s' → wpAny (model prog w) A (execs (l.drop n) env) Q E s') : wpAny (model prog w) A (execs l env) Q E s := by
  have e : execs l env = execs (l.take n ++ l.drop n) env := by rw [List.take_append_drop]
  rw [e, execs_append]
  refine wpAny_bind (wpAny_mono h (fun f s' hf => ?_) (fun _ _ x => x))
  cases f with
  | next => exact rest s' hf
  | brk => exact wpAny_pure hf
  | cont => exact wpAny_pure hf
  | ret v => exact wpAny_pure hf
theorem execs_cut (n : Nat) (Mid : Shared → Prop) {l : List Stmt}
    (h : ∀ (Dn : Shared → Prop) (Qn : Flow → Shared → Prop), (∀ s', Mid s' → Dn s') → (∀ f s', Q f s' → Qn f s') → wpAny (model prog w) A (execs (l.take n) env) (fun f s' => match f with | .next => Dn s' | f => Qn f s') E s)
    (rest : ∀ s', Mid s' → wpAny (model prog w) A (execs (l.drop n) env) Q E s') : wpAny (model prog w) A (execs l env) Q E s :=
  execs_cut0 n Mid (h _ _ (fun _ x => x) (fun _ _ x => x)) rest
/-- what is wanted at the end, as a letter -/
theorem keepQ {α : Type} {M : Model} {A : Around} {x : Sem α} {Q : α → Shared → Prop} {E : Value → Shared → Prop} {s : Shared} (h : ∀ Qn : α → Shared → Prop, (∀ v s', Q v s' → Qn v s') → wpAny M A x Qn E s) : wpAny M A x Q E s := h _ fun _ _ x => x
theorem for_walks {x : Str} {px : Pos} {body : List Stmt} {I : Addr} {fp wr : List Addr} {n : Nat} {P : Nat → Value → Prop} {St : Nat → Heap → Prop} {X : Value → Shared → Prop}
    (W : Walks prog w A I fp wr n P St) (J : Nat → Shared → Prop) (hJ : ∀ i s, J i s → St i s.heap) (h : J 0 s)
    (turn : ∀ i s, i < n → J i s → ∀ v h' tk, P i v → St (i + 1) h' → (∀ b o, b ∉ wr → s.heap.get? b = some o → h'.get? b = some o) →
      wpAny (model prog w) A (assign (.Name x px) env v) (fun _ s₂ => wpAny (model prog w) A (execs body env) (fun f s₃ => match f with
          | .next | .cont => J (i + 1) s₃
          | .brk => Q .next s₃
          | .ret v => Q (.ret v) s₃) (fun _ _ => False) s₂) (fun _ _ => False) { s with heap := h', toks := tk })
    (done : ∀ s, J n s → ∀ h' tk, (∀ b o, b ∉ wr → s.heap.get? b = some o → h'.get? b = some o) → Q .next { s with heap := h', toks := tk }) :
    codeAny (model prog w) A (.forLoop (.Name x px) (.ref I) body [] env) (fun r s' => match r with | .ok f => Q f s' | .error e => X e s') s := by
  refine codeAny_forLoop_any (fun k s => ∃ i, i ≤ n ∧ k = n - i ∧ J i s) (fun k s => ?_) n ⟨0, Nat.zero_le _, rfl, h⟩
  rintro ⟨i, hi, rfl, hj⟩
  by_cases hin : i < n
  · refine W.item i s _ _ hin (hJ i s hj) fun v h' tk hP hS hk => ?_
    refine wpAny_mono (E := fun _ _ => False) (Q := fun _ s' => s' = { s with heap := h', toks := tk }) (wpAny_pure rfl) ?_ (fun _ _ x => x.elim)
    rintro _ _ rfl
    refine wpAny_mono (turn i s hin hj v h' tk hP hS hk) (fun _ s₂ h₂ => ?_) (fun _ _ x => x.elim)
    refine wpAny_mono h₂ (fun f s₃ h₃ => ?_) (fun _ _ x => x.elim)
    cases f with
    | next => exact ⟨n - (i + 1), n_step hin, i + 1, hin, rfl, h₃⟩
    | cont => exact ⟨n - (i + 1), n_step hin, i + 1, hin, rfl, h₃⟩
    | brk => exact h₃
    | ret v => exact h₃
  · have : i = n := n_end hi hin
    subst this
    refine W.done s _ _ (hJ _ s hj) fun h' tk hk => ?_
    exact wpAny_pure (done s hj h' tk hk)
end
end Mine
end
section -- P1
namespace Mine
/-- one row of the table: the elder row, the signs along it, the corner, the last one reckoned -/
noncomputable def inner (bc : Nat) : Int → Int → List Nat → List Int → List Int
  | d, r, x :: a, c :: row => min (min r c + 2) (d + (if bc = x then 0 else 2)) :: inner bc c (min (min r c + 2) (d + (if bc = x then 0 else 2))) a row
  | _, _, _, _ => []
theorem inner_cons (bc : Nat) (d r c : Int) (x : Nat) (a : List Nat) (row : List Int) : inner bc d r (x :: a) (c :: row) = min (min r c + 2) (d + (if bc = x then 0 else 2)) :: inner bc c (min (min r c + 2) (d + (if bc = x then 0 else 2))) a row := rfl
noncomputable def low (row : List Int) : Int := row.foldl (fun acc r => if r < acc then r else acc) 9223372036854775807
noncomputable def lastOf (d : Int) (row : List Int) : Int := row.getLastD d
noncomputable def outer (a : List Nat) (m : Int) : Int → List Int → Int → List Nat → Int
  | _, _, res, [] => res
  | j, row, _, bc :: b => if m < low (inner bc j j a row) then m + 1 else outer a m (j + 2) (inner bc j j a row) (lastOf j (inner bc j j a row)) b
theorem outer_cons (a : List Nat) (m j res : Int) (row : List Int) (bc : Nat) (b : List Nat) : outer a m j row res (bc :: b) = if m < low (inner bc j j a row) then m + 1 else outer a m (j + 2) (inner bc j j a row) (lastOf j (inner bc j j a row)) b := rfl
noncomputable def row0 (n : Nat) : List Int := (List.range n).map fun (i : Nat) => 2 * (i : Int) + 2
noncomputable def dp (a b : List Nat) (m : Int) : Int := outer a m 0 (row0 a.length) 0 b
/-- what the distance gives -/
noncomputable def LevRel (a b : List Nat) (m r : Int) : Prop :=
  (a = b ∧ r = 0) ∨ (a ≠ b ∧ ∃ p u v q, a = p ++ u ++ q ∧ b = p ++ v ++ q ∧
    (((u = [] ∨ v = []) ∧ r = 2 * ((u.length : Int) + v.length)) ∨
     (u ≠ [] ∧ v ≠ [] ∧ ∃ x y, ((v.length < u.length ∧ x = v ∧ y = u) ∨ (¬ v.length < u.length ∧ x = u ∧ y = v)) ∧
       ((m < ((y.length : Int) - x.length) * 2 ∧ r = m + 1) ∨ (¬ m < ((y.length : Int) - x.length) * 2 ∧ r = dp x y m)))))
theorem low_append (l : List Int) (x : Int) : low (l ++ [x]) = if x < low l then x else low l := by
  unfold low; rw [List.foldl_append]; rfl
theorem lastOf_append (l : List Int) (x d : Int) : lastOf d (l ++ [x]) = x := by
  simp [lastOf]
end Mine
end
section -- B1
open PySem PySem.W PyProof.Rows PySem.Calls
set_option maxRecDepth 100000
set_option maxHeartbeats 4000000
namespace Mine
theorem fill : (fun (_ : OpenLaw) (_ : Params → Frag) => True) PySem.Challenge.rw_rs0158_01 hq.heap_1 := by k_fill; trivial
section
variable {prog : Program} {w : World} {A : Around} {E : Value → Shared → Prop} {s : Shared} {value slice : Expr} {l : List Nat} {t : Tok} {h₀ : Heap} {L : Addr} {m : Str → Option Value} {news : List (Addr × Obj)} {Q : Value → Shared → Prop}
theorem sl_nn (hF : Fr h₀ L s.heap m) (hN : News h₀ L s.heap news) (hsz : l.length ≤ 16777216) (h : ∀ h' t' k, Fr h₀ L h' m → News h₀ L h' news → Q (.str (S l) t') { s with heap := h', toks := k })
    (hs : subscripted slice false (.str (S l) t) (.ref s.heap.objs.size) = operate [.ref s.heap.objs.size, .str (S l) t] (getItem (.str (S l) t) (.ref s.heap.objs.size)) := by with_unfolding_all rfl)
    (ht : ∀ r, letTemporaryGo value (.str (S l) t) r = pure () := by intro _; with_unfolding_all rfl) :
    wpAny (model prog w) A (subscriptTail value slice (.str (S l) t) (.ref s.heap.objs.size)) Q E { s with heap := s.heap.push { cls := .type "slice", data := .fields #[.none, .none, .none] } } :=
  slice_strN_nn hF hN (fun h' t' k a b => by rw [slice_all]; exact h h' t' k a b) hs ht (by rw [S_length, sizeLine_eq]; exact hsz)
theorem sl_sn {p : Nat} {u : Tok} (hF : Fr h₀ L s.heap m) (hN : News h₀ L s.heap news) (hsz : l.length ≤ 16777216) (h : ∀ h' t' k, Fr h₀ L h' m → News h₀ L h' news → Q (.str (S (l.drop p)) t') { s with heap := h', toks := k })
    (hs : subscripted slice false (.str (S l) t) (.ref s.heap.objs.size) = operate [.ref s.heap.objs.size, .str (S l) t] (getItem (.str (S l) t) (.ref s.heap.objs.size)) := by with_unfolding_all rfl)
    (ht : ∀ r, letTemporaryGo value (.str (S l) t) r = pure () := by intro _; with_unfolding_all rfl) :
    wpAny (model prog w) A (subscriptTail value slice (.str (S l) t) (.ref s.heap.objs.size)) Q E { s with heap := s.heap.push { cls := .type "slice", data := .fields #[.int (p : Int) u, .none, .none] } } :=
  slice_strN_sn hF hN (fun h' t' k a b => by rw [slice_from]; exact h h' t' k a b) hs ht (by rw [S_length, sizeLine_eq]; exact hsz)
theorem sl_ns {q : Nat} {u : Tok} (hF : Fr h₀ L s.heap m) (hN : News h₀ L s.heap news) (hq : 0 < q) (hsz : l.length ≤ 16777216) (h : ∀ h' t' k, Fr h₀ L h' m → News h₀ L h' news → Q (.str (S (l.take (l.length - q))) t') { s with heap := h', toks := k })
    (hs : subscripted slice false (.str (S l) t) (.ref s.heap.objs.size) = operate [.ref s.heap.objs.size, .str (S l) t] (getItem (.str (S l) t) (.ref s.heap.objs.size)) := by with_unfolding_all rfl)
    (ht : ∀ r, letTemporaryGo value (.str (S l) t) r = pure () := by intro _; with_unfolding_all rfl) :
    wpAny (model prog w) A (subscriptTail value slice (.str (S l) t) (.ref s.heap.objs.size)) Q E { s with heap := s.heap.push { cls := .type "slice", data := .fields #[.none, .int (-(q : Int)) u, .none] } } :=
  slice_strN_ns hF hN (fun h' t' k a b => by rw [slice_neg hq]; exact h h' t' k a b) hs ht (by rw [S_length, sizeLine_eq]; exact hsz)
theorem sl_ss {i j : Nat} {u v : Tok} (hF : Fr h₀ L s.heap m) (hN : News h₀ L s.heap news) (hsz : l.length ≤ 16777216) (h : ∀ h' t' k, Fr h₀ L h' m → News h₀ L h' news → Q (.str (S ((l.drop i).take (j - i))) t') { s with heap := h', toks := k })
    (hs : subscripted slice false (.str (S l) t) (.ref s.heap.objs.size) = operate [.ref s.heap.objs.size, .str (S l) t] (getItem (.str (S l) t) (.ref s.heap.objs.size)) := by with_unfolding_all rfl)
    (ht : ∀ r, letTemporaryGo value (.str (S l) t) r = pure () := by intro _; with_unfolding_all rfl) :
    wpAny (model prog w) A (subscriptTail value slice (.str (S l) t) (.ref s.heap.objs.size)) Q E { s with heap := s.heap.push { cls := .type "slice", data := .fields #[.int (i : Int) u, .int (j : Int) v, .none] } } :=
  slice_strN_ss hF hN (fun h' t' k a b => by rw [slice_ss]; exact h h' t' k a b) hs ht (by rw [S_length, sizeLine_eq]; exact hsz)
theorem truthy_S {Q : Bool → Shared → Prop} (hsz : l.length ≤ 16777216) (h : Q ((l.length : Int) != 0) { s with toks := s.toks + 1 + 1 }) : wpAny (model prog w) A (truthy (.str (S l) t)) Q E s :=
  P.truthy_str (by rw [S_length]; lia) (by rw [S_length]; exact h)
theorem len_S (hsz : l.length ≤ 16777216) (h : Q (.int (l.length : Int) (s.toks + 1)) { s with toks := s.toks + 1 + 1 }) : wpAny (model prog w) A (call (.builtin "len") [.str (S l) t]) Q E s :=
  P.len_str (by rw [S_length]; lia) (by rw [S_length]; exact h)
theorem item_S {p : Nat} {u : Tok} (hp : p < l.length) (hsz : l.length ≤ 16777216) (h : Q (.str (S [l[p]]) s.toks) { s with toks := s.toks + 1 })
    (hs : subscripted slice false (.str (S l) t) (.int (p : Int) u) = operate [.str (S l) t, .int (p : Int) u] (getItem (.str (S l) t) (.int (p : Int) u)) := by with_unfolding_all rfl)
    (ht : ∀ r, letTemporaryGo value (.str (S l) t) r = pure () := by intro _; with_unfolding_all rfl) :
    wpAny (model prog w) A (subscriptTail value slice (.str (S l) t) (.int (p : Int) u)) Q E s :=
  item_str (fitsSsize_of (N := 9223372036854775808) (by lia) (by lia) (Int.le_refl _)) (by lia) (by rw [S_length]; lia) (fun _ => by rw [item_pos hp]; exact h) hs ht
theorem item_Sn {q : Nat} {u : Tok} (hp : q + 1 ≤ l.length) (hsz : l.length ≤ 16777216) (h : Q (.str (S [l[l.length - (q + 1)]'(by lia)]) s.toks) { s with toks := s.toks + 1 })
    (hs : subscripted slice false (.str (S l) t) (.int (-(q : Int) - 1) u) = operate [.str (S l) t, .int (-(q : Int) - 1) u] (getItem (.str (S l) t) (.int (-(q : Int) - 1) u)) := by with_unfolding_all rfl)
    (ht : ∀ r, letTemporaryGo value (.str (S l) t) r = pure () := by intro _; with_unfolding_all rfl) :
    wpAny (model prog w) A (subscriptTail value slice (.str (S l) t) (.int (-(q : Int) - 1) u)) Q E s := by
  have e : -(q : Int) - 1 = -((q + 1 : Nat) : Int) := by lia
  exact item_str (fitsSsize_of (N := 9223372036854775808) (by lia) (by lia) (Int.le_refl _)) (by rw [S_length]; lia) (by lia) (fun _ => by rw [e, item_neg (by lia) hp]; exact h) hs ht
end
theorem intsAre_of : ∀ (vs : List Value) (ns : List Int), vs.length = ns.length → (∀ (j : Nat) (v : Value) (n : Int), vs[j]? = some v → ns[j]? = some n → ∃ t, v = .int n t) → IntsAre vs ns
  | [], [], _, _ => .nil
  | v :: vs, n :: ns, e, h => by
    obtain ⟨t, rfl⟩ := h 0 v n rfl rfl
    exact .cons n t (intsAre_of vs ns (by simpa using e) fun j v' n' a b => h (j + 1) v' n' (by simpa using a) (by simpa using b))
  | [], _ :: _, e, _ => by simp at e
  | _ :: _, [], e, _ => by simp at e
theorem row0_length (n : Nat) : (row0 n).length = n := by simp [row0]
section
variable {prog : Program} {w : World} {A : Around} {E : Value → Shared → Prop} {s : Shared} {h₀ : Heap} {L r : Addr} {m : Str → Option Value} {news : List (Addr × Obj)} {Q : Value → Shared → Prop} {n : Nat} {t₀ u₀ v₀ : Tok}
theorem list_range2 (hh : A.handled = none) (F : Fr h₀ L s.heap m) (N : News h₀ L s.heap news) (hr : IsRange s.heap r 2 (2 * ((n : Int) + 1)) 2 t₀ u₀ v₀) (hz : n ≤ 1000)
    (h : ∀ D us c h' tk, Fr h₀ L h' m → News h₀ L h' ((D, listOf (List.toArray us) c) :: news) → (∀ p ∈ news, p.1 < D) → IntsAre us (row0 n) → Q (.ref D) { s with heap := h', toks := tk }) :
    wpAny (model prog w) A (call (.type "list") [.ref r]) Q E s := by
  have hn : Builtin.Range.rangeSize 2 (2 * ((n : Int) + 1)) 2 = (n : Int) := by
    unfold Builtin.Range.rangeSize
    simp only [show (2 : Int) > 0 by decide, if_true]
    split <;> lia
  have hsmall : Builtin.Range.small 2 (2 * ((n : Int) + 1)) 2 = true := by
    have f : ∀ x : Int, -9223372036854775808 ≤ x → x < 9223372036854775808 → Builtin.Range.rangeFitsLong x = true := fun x a b =>
      Bool.and_eq_true_iff.mpr ⟨decide_eq_true (by lia), decide_eq_true (by lia)⟩
    have g : (if (2 : Int) > 0 then Builtin.Range.rangeFitsLong (2 * ((n : Int) + 1) + (2 - 1)) else Builtin.Range.rangeFitsLong (2 * ((n : Int) + 1) + (2 + 1))) = true := by
      rw [if_pos (by decide)]; exact f _ (by lia) (by lia)
    unfold Builtin.Range.small
    rw [hn, g, f 2 (by lia) (by lia), f (2 * ((n : Int) + 1)) (by lia) (by lia), f (n : Int) (by lia) (by lia), Bool.or_true]
    rfl
  refine call_list_range hh hr hsmall hn (by lia) fun h' tk acc c hk hD hI => ?_
  have hD' : h'.get? s.heap.objs.size = some (listOf (List.toArray acc.toList) c) := by
    rw [Array.toArray_toList]
    exact hD
  refine h _ acc.toList c h' tk (F.keeps hk) (news_pushed F N hk hD' rfl) (fun p hp => Heap.lt_size (N p hp).1) (intsAre_of _ _ (by rw [Array.length_toList, row0_length]; exact hI.1) fun j v k hj hk' => ?_)
  obtain ⟨t, e⟩ := hI.2 j v (by rw [← hj, Array.getElem?_toList])
  refine ⟨t, ?_⟩
  rw [e]
  have hjn : j < n := by
    have := (List.getElem?_eq_some_iff.mp hk').1
    rw [row0_length] at this; exact this
  have : k = 2 * (j : Int) + 2 := by
    simp [row0, hjn] at hk'
    lia
  rw [this, show (2 : Int) + (j : Int) * 2 = 2 * (j : Int) + 2 by lia]
end
theorem mod_e {prog : Program} {w : World} {A : Around} {E : Value → Shared → Prop} {s : Shared} {a b : Int} {t u : Tok} {Q : Value → Shared → Prop} (hb : 0 < b) (h : Q (.int (a % b) s.toks) { s with toks := s.toks + 1 }) :
    wpAny (model prog w) A (binaryOp .Mod (.int a t) (.int b u)) Q E s := by
  rw [← Int.fmod_eq_emod_of_nonneg a (Int.le_of_lt hb)] at h
  exact mod_int' (by lia) h
theorem floordiv_e {prog : Program} {w : World} {A : Around} {E : Value → Shared → Prop} {s : Shared} {a b : Int} {t u : Tok} {Q : Value → Shared → Prop} (hb : 0 < b) (hp : Builtin.divisionGoesByPylong a b = false) (h : Q (.int (a / b) s.toks) { s with toks := s.toks + 1 }) :
    wpAny (model prog w) A (binaryOp .FloorDiv (.int a t) (.int b u)) Q E s := by
  rw [← Int.fdiv_eq_ediv_of_nonneg a (Int.le_of_lt hb)] at h
  exact floordiv_int (by lia) h (.inl hp)
end Mine
end
local macro_rules | `(tactic| walk_at "call type:list") => `(tactic| ((rename IsRange _ _ _ _ _ _ _ _ => rgX); k_dflt (refine Mine.list_range2 rfl (by k_asm) (by k_asm) rgX (by walk_at "num") ?_); intro _ _ _ _ _ _ _ _ _))
local macro_rules | `(tactic| walk_at "call builtin:len") => `(tactic| (refine Mine.len_S (by walk_at "num") ?_; (try dsimp only)))
local macro_rules | `(tactic| walk_at "truthy str") => `(tactic| (refine Mine.truthy_S (by walk_at "num") ?_; (try dsimp only)))
local macro_rules | `(tactic| walk_at "subscriptTail Name Name str int") => `(tactic| (refine Mine.item_S (by walk_at "num") (by walk_at "num") ?_; (try dsimp only)))
local macro_rules | `(tactic| walk_at "subscriptTail Name BinOp str int") => `(tactic| (refine Mine.item_Sn (by walk_at "num") (by walk_at "num") ?_; (try dsimp only)))
section -- B2
open PySem PySem.W PyProof.Rows PySem.Calls
set_option maxRecDepth 100000
set_option maxHeartbeats 4000000
namespace Mine
/-- where a turn of a loop must end -/
inductive TurnEnd (h₀ : Heap) (L : Addr) (s : Shared) (P : (Str → Option Value) → List (Addr × Obj) → Prop) (own news : List (Addr × Obj)) (s₃ : Shared) : Prop
  | mk (m' : Str → Option Value) (news' : List (Addr × Obj)) (F : Fr h₀ L s₃.heap m') (N : News h₀ L s₃.heap (own ++ news')) (adr : ∀ p ∈ news', ∃ q ∈ news, q.1 = p.1) (st : P m' news') (g1 : s₃.gens = s.gens) (g2 : s₃.drawn = s.drawn) (g3 : s₃.os = s.os)
/-- a range's iterator -/
noncomputable abbrev itObj (i n : Nat) : Obj := { cls := .type "range_iterator", dict := none, data := .fields #[rawInt (0 + (i : Int) * 1), rawInt ((n : Int) - (i : Int)), rawInt 1], slots := #[] }
section
variable {prog : Program} {w : World} {A : Around} {E : Value → Shared → Prop} {s : Shared} {Q : Flow → Shared → Prop} {X : Value → Shared → Prop} {qual : Str} {scope : Scope} {L f : Addr} {cd : Value} {h₀ : Heap} {m : Str → Option Value} {news : List (Addr × Obj)} {x : Str} {px : Pos} {body : List Stmt}
theorem loop_range {r : Addr} {n : Nat} {t u v : Tok} (hh : A.handled = none) (F : Fr h₀ L s.heap m) (N : News h₀ L s.heap news) (hr : IsRange s.heap r 0 (n : Int) 1 t u v) (hn : n < 1000000)
    (P : Nat → (Str → Option Value) → List (Addr × Obj) → Prop) (start : P 0 m news)
    (turn : ∀ i m' news' I h tk t, i < n → P i m' news' → (∀ p ∈ news', ∃ q ∈ news, q.1 = p.1) → (∀ q ∈ news, q.1 < I) → Fr h₀ L h (fun y => if y = x then some (.int (i : Int) t) else m' y) → News h₀ L h ((I, itObj (i + 1) n) :: news') →
      ∀ (Nx : Shared → Prop) (Qn : Flow → Shared → Prop), (∀ s₃, TurnEnd h₀ L s (P (i + 1)) [(I, itObj (i + 1) n)] news s₃ → Nx s₃) → (∀ f s₃, Q f s₃ → Qn f s₃) →
      wpAny (model prog w) A (execs body (envOf qual scope L f cd)) (fun fl s₃ => match fl with
        | .next | .cont => Nx s₃
        | .brk => Qn .next s₃
        | .ret v => Qn (.ret v) s₃) (fun _ _ => False) { s with heap := h, toks := tk })
    (done : ∀ m' news' h tk, P n m' news' → (∀ p ∈ news', ∃ q ∈ news, q.1 = p.1) → Fr h₀ L h m' → News h₀ L h news' → Q .next { s with heap := h, toks := tk })
    (hk : scope.kind = .function := by rfl) (hl : (envOf qual scope L f cd).kindOf x = some .local := by rfl) :
    wpAny (model prog w) A (pyIter (.ref r)) (fun it s₂ => codeAny (model prog w) A (.forLoop (.Name x px) it body [] (envOf qual scope L f cd)) (fun r s' => match r with | .ok f => Q f s' | .error e => X e s') s₂) E s := by
  refine wpAny_pyIter_range hr (small_one (by lia) (by lia) (by lia) (by lia)) ?_
  have hI : ∀ q ∈ news, q.1 < s.heap.objs.size := fun q hq => Heap.lt_size (N q hq).1
  have hI0 : h₀.get? s.heap.objs.size = none := none_at_size F
  have hIL : s.heap.objs.size ≠ L := Nat.ne_of_gt F.ns.lt
  have esz : Builtin.Range.rangeSize 0 (n : Int) 1 = (n : Int) := by rw [rangeSize_one]; split <;> lia
  have st : ∀ i (s' : Shared), TurnEnd h₀ L s (P i) [(s.heap.objs.size, itObj i n)] news s' → IsRangeIter s'.heap s.heap.objs.size (0 + (i : Nat) * 1) ((n : Int) - (i : Nat)) 1 := by
    rintro i s' ⟨m', news', _, N', _⟩
    exact (N' _ (.head _)).1
  refine for_walks (Walks.range hh s.heap.objs.size 0 1 n) (fun i s' => TurnEnd h₀ L s (P i) [(s.heap.objs.size, itObj i n)] news s') st ?_ ?_ ?_
  · refine ⟨m, news, F.push _, ?_, fun p hp => ⟨p, hp, rfl⟩, start, rfl, rfl, rfl⟩
    have := N.push F (itObj 0 n)
    have e : ({ cls := .type "range_iterator", data := .fields #[rawInt 0, rawInt (Builtin.Range.rangeSize 0 (n : Int) 1), rawInt 1] } : Obj) = itObj 0 n := by
      rw [esz]
      show _ = ({ cls := _, dict := _, data := .fields #[rawInt (0 + ((0 : Nat) : Int) * 1), rawInt ((n : Int) - ((0 : Nat) : Int)), rawInt 1], slots := _ } : Obj)
      rw [show (0 : Int) + ((0 : Nat) : Int) * 1 = 0 by lia, show (n : Int) - ((0 : Nat) : Int) = n by lia]
    rw [e]; exact this
  · rintro i s' hi ⟨m', news', F', N', hadr, hP, g1, g2, g3⟩ v h' tk ⟨tv, rfl⟩ hS hkp
    have but : But s.heap.objs.size s'.heap h' := fun b o hb e => hkp b o (by simpa using hb) e
    have Nn : News h₀ L s'.heap news' := News.sub N' fun p hp => List.mem_append_right _ hp
    have hne : ∀ p ∈ news', p.1 ≠ s.heap.objs.size := fun p hp e => by
      obtain ⟨q, hq, e'⟩ := hadr p hp
      exact absurd (hI q hq) (by rw [e', e]; exact Nat.lt_irrefl _)
    have F2 := Fr.but F' hI0 hIL but
    have N2 : News h₀ L h' ((s.heap.objs.size, itObj (i + 1) n) :: news') := fun p hp => by
      rcases List.mem_cons.mp hp with rfl | hp
      · exact ⟨hS, hIL, hI0⟩
      · exact News.but Nn hne but p hp
    have e0 : (0 : Int) + (i : Int) * 1 = (i : Int) := by lia
    rw [e0]
    refine wpAny_assign_Name (PyProof.Rows.stN F2 N2 (fun h'' F3 N3 => ?_) hk hl)
    have := turn i m' news' s.heap.objs.size h'' (tk + 1) tv hi hP hadr hI F3 N3 _ _ (fun _ x => x) (fun _ _ x => x)
    have es : ({ s' with heap := h'', toks := tk + 1 } : Shared) = { s with heap := h'', toks := tk + 1 } := sh3 g1 g2 g3 _ _
    show wpAny _ _ _ _ _ { s' with heap := h'', toks := tk + 1 }
    rw [es]; exact this
  · rintro s' ⟨m', news', F', N', hadr, hP, g1, g2, g3⟩ h' tk hkp
    have but : But s.heap.objs.size s'.heap h' := fun b o hb e => hkp b o (by simpa using hb) e
    have Nn : News h₀ L s'.heap news' := News.sub N' fun p hp => List.mem_append_right _ hp
    have hne : ∀ p ∈ news', p.1 ≠ s.heap.objs.size := fun p hp e => by
      obtain ⟨q, hq, e'⟩ := hadr p hp
      exact absurd (hI q hq) (by rw [e', e]; exact Nat.lt_irrefl _)
    have := done m' news' h' tk hP hadr (Fr.but F' hI0 hIL but) (News.but Nn hne but)
    have es : ({ s' with heap := h', toks := tk } : Shared) = { s with heap := h', toks := tk } := sh3 g1 g2 g3 _ _
    rw [es]; exact this
end
end Mine
end
section -- B4
open PySem PySem.W PyProof.Rows PySem.Calls PySem.Builtin PySem.Builtin.Str
set_option maxRecDepth 100000
set_option maxHeartbeats 4000000
namespace Mine
structure GrownG (s s' : Shared) : Prop where
  keep : Keeps s.heap s'.heap
  bare : AllBare s.gens → AllBare s'.gens
  drawn : s'.drawn = s.drawn
  os : s'.os = s.os
theorem GrownG.refl {s : Shared} : GrownG s s := ⟨.refl, id, rfl, rfl⟩
theorem GrownG.trans {a b c : Shared} (x : GrownG a b) (y : GrownG b c) : GrownG a c := ⟨x.keep.trans y.keep, fun h => y.bare (x.bare h), y.drawn.trans x.drawn, y.os.trans x.os⟩
theorem Grown.toG {s s' : Shared} (x : Grown s s') : GrownG s s' := ⟨x.keep, fun h => by rw [x.gens]; exact h, x.drawn, x.os⟩
theorem GrownG.eq {s s' : Shared} (x : GrownG s s') : s' = { s with heap := s'.heap, gens := s'.gens, toks := s'.toks } := by
  exact sh2 (s' := s') x.drawn x.os s'.heap s'.toks s'.gens
theorem Grown.eq {s s' : Shared} (x : Grown s s') : s' = { s with heap := s'.heap, toks := s'.toks } := by
  exact sh3 (s' := s') x.gens x.drawn x.os s'.heap s'.toks
theorem strsAre_snoc {vs : List Value} {ys : List Str} {y : Str} {t : Tok} (h : StrsAre vs ys) : StrsAre (vs ++ [Value.str y t]) (ys ++ [y]) := by
  induction h with
  | nil => exact .cons y t .nil
  | cons z u _ ih => exact .cons z u ih
theorem strsAre_length {vs : List Value} {ys : List Str} (h : StrsAre vs ys) : vs.length = ys.length := by
  induction h with
  | nil => rfl
  | cons z u _ ih => rw [List.length_cons, List.length_cons, ih]
theorem strsAre_get {vs : List Value} {ys : List Str} (h : StrsAre vs ys) : ∀ (i : Nat) (y : Str), ys[i]? = some y → ∃ t, vs[i]? = some (.str y t) := by
  induction h with
  | nil => intro i y e; simp at e
  | cons z u _ ih =>
    intro i y e
    cases i with
    | zero => simp at e; subst e; exact ⟨u, rfl⟩
    | succ i => simpa using ih i y (by simpa using e)
theorem join_S (ls : List (List Nat)) : Txt.join (S []) (ls.map S) = S ls.flatten := by
  have e : ∀ ls : List (List Nat), Str.join (S []) (ls.map S) = S ls.flatten := by
    intro ls
    induction ls with
    | nil => rfl
    | cons a r ih =>
      cases r with
      | nil => simp [Str.join]
      | cons b r =>
        show S a ++ S [] ++ Str.join (S []) ((b :: r).map S) = _
        rw [ih, S_append, S_append]; simp
  rw [eq_of_beq (join_plain_closes (S []) (ls.map S))]
  exact e ls
section
variable {prog : Program} {w : World} {A : Around} {E : Value → Shared → Prop} {s : Shared} {h₀ : Heap} {L D : Addr} {m : Str → Option Value} {news news' : List (Addr × Obj)}
theorem append_S {Q : Value → Shared → Prop} {vs : List Value} {ls : List (List Nat)} {u : List Nat} {t : Tok} {n : Nat} (F : Fr h₀ L s.heap m) (N : News h₀ L s.heap news)
    (U : Upd D (listOf vs.toArray n) (listOf (vs ++ [Value.str (S u) t]).toArray (n + 1)) news news') (hs : StrsAre vs (ls.map S)) (hz : ls.length ≤ 100000)
    (h : ∀ h', Fr h₀ L h' m → News h₀ L h' news' → StrsAre (vs ++ [Value.str (S u) t]) ((ls ++ [u]).map S) → Q .none { s with heap := h' }) :
    wpAny (model prog w) A (call (.builtin "list.append") [.ref D, .str (S u) t]) Q E s := by
  refine append_K (its := vs.toArray) F N (by rw [show vs.toArray.push (Value.str (S u) t) = (vs ++ [Value.str (S u) t]).toArray by simp]; exact U) (fun h' F' N' => h h' F' N' ?_) ?_
  · rw [List.map_append]; exact strsAre_snoc hs
  · rw [List.size_toArray, strsAre_length hs, List.length_map, sizeLine_eq]; lia
theorem join_call {Q : Value → Shared → Prop} {vs : List Value} {ls : List (List Nat)} {x : Str} {t : Tok} {n : Nat} (hx : x = S []) (N : News h₀ L s.heap news) (hm : (D, listOf vs.toArray n) ∈ news) (hs : StrsAre vs (ls.map S))
    (hok : (ls.map List.length).sum ≤ 16777216) (h : ∀ t' k, Q (.str (S ls.flatten) t') { s with toks := k }) :
    wpAny (model prog w) A (call (.builtin "str.join") [.str x t, .ref D]) Q E s := by
  subst hx
  refine join_list (items := vs.toArray) ⟨_, (N _ hm).1, rfl, _, rfl⟩ hs ?_ fun t' k => by rw [join_S]; exact h t' k
  rw [S_length, List.length_nil, Nat.mul_zero, Nat.add_zero, List.map_map]
  have : (fun x => Str.length x) ∘ S = List.length := funext fun l => S_length l
  rw [this]; exact hok
theorem add_S {Q : Value → Shared → Prop} {a b : List Nat} {x y : Str} {t u : Tok} (hx : x = S a) (hy : y = S b) (hz : a.length + b.length ≤ 16777216) (h : ∀ t' k, Q (.str (S (a ++ b)) t') { s with toks := k }) :
    wpAny (model prog w) A (binaryOp .Add (.str x t) (.str y u)) Q E s := by
  subst hx hy
  exact PyProof.Rows.add_str (fun t' k => by rw [S_append]; exact h t' k) (by rw [S_length, S_length, sizeLine_eq]; exact hz)
theorem notIn_S {Q : Value → Shared → Prop} {c : Nat} {l : List Nat} {x : Str} {t u : Tok} (hx : x = S [c]) (h : Q (.bool (!decide (c ∈ l))) s) :
    wpAny (model prog w) A (compareOp .NotIn (.str x u) (.str (S l) t)) Q E s := by
  subst hx
  refine PyProof.Rows.notIn_str ?_
  have := StrLaws.found_one (S l) c
  rw [this]; exact h
end
end Mine
end
local macro_rules | `(tactic| walk_at "compareOp NotIn str str") => `(tactic| (refine Mine.notIn_S (c := 34) rfl ?_))
section -- P4
namespace Mine
/-- the written table: sign by sign, its number, two tokens -/
noncomputable def TOKT : List (List Nat × Nat × Nat × Nat) := [
  ([33], 54, 359, 355), ([33, 61], 28, 361, 303), ([37], 24, 363, 295), ([37, 61], 40, 365, 327),
  ([38], 19, 367, 285), ([38, 61], 41, 369, 329), ([40], 7, 371, 261), ([41], 8, 373, 263),
  ([42], 16, 375, 279), ([42, 42], 35, 377, 317), ([42, 42, 61], 46, 379, 339), ([42, 61], 38, 381, 323),
  ([43], 14, 383, 275), ([43, 61], 36, 385, 319), ([44], 12, 387, 271), ([45], 15, 389, 277),
  ([45, 61], 37, 391, 321), ([45, 62], 51, 393, 349), ([46], 23, 395, 293), ([46, 46, 46], 52, 397, 351),
  ([47], 17, 399, 281), ([47, 47], 47, 401, 341), ([47, 47, 61], 48, 403, 343), ([47, 61], 39, 405, 325),
  ([58], 11, 407, 269), ([58, 61], 53, 409, 353), ([59], 13, 411, 273), ([60], 20, 413, 287),
  ([60, 60], 33, 415, 313), ([60, 60, 61], 44, 417, 335), ([60, 61], 29, 419, 305), ([61], 22, 421, 291),
  ([61, 61], 27, 423, 301), ([62], 21, 425, 289), ([62, 61], 30, 427, 307), ([62, 62], 34, 428, 315),
  ([62, 62, 61], 45, 429, 337), ([64], 49, 430, 345), ([64, 61], 50, 431, 347), ([91], 9, 432, 265),
  ([93], 10, 433, 267), ([94], 32, 434, 311), ([94, 61], 43, 435, 333), ([123], 25, 436, 297),
  ([124], 18, 437, 283), ([124, 61], 42, 438, 331), ([125], 26, 439, 299), ([126], 31, 440, 309)]
noncomputable def TOK : List (List Nat × Nat) := TOKT.map fun r => (r.1, r.2.1)
noncomputable def tokF (l : List Nat) : Option Nat := (TOK.find? fun r => r.1 == l).map (·.2)
theorem tok_nodup : (TOK.map (·.1)).Nodup := by decide +kernel
/-- the operators in a row, sign by sign -/
noncomputable def OPS : List (List Nat) := [[40], [41], [91], [93], [58], [44], [59], [43], [45], [42], [47], [124], [38], [60], [62], [61], [46], [37], [123], [125], [61, 61], [33, 61], [60, 61], [62, 61], [126], [94], [60, 60], [62, 62], [42, 42], [43, 61], [45, 61], [42, 61], [47, 61], [37, 61], [38, 61], [124, 61], [94, 61], [60, 60, 61], [62, 62, 61], [42, 42, 61], [47, 47], [47, 47, 61], [64], [64, 61], [45, 62], [46, 46, 46], [58, 61], [33]]
end Mine
end
section -- B5
open PySem PySem.W PyProof.Rows PySem.Calls PyProof.V PySem.Spec
set_option maxRecDepth 100000
set_option maxHeartbeats 4000000
namespace Mine
noncomputable def tokEntry (w : World) (r : List Nat × Nat × Nat × Nat) : DictEntry := ⟨PyData.keyHash w.params (S r.1), .str (S r.1) r.2.2.1, .int (r.2.1 : Int) r.2.2.2⟩
theorem tok_obj (w : World) : (hq.heap_1 w.params).lookup 50 = some ⟨.type "dict", none, .dict (TOKT.map (tokEntry w)).toArray 48, #[]⟩ := by rfl
noncomputable def DD : List (PyData × PyData) := TOK.map fun r => (PyData.str (S r.1), PyData.int (r.2 : Int))
theorem tok_pairs (w : World) : ∀ l : List (List Nat × Nat × Nat × Nat),
    KeysOf (strKind PP w) (l.map (tokEntry w)).toArray ∧ Pairs (strKind PP w) (l.map (tokEntry w)) (l.map fun r => (S r.1, Value.int (r.2.1 : Int) r.2.2.2)) ∧
    FlatPairs PyData.str (l.map fun r => (S r.1, Value.int (r.2.1 : Int) r.2.2.2)) ((l.map fun r => (r.1, r.2.1)).map fun r => (PyData.str (S r.1), PyData.int (r.2 : Int))) := by
  intro l
  induction l with
  | nil => exact ⟨fun e he => by simp at he, .nil, .nil⟩
  | cons r l ih =>
    obtain ⟨h1, h2, h3⟩ := ih
    refine ⟨fun e he => ?_, .cons (e := tokEntry w r) (strKind_is PP w (S r.1) _) rfl h2, .cons (.int _ _) h3⟩
    rcases List.mem_cons.mp (by simpa using he : e ∈ tokEntry w r :: l.map (tokEntry w)) with rfl | he
    · exact ⟨S r.1, strKind_is PP w _ _, rfl⟩
    · exact h1 e (by simpa using he)
theorem tok_tab {w : World} {h : Heap} (KX : (hq.heap_1 w.params).In h) : StrTab PP w h 50 DD := by
  obtain ⟨h1, h2, h3⟩ := tok_pairs w TOKT
  refine TabAt.ofObj (by decide +kernel) (KX 50 _ (tok_obj w)) ⟨_, _, ⟨rfl, rfl, rfl⟩, rfl, h1, h2, ?_⟩ h3
  have : ((TOKT.map fun r => (S r.1, Value.int (r.2.1 : Int) r.2.2.2)).map (·.1)) = (TOK.map (·.1)).map S := by simp [TOK]
  rw [this]
  exact List.Pairwise.map S (fun a b hn e => hn (S_inj e)) tok_nodup
theorem lookup_tok (l : List Nat) : lookup (.str (S l)) DD = (tokF l).map (fun (n : Nat) => PyData.int (n : Int)) := by
  have : ∀ t : List (List Nat × Nat), lookup (.str (S l)) (t.map fun r => (PyData.str (S r.1), PyData.int (r.2 : Int))) = ((t.find? fun r => r.1 == l).map (·.2)).map (fun (n : Nat) => PyData.int (n : Int)) := by
    intro t
    induction t with
    | nil => rfl
    | cons r t ih =>
      rw [List.map_cons, List.find?_cons]
      show (if same (PyData.str (S r.1)) (PyData.str (S l)) = true then _ else _) = _
      by_cases e : r.1 = l
      · rw [if_pos (by rw [same_str, e]; simp)]
        simp [e]
      · rw [if_neg (by rw [same_str]; simp only [decide_eq_true_eq]; exact fun q => e (S_inj q)), ih, show (r.1 == l) = false by simpa using e]
  exact this TOK
end Mine
end
section -- B6
open PySem PySem.W PyProof.Rows PySem.Calls
set_option maxRecDepth 100000
set_option maxHeartbeats 4000000
namespace Mine
theorem nameB_any {M : Model} {A : Around} {E : Value → Shared → Prop} {s : Shared} {K : Frag} {h₀ : Heap} {C : Addr} {m mg mb : Str → Option Value} {p : Program} {loose : List Str}
    {x : Str} {pos : Pos} {v : Value} {Q : Value → Shared → Prop} {env : Env} (F : Fr h₀ C s.heap m) (X : K.In h₀) (T : TopRead p loose mg mb h₀) (e : nsIn K mainGlobals x = some none) (hv : bootBuiltins x = some v) (hn : x ≠ "__name__") (h : Q v s)
    (hg : env.globals = mainGlobals) (hb : env.builtins = builtinsNs) (hk : env.scope.kind = .function) (hx : env.kindOf x = some .globalImplicit) (hd : (x == ("__debug__" : Str)) = false) :
    wpAny M A (eval (.Name x pos) env) Q E s :=
  Name_function_global hk hx (loadGlobal_builtin (env := env) (by rw [hg]; exact T.g.keeps F.keep) (mg_none_of X T.g e) (by rw [hb]; exact T.b.keeps F.keep) ((T.builtins x hn).trans hv) h) hd
/-- where a step must end -/
noncomputable def StepEnd (s : Shared) (h₀ : Heap) (C : Addr) (gens : Array GenState) (led : List (Addr × Obj)) (m : Str → Option Value) (P : Prop) (s₃ : Shared) : Prop :=
  P ∧ ∃ h'' tk'', s₃ = { s with heap := h'', gens := gens, toks := tk'' } ∧ News h₀ C h'' led ∧ Fr h₀ C h'' m
end Mine
namespace Mine
theorem nameL_any {M : Model} {A : Around} {E : Value → Shared → Prop} {s : Shared} {h₀ : Heap} {C : Addr} {m : Str → Option Value}
    {x : Str} {pos : Pos} {v : Value} {Q : Value → Shared → Prop} {env : Env} (F : Fr h₀ C s.heap m) (e : m x = some v) (h : Q v s) (hl : env.locals = C)
    (hk : env.scope.kind = .function) (hx : env.kindOf x = some .local) (hd : (x == ("__debug__" : Str)) = false) :
    wpAny M A (eval (.Name x pos) env) Q E s := by
  subst hl
  exact wpAny_Name (wpAny_loadName_local hk hx F.ns e h) hd
end Mine
namespace Mine
theorem sl_add {prog : Program} {w : World} {A : Around} {E : Value → Shared → Prop} {s : Shared} {value slice : Expr} {l : List Nat} {t : Tok} {h₀ : Heap} {L : Addr} {m : Str → Option Value} {news : List (Addr × Obj)} {Q : Value → Shared → Prop}
    {i z : Nat} {u v : Tok} (hF : Fr h₀ L s.heap m) (hN : News h₀ L s.heap news) (hsz : l.length ≤ 16777216) (h : ∀ h' t' k, Fr h₀ L h' m → News h₀ L h' news → Q (.str (S ((l.drop i).take z)) t') { s with heap := h', toks := k })
    (hs : subscripted slice false (.str (S l) t) (.ref s.heap.objs.size) = operate [.ref s.heap.objs.size, .str (S l) t] (getItem (.str (S l) t) (.ref s.heap.objs.size)) := by with_unfolding_all rfl)
    (ht : ∀ r, letTemporaryGo value (.str (S l) t) r = pure () := by intro _; with_unfolding_all rfl) :
    wpAny (model prog w) A (subscriptTail value slice (.str (S l) t) (.ref s.heap.objs.size)) Q E { s with heap := s.heap.push { cls := .type "slice", data := .fields #[.int (i : Int) u, .int ((i : Int) + (z : Int)) v, .none] } } := by
  have e : ((i : Int) + (z : Int)) = ((i + z : Nat) : Int) := by push_cast; rfl
  rw [e]
  exact sl_ss hF hN hsz (fun h' t' k a b => by rw [Nat.add_sub_cancel_left]; exact h h' t' k a b) hs ht
theorem notIn_tok {w : World} {A : Around} {E : Value → Shared → Prop} {s : Shared} {h₀ : Heap} {l : List Nat} {t : Tok} {Q : Value → Shared → Prop} (KX : (hq.heap_1 w.params).In h₀) (k : Keeps h₀ s.heap)
    (h : Q (.bool (!(tokF l).isSome)) { s with toks := s.toks + 1 }) : wpAny (model PP w) A (compareOp .NotIn (.str (S l) t) (.ref 50)) Q E s := by
  refine notin_strTab (tok_tab (KX.keeps k)) ?_
  rw [lookup_tok, Option.isSome_map]; exact h
theorem get_tok {w : World} {A : Around} {E : Value → Shared → Prop} {s : Shared} {h₀ : Heap} {l : List Nat} {t u : Tok} {d : Int} {Q : Value → Shared → Prop} (KX : (hq.heap_1 w.params).In h₀) (k : Keeps h₀ s.heap)
    (h : ∀ tk, Q (.int (((tokF l).map Int.ofNat).getD d) tk) { s with toks := s.toks + 1 }) : wpAny (model PP w) A (call (.builtin "dict.get") [.ref 50, .str (S l) t, .int d u]) Q E s := by
  refine call_get2_strTab (tok_tab (KX.keeps k)) (.int _ _) fun v hv => ?_
  rw [lookup_tok] at hv
  generalize tokF l = r at hv h
  cases r with
  | none => have hv' := hv s.heap; clear hv KX k; cases hv'; exact h _
  | some n => have hv' := hv s.heap; clear hv KX k; cases hv'; exact h _
theorem intsAre_snoc {vs : List Value} {ns : List Int} {n : Int} {t : Tok} (h : IntsAre vs ns) : IntsAre (vs ++ [Value.int n t]) (ns ++ [n]) := by
  induction h with
  | nil => exact .cons n t .nil
  | cons z u _ ih => exact .cons z u ih
theorem append_I {prog : Program} {w : World} {A : Around} {E : Value → Shared → Prop} {s : Shared} {h₀ : Heap} {L D : Addr} {m : Str → Option Value} {news news' : List (Addr × Obj)} {Q : Value → Shared → Prop} {vs : List Value} {ns : List Int} {u : Int} {t : Tok} {n : Nat} (F : Fr h₀ L s.heap m) (N : News h₀ L s.heap news)
    (U : Upd D (listOf vs.toArray n) (listOf (vs ++ [Value.int u t]).toArray (n + 1)) news news') (hs : IntsAre vs ns) (hz : ns.length ≤ 100000)
    (h : ∀ h', Fr h₀ L h' m → News h₀ L h' news' → IntsAre (vs ++ [Value.int u t]) (ns ++ [u]) → Q .none { s with heap := h' }) :
    wpAny (model prog w) A (call (.builtin "list.append") [.ref D, .int u t]) Q E s := by
  refine append_K (its := vs.toArray) F N (by rw [show vs.toArray.push (Value.int u t) = (vs ++ [Value.int u t]).toArray by simp]; exact U) (fun h' F' N' => h h' F' N' (intsAre_snoc hs)) ?_
  rw [List.size_toArray, hs.length, sizeLine_eq]; lia
end Mine
end
local macro_rules | `(tactic| walk_at "subscriptTail Name Slice str ref") => `(tactic| ((with_reducible rename Fr _ _ _ _ => F'); (with_reducible rename News _ _ _ _ => N'); first
  | (refine Mine.sl_nn (s := ⟨_, _, _, _, _⟩) F' N' (by walk_at "num") ?_; intro _ _ _ _ _)
  | (refine Mine.sl_sn (s := ⟨_, _, _, _, _⟩) F' N' (by walk_at "num") ?_; intro _ _ _ _ _)
  | (refine Mine.sl_ns (s := ⟨_, _, _, _, _⟩) F' N' (by walk_at "num") (by walk_at "num") ?_; intro _ _ _ _ _)
  | (refine Mine.sl_ss (s := ⟨_, _, _, _, _⟩) F' N' (by walk_at "num") ?_; intro _ _ _ _ _)
  | (refine Mine.sl_add (s := ⟨_, _, _, _, _⟩) F' N' (by walk_at "num") ?_; intro _ _ _ _ _)))
local macro_rules | `(tactic| walk_at "compareOp NotIn str ref") => `(tactic| ((with_reducible rename Fr _ _ _ _ => F'); refine Mine.notIn_tok (by assumption) F'.keep ?_))
local macro_rules | `(tactic| walk_at "call builtin:dict.get") => `(tactic| ((with_reducible rename Fr _ _ _ _ => F'); refine Mine.get_tok (by assumption) F'.keep ?_; intro _))
section -- B7
open PySem PySem.W PyProof.Rows PySem.Calls
set_option maxRecDepth 100000
set_option maxHeartbeats 4000000
namespace Mine
section
variable {prog : Program} {w : World} {A : Around} {E : Value → Shared → Prop} {s : Shared} {Q : Flow → Shared → Prop} {X : Value → Shared → Prop} {qual : Str} {scope : Scope} {L f : Addr} {cd : Value} {h₀ : Heap} {m : Str → Option Value} {news : List (Addr × Obj)} {x : Str} {px : Pos} {body : List Stmt}
theorem loop_list {l : Addr} {vs : List Value} {n : Nat} (hh : A.handled = none) (F : Fr h₀ L s.heap m) (N : News h₀ L s.heap news) (hl₀ : h₀.get? l = some (listOf vs.toArray n))
    (P : Nat → (Str → Option Value) → List (Addr × Obj) → Prop) (start : P 0 m news)
    (turn : ∀ i v m' news' I oI h tk, vs[i]? = some v → P i m' news' → (∀ p ∈ news', ∃ q ∈ news, q.1 = p.1) → (∀ q ∈ news, q.1 < I) → Fr h₀ L h (fun y => if y = x then some v else m' y) → News h₀ L h ((I, oI) :: news') →
      ∀ (Nx : Shared → Prop) (Qn : Flow → Shared → Prop), (∀ s₃, TurnEnd h₀ L s (P (i + 1)) [(I, oI)] news s₃ → Nx s₃) → (∀ f s₃, Q f s₃ → Qn f s₃) →
      wpAny (model prog w) A (execs body (envOf qual scope L f cd)) (fun fl s₃ => match fl with
        | .next | .cont => Nx s₃
        | .brk => Qn .next s₃
        | .ret v => Qn (.ret v) s₃) (fun _ _ => False) { s with heap := h, toks := tk })
    (done : ∀ m' news' h tk, P vs.length m' news' → (∀ p ∈ news', ∃ q ∈ news, q.1 = p.1) → Fr h₀ L h m' → News h₀ L h news' → Q .next { s with heap := h, toks := tk })
    (hk : scope.kind = .function := by rfl) (hl : (envOf qual scope L f cd).kindOf x = some .local := by rfl) :
    wpAny (model prog w) A (pyIter (.ref l)) (fun it s₂ => codeAny (model prog w) A (.forLoop (.Name x px) it body [] (envOf qual scope L f cd)) (fun r s' => match r with | .ok f => Q f s' | .error e => X e s') s₂) E s := by
  have hL0 : s.heap.IsList l vs.toArray := ⟨_, F.keep _ _ hl₀, rfl, _, rfl⟩
  refine wpAny_pyIter_list hL0 ?_
  have hI : ∀ q ∈ news, q.1 < s.heap.objs.size := fun q hq => Heap.lt_size (N q hq).1
  have hI0 : h₀.get? s.heap.objs.size = none := none_at_size F
  have hIL : s.heap.objs.size ≠ L := Nat.ne_of_gt F.ns.lt
  have hlI : l ≠ s.heap.objs.size := Nat.ne_of_lt (Heap.lt_size (F.keep _ _ hl₀))
  have hz : vs.toArray.size = vs.length := by simp
  have st : ∀ i (s' : Shared), (∃ oI, s'.heap.IsListIter s.heap.objs.size l i ∧ TurnEnd h₀ L s (P i) [(s.heap.objs.size, oI)] news s') → s'.heap.IsListIter s.heap.objs.size l i ∧ s'.heap.IsList l vs.toArray := by
    rintro i s' ⟨oI, h1, m', news', F', _⟩
    exact ⟨h1, _, F'.keep _ _ hl₀, rfl, _, rfl⟩
  refine for_walks (Walks.list hh s.heap.objs.size l hlI vs.toArray) (fun i s' => ∃ oI, s'.heap.IsListIter s.heap.objs.size l i ∧ TurnEnd h₀ L s (P i) [(s.heap.objs.size, oI)] news s') st ?_ ?_ ?_
  · exact ⟨_, ⟨_, Heap.get?_push_size _ rfl, rfl, rfl⟩, m, news, F.push _, N.push F _, fun p hp => ⟨p, hp, rfl⟩, start, rfl, rfl, rfl⟩
  · rintro i s' hi ⟨oI, _, m', news', F', N', hadr, hP, g1, g2, g3⟩ v h' tk hv hS hkp
    obtain ⟨oI', hoI', hcI', hdI'⟩ := hS.1
    have hv' : vs[i]? = some v := by simpa using hv
    have but : But s.heap.objs.size s'.heap h' := fun b o hb e => hkp b o (by simpa using hb) e
    have Nn : News h₀ L s'.heap news' := News.sub N' fun p hp => List.mem_append_right _ hp
    have hne : ∀ p ∈ news', p.1 ≠ s.heap.objs.size := fun p hp e => by
      obtain ⟨q, hq, e'⟩ := hadr p hp
      exact absurd (hI q hq) (by rw [e', e]; exact Nat.lt_irrefl _)
    have F2 := Fr.but F' hI0 hIL but
    have N2 : News h₀ L h' ((s.heap.objs.size, oI') :: news') := fun p hp => by
      rcases List.mem_cons.mp hp with rfl | hp
      · exact ⟨hoI', hIL, hI0⟩
      · exact News.but Nn hne but p hp
    refine wpAny_assign_Name (PyProof.Rows.stN F2 N2 (fun h'' F3 N3 => ?_) hk hl)
    have := turn i v m' news' s.heap.objs.size oI' h'' (tk + 1) hv' hP hadr hI F3 N3 _ _ (fun _ x => x) (fun _ _ x => x)
    have es : ({ s' with heap := h'', toks := tk + 1 } : Shared) = { s with heap := h'', toks := tk + 1 } := sh3 g1 g2 g3 _ _
    show wpAny _ _ _ _ _ { s' with heap := h'', toks := tk + 1 }
    rw [es]
    refine wpAny_mono this (fun fl s₃ h₃ => ?_) (fun _ _ x => x)
    have fin : TurnEnd h₀ L s (P (i + 1)) [(s.heap.objs.size, oI')] news s₃ → ∃ oI, s₃.heap.IsListIter s.heap.objs.size l (i + 1) ∧ TurnEnd h₀ L s (P (i + 1)) [(s.heap.objs.size, oI)] news s₃ := fun q =>
      ⟨oI', let ⟨_, _, _, N4, _, _, _, _, _⟩ := q; ⟨oI', (N4 _ (.head _)).1, hcI', hdI'⟩, q⟩
    cases fl with
    | next => exact fin h₃
    | cont => exact fin h₃
    | brk => exact h₃
    | ret v => exact h₃
  · rintro s' ⟨oI, _, m', news', F', N', hadr, hP, g1, g2, g3⟩ h' tk hkp
    rw [hz] at hP
    have but : But s.heap.objs.size s'.heap h' := fun b o hb e => hkp b o (by simpa using hb) e
    have Nn : News h₀ L s'.heap news' := News.sub N' fun p hp => List.mem_append_right _ hp
    have hne : ∀ p ∈ news', p.1 ≠ s.heap.objs.size := fun p hp e => by
      obtain ⟨q, hq, e'⟩ := hadr p hp
      exact absurd (hI q hq) (by rw [e', e]; exact Nat.lt_irrefl _)
    have := done m' news' h' tk hP hadr (Fr.but F' hI0 hIL but) (News.but Nn hne but)
    have es : ({ s' with heap := h', toks := tk } : Shared) = { s with heap := h', toks := tk } := sh3 g1 g2 g3 _ _
    rw [es]; exact this
theorem intsAre_get : ∀ {vs : List Value} {ns : List Int} {i : Nat} {v : Value}, IntsAre vs ns → vs[i]? = some v → ∃ n t, ns[i]? = some n ∧ v = .int n t
  | _, _, _, _, .nil, h => by simp at h
  | _, _, 0, _, .cons n t _, h => ⟨n, t, rfl, by simpa using h.symm⟩
  | _, _, i + 1, _, .cons n t r, h => by
    obtain ⟨n', t', h1, h2⟩ := intsAre_get r (by simpa using h : _ = some _)
    exact ⟨n', t', by simpa using h1, h2⟩
end
end Mine
end
section -- G0
open PySem PySem.W PyProof.Rows PySem.Calls
set_option maxRecDepth 100000
set_option maxHeartbeats 4000000
namespace Mine
section
variable {M : Model} {A : Around} {R : GenEnd} {Y : Protocol} {n : Nat} {s₀ : Shared} {c : Code} {fs : List Frame} {s : Shared} {env : Env}
  {K : Flow → Sem Fin} {H : Value → Sem Fin} {gd : Bool → Bool} {lv : List Value → List Value}
/-- a plain statement within a generator's body -/
theorem seg_stmt {st : Stmt} {rest : List Stmt}
    (h : wpAny M (A.over c fs) (exec st env) (fun f s' => f = .next ∧ Seg M A R Y n s₀ c ((execs rest env).wrap K H gd lv) fs s') (fun _ _ => False) s) :
    Seg M A R Y n s₀ c ((execs (st :: rest) env).wrap K H gd lv) fs s := by
  refine seg_execs_cons (seg_wrap (wpAny_mono h (fun f s' hf => ?_) fun _ _ x => x.elim))
  obtain ⟨rfl, hf⟩ := hf
  exact hf
theorem seg_if {test : Expr} {body orelse : List Stmt} {pos : Pos} {rest : List Stmt}
    (h : wpAny M (A.over c fs) (isTrue test env (eval test env)) (fun b s' =>
      if b = true then Seg M A R Y n s₀ c ((execs body env).wrap (fun f => match f with | .next => (execs rest env).wrap K H gd lv | f => K f) H gd lv) fs s'
      else Seg M A R Y n s₀ c ((execs orelse env).wrap (fun f => match f with | .next => (execs rest env).wrap K H gd lv | f => K f) H gd lv) fs s') (fun _ _ => False) s) :
    Seg M A R Y n s₀ c ((execs (.If test body orelse pos :: rest) env).wrap K H gd lv) fs s := by
  refine seg_execs_cons ?_
  rw [exec_If]
  refine seg_bind_wrap (wpAny_standAt (seg_bind_wrap (wpAny_mono h (fun b s' hb => ?_) fun _ _ x => x.elim)))
  cases b with
  | true => simp only [if_true] at hb ⊢; exact hb
  | false => simp only [Bool.false_eq_true, if_false] at hb ⊢; exact hb
theorem seg_For {target : Expr} {iter : Expr} {body orelse : List Stmt} {pos : Pos}
    (h : wpAny M (A.over c fs) (eval iter env) (fun x s₁ => wpAny M (A.over c fs) (pyIter x) (fun it s₂ =>
      ∀ p, Seg M A R Y n s₀ (.forLoop target it body orelse env) (M.den (.forLoop target it body orelse env))
      (.ret (fun r => ((match r with | .ok f => (.pure f : Sem Flow) | .error e => .raise e).onRaise fun (x : Value) => do
        if (← field x 1) == Value.none then unsupported "frame.own-activation:exception-without-traceback"
        setFlight x env.frame).wrap K H gd lv) none (gd false) (lv []) c p [] :: fs) s₂) (fun _ _ => False) s₁) (fun _ _ => False) s)
    (hs : ∀ x, foldedSetIterable iter env x = pure x := by intro _; rfl) :
    Seg M A R Y n s₀ c ((exec (.For target iter body orelse pos) env).wrap K H gd lv) fs s := by
  rw [exec_For]
  refine seg_bind_wrap (wpAny_standAt (seg_bind_wrap (wpAny_mono h (fun x s₁ h₁ => ?_) fun _ _ x => x.elim)))
  refine seg_bind_wrap (wpAny_of_eq (hs x) ?_)
  refine seg_bind_wrap (wpAny_standAt ?_)
  refine seg_bind_wrap (wpAny_holding (wpAny_mono h₁ (fun it s₂ h₂ => ?_) fun _ _ x => x.elim))
  exact seg_call h₂
end
section
variable {prog : Program} {w : World} {A : Around} {R : GenEnd} {Y : Protocol} {n : Nat} {s₀ : Shared} {fs : List Frame} {s : Shared} {env : Env}
noncomputable def forErr (env : Env) (e : Value) : Sem Fin := (do noteFrame e env; theTreesLotGoes e : Sem Unit).wrap (fun _ => .raise e) .raise id id
noncomputable def forK (target : Expr) (it : Value) (body : List Stmt) (env : Env) : Flow → Sem Fin := fun f => match f with
            | .next | .cont => .pure (.again (.forLoop target it body [] env))
            | .brk => .pure (.done .next)
            | .ret v => .pure (.done (.ret v))
theorem seg_forLoop {target : Expr} {it : Value} {body : List Stmt}
    (h : wpAny (model prog w) (A.over (.forLoop target it body [] env) fs) (pyNext it) (fun r s₁ => match r with
      | none => Seg (model prog w) A R Y n s₀ (.block [] env) (leafOf (.ok .next)) fs s₁
      | some v => wpAny (model prog w) (A.over (.forLoop target it body [] env) fs) (letOwnedTupleGo target it v) (fun _ s₂ =>
          wpAny (model prog w) (A.over (.forLoop target it body [] env) fs) (assign target env v) (fun _ s₃ =>
            Seg (model prog w) A R Y n s₀ (.forLoop target it body [] env) ((execs body env).wrap (forK target it body env) (forErr env) id id) fs s₃) (fun _ _ => False) s₂) (fun _ _ => False) s₁) (fun _ _ => False) s) :
    Seg (model prog w) A R Y n s₀ (.forLoop target it body [] env) ((model prog w).den (.forLoop target it body [] env)) fs s := by
  show Seg _ A R Y n s₀ _ ((forTurn target it body [] env).onRaise (fun x => do noteFrame x env; theTreesLotGoes x)) fs s
  unfold forTurn
  rw [Sem.onRaise_eq_wrap]
  refine seg_bind_wrap (wpAny_standAt ?_)
  refine seg_bind_wrap (wpAny_onRaise (wpAny_mono h (fun r s₁ h₁ => ?_) fun _ _ x => x.elim))
  cases r with
  | none =>
    refine seg_again rfl ?_
    exact h₁
  | some v =>
    dsimp only at h₁ ⊢
    refine seg_bind_wrap (wpAny_mono h₁ (fun _ s₂ h₂ => ?_) fun _ _ x => x.elim)
    refine seg_bind_wrap (wpAny_mono h₂ (fun _ s₃ h₃ => ?_) fun _ _ x => x.elim)
    rw [Sem.bind_eq_wrap', Sem.wrap_wrap]
    rw [Sem.wrap_congr (execs body env) _ _ (K' := forK target it body env) (H' := forErr env)
      (fun f => by cases f <;> rfl)
      (fun e => by first | exact Sem.bind_eq_wrap _ _ | (show (do noteFrame e env; theTreesLotGoes e : Sem Unit).bind (fun _ => .raise e) = _; rw [Sem.bind_eq_wrap]; rfl))]
    exact h₃
end
end Mine
end
section -- P2
namespace Mine
/-- what the generator yields: the place of the last sign, the unit -/
noncomputable def unitsAt : Nat → List Nat → List (Nat × List Nat)
  | _, [] => []
  | i, [c] => [(i, [c])]
  | i, c :: d :: r => if c = 92 then (i + 1, [92, d]) :: unitsAt (i + 2) r else (i, [c]) :: unitsAt (i + 1) (d :: r)
theorem unitsAt_nil (i : Nat) : unitsAt i [] = [] := by rw [unitsAt]
theorem unitsAt_one (i : Nat) : unitsAt i [92] = [(i, [92])] := by rw [unitsAt]
theorem unitsAt_esc (i d : Nat) (r : List Nat) : unitsAt i (92 :: d :: r) = (i + 1, [92, d]) :: unitsAt (i + 2) r := by rw [unitsAt]; simp
theorem unitsAt_plain (i c : Nat) (r : List Nat) (h : c ≠ 92) : unitsAt i (c :: r) = (i, [c]) :: unitsAt (i + 1) r := by
  cases r with
  | nil => rw [unitsAt, unitsAt]
  | cons d r => rw [unitsAt, if_neg h]
theorem at_rest {α : Type} {a ys : List α} {y : α} {r : List α} (h : ys = a ++ y :: r) : ys[ys.length - 1 - r.length]? = some y := by
  subst h
  rw [List.length_append, List.length_cons]
  have : a.length + (r.length + 1) - 1 - r.length = a.length := by omega
  rw [this, List.getElem?_append_right (Nat.le_refl _), Nat.sub_self]; rfl
end Mine
end
section -- B3
open PySem PySem.W PyProof.Rows PySem.Calls
set_option maxRecDepth 100000
set_option maxHeartbeats 4000000
namespace Mine
/-- the body and the scope of the text's n-th statement, a def -/
noncomputable def fnB (i : Nat) : List Stmt := match PP.main.body[i]? with
  | some (.FunctionDef _ _ b _ _ _ _ _ _ _) => b
  | _ => []
noncomputable def fnS (i : Nat) : Scope := match PP.main.body[i]? with
  | some (.FunctionDef _ _ _ _ _ _ s _ _ _) => s
  | _ => { kind := .function, names := [], isGenerator := false, isCoroutine := false, more := [] }
theorem inner_turn {bc k : Nat} {x : List Nat} {rw new : List Int} {dist j v : Int} (hk : k < x.length) (hrl : rw.length = x.length) (hnl : new.length = k)
    (hin : inner bc j j x rw = new ++ inner bc dist (lastOf j new) (x.drop k) (rw.drop k))
    (hv : v = min (min (lastOf j new) ((new ++ rw.drop k).getD k 0) + 2) (dist + if bc = x[k] then 0 else 2)) :
    inner bc j j x rw = (new ++ [v]) ++ inner bc ((new ++ rw.drop k).getD k 0) (lastOf j (new ++ [v])) (x.drop (k + 1)) (rw.drop (k + 1)) ∧ (new ++ rw.drop k).set k v = (new ++ [v]) ++ rw.drop (k + 1) := by
  have hk' : k < rw.length := by omega
  have e1 : x.drop k = x[k] :: x.drop (k + 1) := List.drop_eq_getElem_cons hk
  have e2 : rw.drop k = rw[k] :: rw.drop (k + 1) := List.drop_eq_getElem_cons hk'
  have e3 : (new ++ rw.drop k).getD k 0 = rw[k] := by
    rw [e2, List.getD_eq_getElem?_getD, List.getElem?_append_right (by omega), hnl, Nat.sub_self]; rfl
  rw [e3] at hv ⊢
  rw [e1, e2] at hin
  refine ⟨?_, ?_⟩
  · rw [hin, inner_cons, ← hv, lastOf_append]; simp
  · rw [List.set_append_right _ _ (by omega), hnl, Nat.sub_self, e2, List.set_cons_zero, List.append_assoc, List.singleton_append]
theorem inner_end {bc : Nat} {x : List Nat} {rw new : List Int} {dist j : Int} (hin : inner bc j j x rw = new ++ inner bc dist (lastOf j new) (x.drop x.length) (rw.drop x.length)) : inner bc j j x rw = new := by
  rw [List.drop_length] at hin
  rw [hin]; exact List.append_nil new
end Mine
end
section -- G1
open PySem PySem.W PyProof.Rows PySem.Calls
set_option maxRecDepth 100000
set_option maxHeartbeats 4000000
namespace Mine
/-- the heap up to an address -/
noncomputable def cutAt (h : Heap) (C : Nat) : Heap := ⟨h.objs.extract 0 C, h.life⟩
theorem cutAt_get {h : Heap} {C b : Nat} : (cutAt h C).get? b = if b < C then h.get? b else none := by
  unfold cutAt Heap.get?
  dsimp only
  rw [Array.getElem?_extract]
  by_cases hb : b < C
  · rw [if_pos hb]
    by_cases hs : b < h.objs.size
    · rw [if_pos (by lia), Nat.zero_add]
    · rw [if_neg (by lia), Array.getElem?_eq_none (by lia)]
  · rw [if_neg hb, if_neg (by lia)]
theorem cutAt_size {h : Heap} {C : Nat} : (cutAt h C).objs.size ≤ C := by
  show (h.objs.extract 0 C).size ≤ C
  rw [Array.size_extract]; lia
/-- the objects between two addresses -/
noncomputable def between (h : Heap) (C N : Nat) : List (Addr × Obj) := (List.range N).filterMap fun b => if C < b then (h.get? b).map (b, ·) else none
theorem mem_between {h : Heap} {C N : Nat} {p : Addr × Obj} : p ∈ between h C N ↔ C < p.1 ∧ p.1 < N ∧ h.get? p.1 = some p.2 := by
  obtain ⟨b, o⟩ := p
  simp only [between, List.mem_filterMap, List.mem_range]
  constructor
  · rintro ⟨x, hx, e⟩
    split at e
    · rename_i hC
      cases hg : h.get? x with
      | none => rw [hg] at e; cases e
      | some o' => rw [hg] at e; cases e; exact ⟨hC, hx, hg⟩
    · cases e
  · rintro ⟨a1, a2, a3⟩
    exact ⟨b, a2, by rw [if_pos a1, a3]; rfl⟩
/-- all that stood below N, but for the generator's frame, stands -/
noncomputable def Held (N C : Nat) (h h' : Heap) : Prop := ∀ b o, b ≠ C → b < N → h.get? b = some o → h'.get? b = some o
theorem held_ground {N C : Nat} {h₀ h : Heap} {m : Str → Option Value} (hC : C < N) (hn : h.Ns C m) (hk : Held N C h₀ h) : Fr (cutAt h₀ C) C h m ∧ News (cutAt h₀ C) C h (between h₀ C N) := by
  refine ⟨⟨hn, fun b o e => ?_, cutAt_size⟩, fun p hp => ?_⟩
  · rw [cutAt_get] at e
    split at e
    · rename_i hb
      exact hk b o (Nat.ne_of_lt hb) (Nat.lt_trans hb hC) e
    · cases e
  · obtain ⟨a1, a2, a3⟩ := mem_between.mp hp
    exact ⟨hk _ _ (Nat.ne_of_gt a1) a2 a3, Nat.ne_of_gt a1, by rw [cutAt_get, if_neg (Nat.not_lt.mpr (Nat.le_of_lt a1))]⟩
theorem held_of {N C : Nat} {h₀ h : Heap} {m : Str → Option Value} {news : List (Addr × Obj)} (F : Fr (cutAt h₀ C) C h m) (N' : News (cutAt h₀ C) C h news) (hs : ∀ p ∈ between h₀ C N, p ∈ news) : Held N C h₀ h := by
  intro b o hb hN e
  rcases Nat.lt_or_gt_of_ne hb with hlt | hgt
  · exact F.keep b o (by rw [cutAt_get, if_pos hlt]; exact e)
  · exact (N' _ (hs (b, o) (mem_between.mpr ⟨hgt, hN, e⟩))).1
noncomputable def gTarget : Expr := match ((fnB 7)[2]? : Option Stmt) with | some (.For t _ _ _ _) => t | _ => .Constant .none 0 default
noncomputable def gLoop : List Stmt := match ((fnB 7)[2]? : Option Stmt) with | some (.For _ _ b _ _) => b | _ => []
noncomputable def gTail : List Stmt := (fnB 7).drop 3
noncomputable abbrev gEnv (C : Addr) : Env := envOf (nm "_iter_escaped_chars") (fnS 7) C 35 (.ref 34)
noncomputable abbrev gCode (C e : Addr) : Code := .forLoop gTarget (.ref e) gLoop [] (gEnv C)
section
variable {w : World} {A : Around} {R : GenEnd} {Y : Protocol} {n : Nat} {s₀ s : Shared} {fs : List Frame} {C e it N : Addr} {l : List Nat} {t : Tok} {m : Str → Option Value} {i : Nat}
noncomputable abbrev gSt (e it : Addr) (l : List Nat) (t : Tok) (i : Nat) (h : Heap) : Prop := (∃ old, IsEnum h e it i old) ∧ h.IsStrIter it "str_ascii_iterator" (S l) t i
theorem gSt_of {h h' : Heap} (x : gSt e it l t i h) (k1 : ∀ o, h.get? e = some o → h'.get? e = some o) (k2 : ∀ o, h.get? it = some o → h'.get? it = some o) : gSt e it l t i h' := by
  obtain ⟨⟨old, h1⟩, o, h2, r⟩ := x
  exact ⟨⟨old, k1 _ h1⟩, o, k2 _ h2, r⟩
theorem gSt_objs {h : Heap} (x : gSt e it l t i h) : ∃ oe oi, h.get? e = some oe ∧ h.get? it = some oi := by
  obtain ⟨⟨old, h1⟩, o, h2, r⟩ := x
  exact ⟨_, _, h1, h2⟩
theorem gen_turn (hh : (A.over (gCode C e) fs).handled = none) (hi : i < l.length) (hei : e ≠ it) (heN : N ≤ e) (hiN : N ≤ it) (hCN : C < N)
    (st : gSt e it l t i s.heap) (F : Fr (cutAt s₀.heap C) C s.heap m) (Nw : News (cutAt s₀.heap C) C s.heap (between s₀.heap C N))
    (next : ∀ h' tk tp tc oe oi, gSt e it l t (i + 1) h' → Fr (cutAt s₀.heap C) C h' (fun y => if y = nm "ch" then some (.str (S [l[i]]) tc) else if y = nm "pos" then some (.int (i : Int) tp) else m y) →
      News (cutAt s₀.heap C) C h' ((e, oe) :: (it, oi) :: between s₀.heap C N) →
      Seg (model PP w) A R Y n s₀ (gCode C e) ((execs gLoop (gEnv C)).wrap (forK gTarget (.ref e) gLoop (gEnv C)) (forErr (gEnv C)) id id) fs { s with heap := h', toks := tk }) :
    Seg (model PP w) A R Y n s₀ (gCode C e) ((model PP w).den (gCode C e)) fs s := by
  have D := Draws.strAscii (prog := PP) (w := w) (A := (A.over (gCode C e) fs).in1) hh it (S l) t
  have W := WalksT.enumerateD (A := A.over (gCode C e) fs) D e hei (by simpa using hei) (by simp)
  have hz : (S l).cps.size = l.length := by simp
  have hbt : ∀ p ∈ between s₀.heap C N, p.1 ≠ e ∧ p.1 ≠ it := fun p hp => by
    obtain ⟨_, a2, _⟩ := mem_between.mp hp
    constructor
    · intro q; rw [q] at a2; exact absurd a2 (Nat.not_lt.mpr heN)
    · intro q; rw [q] at a2; exact absurd a2 (Nat.not_lt.mpr hiN)
  have hCe : C ≠ e := fun q => by rw [← q] at heN; exact absurd hCN (Nat.not_lt.mpr heN)
  have hCi : C ≠ it := fun q => by rw [← q] at hiN; exact absurd hCN (Nat.not_lt.mpr hiN)
  have keepF : ∀ {h h' : Heap} {m : Str → Option Value}, Fr (cutAt s₀.heap C) C h m → (∀ b o, b ∉ [e, it] → h.get? b = some o → h'.get? b = some o) → Fr (cutAt s₀.heap C) C h' m := by
    intro h h' m F k
    refine ⟨F.ns.at' fun o q => k _ _ (by simp [hCe, hCi]) q, fun b o q => ?_, F.above⟩
    have hb : b < C := by
      rw [cutAt_get] at q
      split at q
      · assumption
      · cases q
    have hbN : b < N := Nat.lt_trans hb hCN
    refine k b o ?_ (F.keep b o q)
    intro hm
    rcases List.mem_cons.mp hm with q2 | hm
    · exact absurd hbN (by rw [q2]; exact Nat.not_lt.mpr heN)
    · exact absurd hbN (by rw [List.mem_singleton.mp hm]; exact Nat.not_lt.mpr hiN)
  have keepN : ∀ {h h' : Heap}, News (cutAt s₀.heap C) C h (between s₀.heap C N) → (∀ b o, b ∉ [e, it] → h.get? b = some o → h'.get? b = some o) → News (cutAt s₀.heap C) C h' (between s₀.heap C N) := by
    intro h h' Nn k p hp
    exact ⟨k _ _ (by simp [hbt p hp]) (Nn p hp).1, (Nn p hp).2⟩
  refine seg_forLoop ?_
  refine W.item i s _ _ (by rw [hz]; exact hi) st fun T vals h₁ tk₁ hP hT hTt hmid hk₁ => ?_
  obtain ⟨tp, x, ⟨c, u, hc, rfl⟩, rfl⟩ := hP
  have hc' : c = l[i] := by
    have : l[i]? = some c := by simpa using hc
    rw [List.getElem?_eq_getElem hi] at this
    exact (Option.some.inj this).symm
  subst hc'
  have hTw := W.apart i T _ hmid
  have eT : gTarget = gTarget := rfl
  conv at eT => rhs; whnf
  rw [eT]
  refine W.go _ _ _ i T { s with heap := h₁, toks := tk₁ } _ _ hmid fun h₂ st₂ hk₂ => ?_
  have F₂ := keepF (keepF F hk₁) hk₂
  have N₂ := keepN (keepN Nw hk₁) hk₂
  have hT₂ : h₂.IsTuple T #[.int (i : Int) tp, .str ⟨#[l[i]]⟩ u] := by
    obtain ⟨o, ho, r⟩ := hTt
    exact ⟨o, hk₂ _ _ hTw ho, r⟩
  refine wpAny_assign_Tuple hh hT₂ rfl rfl fun h₃ hx₃ => ?_
  replace hx₃ : Heap.ExtBut h₂.objs.size h₂ h₃ := hx₃
  have kx : ∀ b o, h₂.get? b = some o → h₃.get? b = some o := fun b o q => hx₃ b o (Nat.ne_of_lt (Heap.lt_size q)) q
  have F₃ := Fr.grown F₂ kx
  have N₃ := News.keepsK N₂ kx
  have st₃ : gSt e it l t (i + 1) h₃ := gSt_of st₂ (kx e) (kx it)
  obtain ⟨oe, oi, hoe, hoi⟩ := gSt_objs st₃
  have N₃' : News (cutAt s₀.heap C) C h₃ ((e, oe) :: (it, oi) :: between s₀.heap C N) := fun p hp => by
    rcases List.mem_cons.mp hp with rfl | hp
    · exact ⟨hoe, Ne.symm hCe, by rw [cutAt_get, if_neg (by have := Nat.lt_of_lt_of_le hCN heN; exact Nat.not_lt.mpr (Nat.le_of_lt this))]⟩
    · rcases List.mem_cons.mp hp with rfl | hp
      · exact ⟨hoi, Ne.symm hCi, by rw [cutAt_get, if_neg (by have := Nat.lt_of_lt_of_le hCN hiN; exact Nat.not_lt.mpr (Nat.le_of_lt this))]⟩
      · exact N₃ p hp
  rw [← eT]
  refine wpAny_bind (wpAny_holding (wpAny_assign_Name (PyProof.Rows.stN F₃ N₃' (fun h₄ F₄ N₄ => ?_) rfl rfl)))
  refine wpAny_bind (wpAny_holding (wpAny_assign_Name (PyProof.Rows.stN F₄ N₄ (fun h₅ F₅ N₅ => wpAny_pure ?_) rfl rfl)))
  refine next h₅ _ _ _ oe oi (gSt_of st₃ (fun o q => ?_) (fun o q => ?_)) F₅ N₅
  · rw [(N₅ _ (.head _)).1]; rw [hoe] at q; exact q
  · rw [(N₅ _ (.tail _ (.head _))).1]; rw [hoi] at q; exact q
end
end Mine
end
section -- G2
open PySem PySem.W PyProof.Rows PySem.Calls
set_option maxRecDepth 100000
set_option maxHeartbeats 4000000
namespace Mine
theorem Fr.lays' {h₀ h : Heap} {L : Addr} {m : Str → Option Value} (l : List (Str × Value)) (F : Fr h₀ L h m) (e : Has m l) : Fr h₀ L h (ov l m) := Fr.lays l e F
/-- only the heap and the tokens have moved; what stood below N stands, but for the generator's frame -/
noncomputable def Since (N C : Nat) (s₀ s : Shared) : Prop := ∃ h' tk, s = { s₀ with heap := h', toks := tk } ∧ Held N C s₀.heap h'
theorem Since.refl {N C : Nat} {s : Shared} : Since N C s s := ⟨s.heap, s.toks, rfl, fun _ _ _ _ e => e⟩
theorem Since.to {N C : Nat} {s₀ s : Shared} {h' : Heap} {tk : Tok} (x : Since N C s₀ s) (k : Held N C s₀.heap h') : Since N C s₀ { s with heap := h', toks := tk } := by
  obtain ⟨h₁, tk₁, rfl, _⟩ := x
  exact ⟨h', tk, rfl, k⟩
/-- what is yielded, and what must stand for the next turn -/
noncomputable def escY (N C : Nat) (ys : List (Nat × List Nat)) : Protocol := fun m s₀ v s kap =>
  (∃ p u T tk tk', ys[ys.length - 1 - m]? = some (p, u) ∧ v = .ref T ∧ s.heap.IsTuple T #[.int (p : Int) tk, .str (S u) tk']) ∧ Since N C s₀ s ∧
  ∃ fp : List Addr, C ∈ fp ∧ (∀ b ∈ fp, b = C ∨ N ≤ b) ∧ (∀ b ∈ fp, ∃ o, s.heap.get? b = some o) ∧
    ∀ s'', (∀ b ∈ fp, ∀ o, s.heap.get? b = some o → s''.heap.get? b = some o) → kap (.send .none) s''
noncomputable def escR (N C : Nat) : GenEnd := fun n s₀ r s₁ => r = .ok (.ret .none) ∧ (n = 0 ∧ Since N C s₀ s₁)
/-- the function's end and its errors -/
noncomputable def gK0 : Flow → Sem Fin := fun f => .pure (.done (.ret (match f with | .ret v => v | _ => .none)))
noncomputable def gH0 (C : Addr) : Value → Sem Fin := fun e => (leaving (gEnv C) e).wrap (fun _ => .raise e) .raise id id
noncomputable def gFrame (C : Addr) (p : Pos) : Frame := .ret (fun r => ((match r with | .ok f => (.pure f : Sem Flow) | .error e => .raise e).onRaise fun (x : Value) => do
        if (← field x 1) == Value.none then unsupported "frame.own-activation:exception-without-traceback"
        setFlight x (gEnv C).frame).wrap (fun (f : Flow) => match f with | .next => (execs gTail (gEnv C)).wrap gK0 (gH0 C) id id | f => gK0 f) (gH0 C) id id) none (id false) (id []) (.func (fnB 7) (gEnv C)) p []
section
variable {w : World} {A : Around} {N C e it : Addr} {l : List Nat} {t : Tok} {ys : List (Nat × List Nat)} {s₀ s : Shared} {m : Str → Option Value}
theorem seg_tail (F : Fr (cutAt s₀.heap C) C s.heap m) (Nw : News (cutAt s₀.heap C) C s.heap (between s₀.heap C N)) (hs : Since N C s₀ s)
    (he : m (nm "escape") = some (.bool false)) :
    Seg (model PP w) A (escR N C) (escY N C ys) 0 s₀ (.func (fnB 7) (gEnv C)) ((execs gTail (gEnv C)).wrap gK0 (gH0 C) id id) [] s := by
  have eT : gTail = gTail := rfl
  conv at eT => rhs; whnf
  rw [eT]
  have F1 := Fr.lay F he
  refine seg_if ?_
  walk_at "go 0"
  exact seg_end (.ok (.ret .none)) ⟨rfl, rfl, hs⟩
theorem seg_tailE {i : Nat} {tp : Tok} {a : List (Nat × List Nat)} (hCN : C < N) (hy : ys = a ++ [(i, [92])]) (F : Fr (cutAt s₀.heap C) C s.heap m) (Nw : News (cutAt s₀.heap C) C s.heap (between s₀.heap C N)) (hs : Since N C s₀ s)
    (he : m (nm "escape") = some (.bool true)) (hp : m (nm "pos") = some (.int (i : Int) tp)) :
    Seg (model PP w) A (escR N C) (escY N C ys) 1 s₀ (.func (fnB 7) (gEnv C)) ((execs gTail (gEnv C)).wrap gK0 (gH0 C) id id) [] s := by
  have eT : gTail = gTail := rfl
  conv at eT => rhs; whnf
  rw [eT]
  have F1 := Fr.lays [(nm "escape", .bool true), (nm "pos", .int (i : Int) tp)] ⟨he, hp, trivial⟩ F
  dsimp only [ov] at F1
  clear F
  refine seg_if ?_
  walk_at "go 0"
  refine seg_execs_cons (seg_Expr_Yield rfl rfl rfl ?_)
  walk_at "go 0"
  rename Fr _ _ _ _ => F5
  rename News _ _ _ _ => N5
  rename_i kap hkap
  refine ⟨⟨i, [92], _, _, _, at_rest (r := []) hy, rfl, ⟨_, (N5 _ (.head _)).1, rfl, _, rfl⟩⟩, hs.to (held_of F5 N5 fun p hp => .tail _ hp), [C], by simp, by simp, ?_, fun s'' _ => hkap .none s'' ?_⟩
  · intro b hb
    rw [List.mem_singleton.mp hb]
    obtain ⟨o, _, _, h1, _⟩ := F5.ns
    exact ⟨o, h1⟩
  · exact seg_end (.ok (.ret .none)) ⟨rfl, rfl, Since.refl⟩
/-- the ground with the enumerate's two objects -/
theorem held_ground2 {N C e it : Nat} {h : Heap} {i : Nat} {m : Str → Option Value} (hCN : C < N) (heN : N ≤ e) (hiN : N ≤ it) (hn : h.Ns C m) (st : gSt e it l t i h) :
    ∃ oe oi, Fr (cutAt h C) C h m ∧ News (cutAt h C) C h ((e, oe) :: (it, oi) :: between h C N) ∧ ∀ h', h'.get? e = some oe → h'.get? it = some oi → gSt e it l t i h' := by
  obtain ⟨F, Nn⟩ := held_ground (N := N) (h₀ := h) hCN hn (fun _ _ _ _ x => x)
  obtain ⟨oe, oi, hoe, hoi⟩ := gSt_objs st
  refine ⟨oe, oi, F, fun p hp => ?_, fun h' h1 h2 => gSt_of st (fun o q => ?_) (fun o q => ?_)⟩
  · rcases List.mem_cons.mp hp with rfl | hp
    · exact ⟨hoe, Nat.ne_of_gt (Nat.lt_of_lt_of_le hCN heN), by rw [cutAt_get, if_neg (by have := Nat.lt_of_lt_of_le hCN heN; exact Nat.not_lt.mpr (Nat.le_of_lt this))]⟩
    · rcases List.mem_cons.mp hp with rfl | hp
      · exact ⟨hoi, Nat.ne_of_gt (Nat.lt_of_lt_of_le hCN hiN), by rw [cutAt_get, if_neg (by have := Nat.lt_of_lt_of_le hCN hiN; exact Nat.not_lt.mpr (Nat.le_of_lt this))]⟩
      · exact Nn p hp
  · rw [hoe] at q; rw [← Option.some.inj q]; exact h1
  · rw [hoi] at q; rw [← Option.some.inj q]; exact h2
theorem gen_done (hh : (A.over (gCode C e) [gFrame C p]).handled = none) (hei : e ≠ it) (heN : N ≤ e) (hiN : N ≤ it) (hCN : C < N)
    (st : gSt e it l t l.length s.heap) (hn : s.heap.Ns C m) (hs : Since N C s₀ s) (n : Nat)
    (next : ∀ s', Fr (cutAt s₀.heap C) C s'.heap m → News (cutAt s₀.heap C) C s'.heap (between s₀.heap C N) → Since N C s₀ s' →
      Seg (model PP w) A (escR N C) (escY N C ys) n s₀ (.func (fnB 7) (gEnv C)) ((execs gTail (gEnv C)).wrap gK0 (gH0 C) id id) [] s') :
    Seg (model PP w) A (escR N C) (escY N C ys) n s₀ (gCode C e) ((model PP w).den (gCode C e)) [gFrame C p] s := by
  have D := Draws.strAscii (prog := PP) (w := w) (A := (A.over (gCode C e) [gFrame C p]).in1) hh it (S l) t
  have W := WalksT.enumerateD (A := A.over (gCode C e) [gFrame C p]) D e hei (by simpa using hei) (by simp)
  have hz : (S l).cps.size = l.length := by simp
  refine seg_forLoop ?_
  refine W.done s _ _ (by rw [hz]; exact st) fun h' tk hk => ?_
  refine seg_leaf (.ok .next) ?_
  have kH : Held N C s.heap h' := fun b o hb hN q => hk b o (by
    intro hm
    rcases List.mem_cons.mp hm with q2 | hm
    · exact absurd hN (by rw [q2]; exact Nat.not_lt.mpr heN)
    · exact absurd hN (by rw [List.mem_singleton.mp hm]; exact Nat.not_lt.mpr hiN)) q
  have kC : ∀ o, s.heap.get? C = some o → h'.get? C = some o := fun o q => hk C o (by
    intro hm
    rcases List.mem_cons.mp hm with q2 | hm
    · exact absurd hCN (by rw [q2]; exact Nat.not_lt.mpr heN)
    · exact absurd hCN (by rw [List.mem_singleton.mp hm]; exact Nat.not_lt.mpr hiN)) q
  obtain ⟨h₁, tk₁, rfl, hH⟩ := hs
  have hH' : Held N C s₀.heap h' := fun b o hb hN q => kH b o hb hN (hH b o hb hN q)
  obtain ⟨F', N'⟩ := held_ground hCN (hn.at' kC) hH'
  exact next { s₀ with heap := h', toks := tk } F' N' ⟨h', tk, rfl, hH'⟩
theorem fp_above (heN : N ≤ e) (hiN : N ≤ it) : ∀ b ∈ [C, e, it], b = C ∨ N ≤ b := by
  intro b hb
  rcases List.mem_cons.mp hb with rfl | hb
  · exact .inl rfl
  · rcases List.mem_cons.mp hb with rfl | hb
    · exact .inr heN
    · rw [List.mem_singleton] at hb; subst hb; exact .inr hiN
theorem fp_stands {h : Heap} {m : Str → Option Value} {oe oi : Obj} (hn : h.Ns C m) (he : h.get? e = some oe) (hi : h.get? it = some oi) : ∀ b ∈ [C, e, it], ∃ o, h.get? b = some o := by
  intro b hb
  rcases List.mem_cons.mp hb with rfl | hb
  · obtain ⟨o, _, _, h1, _⟩ := hn
    exact ⟨o, h1⟩
  · rcases List.mem_cons.mp hb with rfl | hb
    · exact ⟨_, he⟩
    · rw [List.mem_singleton] at hb; subst hb; exact ⟨_, hi⟩
theorem fp_kept {h h'' : Heap} (k : ∀ b ∈ [C, e, it], ∀ o, h.get? b = some o → h''.get? b = some o) : ∀ b ∈ [C, e, it], ∀ o, h.get? b = some o → h''.get? b = some o := k
theorem snoc_rest {α : Type} {ys a : List α} {y : α} {r : List α} (h : ys = a ++ y :: r) : ys = (a ++ [y]) ++ r := by rw [h]; simp
theorem held_mem {N C e it : Nat} {oe oi : Obj} {h : Heap} : ∀ p ∈ between h C N, p ∈ (e, oe) :: (it, oi) :: between h C N := fun p hp => .tail _ (.tail _ hp)
theorem seg_esc (p : Pos) (hh : (A.over (gCode C e) [gFrame C p]).handled = none) (hei : e ≠ it) (heN : N ≤ e) (hiN : N ≤ it) (hCN : C < N) (hys : ys = unitsAt 0 l) :
    ∀ (k i : Nat) (a : List (Nat × List Nat)), l.length - i ≤ k → i ≤ l.length → ys = a ++ unitsAt i (l.drop i) → ∀ (s₀ s : Shared) (m : Str → Option Value), gSt e it l t i s.heap → s.heap.Ns C m → m (nm "escape") = some (.bool false) → Since N C s₀ s →
      Seg (model PP w) A (escR N C) (escY N C ys) (unitsAt i (l.drop i)).length s₀ (gCode C e) ((model PP w).den (gCode C e)) [gFrame C p] s := by
  intro k
  induction k using Nat.strongRecOn with
  | ind k ih =>
  intro i a hk hi ha s₀ s m st hn hesc hs
  by_cases hge : l.length ≤ i
  · have hil : i = l.length := by lia
    subst hil
    rw [List.drop_length, unitsAt_nil]
    exact gen_done hh hei heN hiN hCN st hn hs _ fun s' F' N' hs' => seg_tail F' N' hs' hesc
  · have hlt : i < l.length := by lia
    have ed : l.drop i = l[i] :: l.drop (i + 1) := List.drop_eq_getElem_cons hlt
    obtain ⟨h₁, tk₁, rfl, hH⟩ := id hs
    obtain ⟨F, Nn⟩ := held_ground hCN hn hH
    refine gen_turn hh hlt hei heN hiN hCN st F Nn fun h₂ tk₂ tp tc oe oi st₂ F₂ N₂ => ?_
    have eL : gLoop = gLoop := rfl
    conv at eL => rhs; whnf
    rw [eL]
    have F₃ := Fr.lays' [(nm "escape", .bool false), (nm "ch", .str (S [l[i]]) tc), (nm "pos", .int (i : Int) tp)] F₂ ⟨hesc, rfl, rfl, trivial⟩
    dsimp only [ov] at F₃
    clear F₂
    refine seg_if ?_
    walk_at "go 0"
    refine seg_if ?_
    walk_at "go 0"
    · rename ((S _ == Str.ofString "\\") = true) => hc
      have hc' : l[i] = 92 := (List.cons.inj (S_inj (eq_of_beq hc))).1
      have st₂' : ∀ h', h'.get? e = some oe → h'.get? it = some oi → gSt e it l t (i + 1) h' := fun h' h1 h2 => gSt_of st₂ (fun o q => by rw [(N₂ _ (.head _)).1] at q; rw [← Option.some.inj q]; exact h1) (fun o q => by rw [(N₂ _ (.tail _ (.head _))).1] at q; rw [← Option.some.inj q]; exact h2)
      refine seg_stmt ?_
      walk_at "go 0"
      refine seg_again rfl ?_
      rename Fr _ _ _ _ => F₄
      rename News _ _ _ _ => N₄
      have hs₄ := hs.to (tk := tk₂ + 1 + 1) (held_of F₄ N₄ held_mem)
      by_cases hge : l.length ≤ i + 1
      · have eu : l.drop (i + 1) = [] := List.drop_eq_nil_of_le hge
        have hil : i + 1 = l.length := by lia
        rw [ed, eu, hc', unitsAt_one]
        rw [ed, eu, hc', unitsAt_one] at ha
        rw [hil] at st₂'
        exact gen_done hh hei heN hiN hCN (st₂' _ (N₄ _ (.head _)).1 (N₄ _ (.tail _ (.head _))).1) F₄.ns hs₄ _ fun s' F' N' hs' => seg_tailE hCN ha F' N' hs' rfl rfl
      · have hlt' : i + 1 < l.length := by lia
        have ed' : l.drop (i + 1) = l[i + 1] :: l.drop (i + 2) := List.drop_eq_getElem_cons hlt'
        rw [ed, ed', hc', unitsAt_esc]
        rw [ed, ed', hc', unitsAt_esc] at ha
        have N₄' : News (cutAt s₀.heap C) C _ (between s₀.heap C N) := News.sub N₄ held_mem
        clear F₃ N₂ F Nn
        refine gen_turn hh hlt' hei heN hiN hCN (st₂' _ (N₄ _ (.head _)).1 (N₄ _ (.tail _ (.head _))).1) F₄ N₄' fun h₅ tk₅ tp tc oe oi st₅ F₅ N₅ => ?_
        rw [eL]
        have F₆ := Fr.lays' [(nm "escape", .bool true), (nm "ch", .str (S [l[i + 1]]) tc), (nm "pos", .int ((i + 1 : Nat) : Int) tp)] F₅ ⟨rfl, rfl, rfl, trivial⟩
        dsimp only [ov] at F₆
        clear F₅ F₄ N₄ N₄'
        refine seg_if ?_
        walk_at "go 0"
        refine seg_execs_cons (seg_Expr_Yield rfl rfl rfl ?_)
        walk_at "go 0"
        refine PyProof.Rows.add_str (fun t' tk' => ?_) (by rw [show (Str.ofString "\\").length = 1 from rfl, S_length, sizeLine_eq]; show 1 + 1 ≤ 16777216; decide)
        rw [show Str.ofString "\\" ++ S [l[i + 1]] = S [92, l[i + 1]] from S_append [92] [l[i + 1]]]
        walk_at "go 0"
        rename Fr _ _ _ _ => F₇
        rename News _ _ _ _ => N₇
        rename_i kap hkap
        have st₇ : ∀ h', h'.get? e = some oe → h'.get? it = some oi → gSt e it l t (i + 2) h' := fun h' h1 h2 => gSt_of st₅ (fun o q => by rw [(N₅ _ (.head _)).1] at q; rw [← Option.some.inj q]; exact h1) (fun o q => by rw [(N₅ _ (.tail _ (.head _))).1] at q; rw [← Option.some.inj q]; exact h2)
        refine ⟨⟨i + 1, [92, l[i + 1]], _, _, _, at_rest ha, rfl, ⟨_, (N₇ _ (.head _)).1, rfl, _, rfl⟩⟩, hs.to (held_of F₇ N₇ fun p hp => .tail _ (held_mem p hp)), [C, e, it], .head _, ?_, ?_, fun s'' hk'' => hkap .none s'' ?_⟩
        · exact fp_above heN hiN
        · exact fp_stands F₇.ns (N₇ _ (.tail _ (.head _))).1 (N₇ _ (.tail _ (.tail _ (.head _)))).1
        · have kp := fp_kept hk''
          obtain ⟨oe', oi', F₈, N₈, st₈⟩ := held_ground2 hCN heN hiN (F₇.ns.at' (kp C (.head _))) (gSt_of (st₇ _ (N₇ _ (.tail _ (.head _))).1 (N₇ _ (.tail _ (.tail _ (.head _)))).1) (kp e (.tail _ (.head _))) (kp it (.tail _ (.tail _ (.head _)))))
          have ha' := snoc_rest ha
          clear F₇ N₇ F₆ N₅
          refine seg_stmt ?_
          walk_at "go 0"
          rename Fr _ _ _ _ => F₉
          rename News _ _ _ _ => N₉
          refine seg_again rfl ?_
          exact ih (l.length - (i + 2)) (by lia) (i + 2) _ (Nat.le_refl _) (by lia) ha' _ _ _ (st₈ _ (N₉ _ (.head _)).1 (N₉ _ (.tail _ (.head _))).1) F₉.ns rfl (Since.refl.to (held_of F₉ N₉ held_mem))
    · rename ((S _ == Str.ofString "\\") = false) => hc
      have hc' : l[i] ≠ 92 := fun q => by rw [q] at hc; exact absurd hc (by decide)
      rw [ed, unitsAt_plain _ _ _ hc']
      rw [ed, unitsAt_plain _ _ _ hc'] at ha
      refine seg_execs_cons (seg_Expr_Yield rfl rfl rfl ?_)
      walk_at "go 0"
      rename Fr _ _ _ _ => F₇
      rename News _ _ _ _ => N₇
      rename_i kap hkap
      have st₇ : ∀ h', h'.get? e = some oe → h'.get? it = some oi → gSt e it l t (i + 1) h' := fun h' h1 h2 => gSt_of st₂ (fun o q => by rw [(N₂ _ (.head _)).1] at q; rw [← Option.some.inj q]; exact h1) (fun o q => by rw [(N₂ _ (.tail _ (.head _))).1] at q; rw [← Option.some.inj q]; exact h2)
      refine ⟨⟨i, [l[i]], _, _, _, at_rest ha, rfl, ⟨_, (N₇ _ (.head _)).1, rfl, _, rfl⟩⟩, hs.to (held_of F₇ N₇ fun p hp => .tail _ (held_mem p hp)), [C, e, it], .head _, ?_, ?_, fun s'' hk'' => hkap .none s'' ?_⟩
      · exact fp_above heN hiN
      · exact fp_stands F₇.ns (N₇ _ (.tail _ (.head _))).1 (N₇ _ (.tail _ (.tail _ (.head _)))).1
      · have kp := fp_kept hk''
        have ha' := snoc_rest ha
        refine seg_again rfl ?_
        exact ih (l.length - (i + 1)) (by lia) (i + 1) _ (Nat.le_refl _) (by lia) ha' _ _ _ (gSt_of (st₇ _ (N₇ _ (.tail _ (.head _))).1 (N₇ _ (.tail _ (.tail _ (.head _)))).1) (kp e (.tail _ (.head _))) (kp it (.tail _ (.tail _ (.head _))))) (F₇.ns.at' (kp C (.head _))) rfl Since.refl
end
end Mine
end
section -- G3
open PySem PySem.W PyProof.Rows PySem.Calls
set_option maxRecDepth 100000
set_option maxHeartbeats 4000000
namespace Mine
section
variable {w : World} {mean : ExcName → Option Value} {mg mb : Str → Option Value} {A : Around} {N C : Addr} {l : List Nat} {t : Tok} {E : Value → Shared → Prop} {s : Shared}
/-- a StopIteration, new and raised -/
theorem raise_stop {α : Type} {A : Around} {s : Shared} {Q : α → Shared → Prop} {E : Value → Shared → Prop} (hh : A.handled = none)
    (h : ∀ h' x, Keeps s.heap h' → (∃ o, h'.get? x = some o ∧ o.cls = .type "StopIteration") → E (.ref x) { s with heap := h' }) :
    wpAny (model PP w) A (newExc (.type "StopIteration") [] >>= fun x => (raiseNew x : Sem α)) Q E s := by
  have fm : firstArgMember (.type "StopIteration") [] = pure Value.none := by first | rfl | (simp only [firstArgMember]; rfl)
  refine wpAny_bind ?_
  simp only [newExc, newTuple]
  refine wpAny_bind (wpAny_newObj_type ?_ (by size_fits))
  refine wpAny_bind (wpAny_of_eq fm ?_)
  refine wpAny_newObj_type ?_ (by size_fits)
  simp only [raiseNew]
  refine wpAny_bind (wpAny_handled ?_)
  rw [hh]
  refine wpAny_bind (wpAny_pure (wpAny_throw ?_))
  exact h _ _ (fun b o hb => Heap.get?_push_of_some _ (Heap.get?_push_of_some _ hb)) ⟨_, Heap.get?_push_size _ rfl, rfl⟩
theorem next_gen {Y : Protocol} {a : Addr} {g n : Nat} {gs : GenState} {Q : Option Value → Shared → Prop} (hh : A.handled = none) (hl : s.heap.NoLimit) (hroom : A.depth < recursionLimit)
    (hg : s.heap.IsGen a g) (hgs : s.gens[g]? = some gs)
    (hgo : gs.Goes (model PP w) A.in1 (escR N C) Y n (.send .none) (s.setGen g .running))
    (hY : ∀ v s₁ gs', gs'.bare = true → Y (n - 1) (s.setGen g .running) v s₁ (fun r' s'' => match n with
        | 0 => False
        | m + 1 => gs'.Goes (model PP w) A.in1 (escR N C) Y m r' s'') → Q (some v) (s₁.setGen g gs'))
    (hP : ∀ s₁, n = 0 → Since N C (s.setGen g .running) s₁ → ∀ h', Keeps s₁.heap h' → Q none { s₁.setGen g .finished with heap := h' }) :
    wpAny (model PP w) A (pyNext (.ref a)) Q E s := by
  unfold pyNext
  refine wpAny_bind (wpAny_attempt (wpAny_callSpecial?_slot (name := Str.ofString "__next__") hg.typeIs slot_gen_next
    (wpAny_call_entry slot_gen_next hg.typeIs entry_gen_next ?_ (args_gen_next _))))
  show wpAny _ A.in1 (Builtin.Generator.genWake (.ref a) (.send .none)) _ _ s
  unfold Builtin.Generator.genWake
  refine wpAny_bind (wpAny_holding (wpAny_genNumber hg (wpAny_bind (wpAny_genState hgs ?_))))
  have room : ∀ {α : Type} {k : Unit → Sem α} {Q' : α → Shared → Prop} {E' : Value → Shared → Prop}, wpAny (model PP w) A.in1 (k ()) Q' E' s → wpAny (model PP w) A.in1 (roomToWake >>= k) Q' E' s := fun h => wpAny_bind (wpAny_roomToWake hl hroom h)
  revert hgs hgo
  cases gs <;> intro hgs hgo
  case running => exact hgo.elim
  case finished => exact hgo.elim
  all_goals
    refine room ?_
    show wpAny _ A.in1 (.resume g (.send .none) [] _) _ _ s
    refine wpAny_resumeQ hgs hgo (fun x s₁ hx => ?_) (fun v s₁ gs' hb hv => ?_)
    · obtain ⟨rfl, hp⟩ := hx
      show wpAny _ A.in1 ((newExc (.type "StopIteration") [] >>= fun x => (raiseNew x : Sem PUnit)) >>= _) _ _ _
      refine wpAny_bind (raise_stop hh fun h' x hk hx => ?_)
      obtain ⟨o, ho, hc⟩ := hx
      refine wpAny_bind (wpAny_isInstance (T := "StopIteration") (b := true) ⟨o, ho, hc⟩ isSubtype_stop ?_)
      exact wpAny_pure (hP s₁ hp.1 hp.2 h' hk)
    · exact wpAny_pure ⟨v, rfl, wpAny_pure (hY v s₁ gs' hb hv)⟩
end
end Mine
end
section -- G4
open PySem PySem.W PyProof.Rows PySem.Calls
set_option maxRecDepth 100000
set_option maxHeartbeats 4000000
namespace Mine
local macro_rules | `(tactic| walk_at "go") => `(tactic| repeat' ((fail_if_success (with_reducible show Seg _ _ _ _ _ _ _ _ _ _)); walk_at "mine loop"; (fail_if_success (with_reducible refine Mine.at1 ?_)); walk_at "mine one"))
section
variable {w : World} {mean : ExcName → Option Value} {mg mb : Str → Option Value} {A : Around} {N C : Addr} {l : List Nat} {t : Tok} {E : Value → Shared → Prop} {s : Shared}
/-- the generator at its j-th turn -/
inductive GenAt (w : World) (A : Around) (hb : Heap) (N a g C : Nat) (ys : List (Nat × List Nat)) (j : Nat) (s : Shared) : Prop
  | mk (f1 : s.heap.IsGen a g) (f2 : a ≠ C) (f3 : a < N) (f4 : C < N) (gs : GenState) (fp : List Addr) (f5 : s.gens[g]? = some gs) (f6 : C ∈ fp) (f7 : ∀ b ∈ fp, b = C ∨ N ≤ b) (f8 : ∀ b ∈ fp, ∃ o, s.heap.get? b = some o)
    (f9 : ∀ s'' : Shared, Keeps hb s''.heap → (j = 0 → ∃ o, s''.heap.get? (N - 1) = some o) → (∀ b ∈ fp, ∀ o, s.heap.get? b = some o → s''.heap.get? b = some o) →
      gs.Goes (model PP w) A.in1 (escR N C) (escY N C ys) (ys.length - j) (.send .none) s'')
theorem GenAt.gen {w : World} {A : Around} {hb : Heap} {N a g C : Nat} {ys : List (Nat × List Nat)} {j : Nat} {s : Shared} : GenAt w A hb N a g C ys j s → s.heap.IsGen a g
  | ⟨x, _, _, _, _, _, _, _, _, _, _⟩ => x
theorem held_size {s : Shared} {h : Heap} (hCN : C < N) (hC1 : C < N - 1) (Nn : News (cutAt s.heap C) C h (between s.heap C N)) (hN : ∃ o, s.heap.get? (N - 1) = some o) : N ≤ h.objs.size := by
  obtain ⟨o, ho⟩ := hN
  have hm : (N - 1, o) ∈ between s.heap C N := mem_between.mpr ⟨hC1, Nat.sub_lt (Nat.lt_of_le_of_lt (Nat.zero_le _) hCN) Nat.one_pos, ho⟩
  have := Heap.lt_size (Nn _ hm).1
  dsimp only at this
  exact Nat.le_of_pred_lt this
theorem seg_start {hb : Heap} (hh : A.handled = none) (Gb : Gd w mean mg mb hb) (hbC : hb.objs.size ≤ C) (hCN : C < N) (hC1 : C < N - 1) (hl : ∀ c ∈ l, c < 128) (s : Shared) (hk : Keeps hb s.heap) (hN : ∃ o, s.heap.get? (N - 1) = some o)
    (hn : s.heap.Ns C (fun y => [(nm "addr", Value.str (S l) t)].lookup y)) :
    Seg (model PP w) A (escR N C) (escY N C (unitsAt 0 l)) (unitsAt 0 l).length s (.func (fnB 7) (gEnv C)) ((model PP w).den (.func (fnB 7) (gEnv C))) [] s := by
  obtain ⟨F, Nn⟩ := held_ground (N := N) (h₀ := s.heap) hCN hn (fun _ _ _ _ x => x)
  have F1 := Fr.lays' [(nm "addr", Value.str (S l) t)] F ⟨rfl, trivial⟩
  dsimp only [ov] at F1
  clear F
  have kc : Keeps hb (cutAt s.heap C) := fun b o e => by rw [cutAt_get, if_pos (Nat.lt_of_lt_of_le (Heap.lt_size e) hbC)]; exact hk b o e
  obtain ⟨KX, T⟩ := Gb.keeps kc
  have el : (unitsAt 0 l).length = (unitsAt 0 (l.drop 0)).length := by rw [List.drop_zero]
  refine seg_func ?_
  have eB : fnB 7 = fnB 7 := rfl
  conv at eB => rhs; whnf
  conv => arg 8; rw [eB]
  refine seg_stmt ?_
  walk_at "go"
  refine seg_stmt ?_
  walk_at "go"
  refine seg_execs_cons (seg_For ?_)
  walk_at "go"
  rename Fr _ _ _ _ => F2
  rename News _ _ _ _ => N2
  have hz : N ≤ (Shared.heap ⟨_, s.gens, s.drawn, s.toks + 1 + 1 + 1, s.os⟩).objs.size := held_size hCN hC1 N2 hN
  refine call_enumerate_str fun h' hE hI hsz hkp => ?_
  have ht : strIterType (S l) = "str_ascii_iterator" := by
    unfold strIterType
    rw [if_pos]
    rw [Array.all_eq_true_iff_forall_mem]
    intro c hc
    exact decide_eq_true (hl c (by simpa using hc))
  rw [ht] at hI
  refine wpAny_pyIter_enum hE fun p => ?_
  rw [el]
  have F3 := Fr.grown F2 hkp
  have N3 := News.keepsK N2 hkp
  refine seg_esc p hh (Nat.ne_of_gt (Nat.lt_succ_self _)) (Nat.le_succ_of_le hz) hz hCN rfl l.length 0 [] (Nat.sub_le _ _) (Nat.zero_le _) (by rw [List.drop_zero]; rfl) s _ _ ⟨⟨_, hE⟩, hI⟩ F3.ns rfl ?_
  exact ⟨h', _, rfl, held_of F3 N3 fun p hp => hp⟩
theorem gen_item {hb : Heap} {a g j : Nat} {ys : List (Nat × List Nat)} {Q : Option Value → Shared → Prop} (hh : A.handled = none) (hl : s.heap.NoLimit) (hroom : A.depth < recursionLimit)
    (G : GenAt w A hb N a g C ys j s) (hj : j < ys.length) (hk : Keeps hb s.heap) (hN : j = 0 → ∃ o, s.heap.get? (N - 1) = some o)
    (hQ : ∀ p u T tk tk' h' tkn gens', ys[j]? = some (p, u) → h'.IsTuple T #[.int (p : Int) tk, .str (S u) tk'] → Held N C s.heap h' → (AllBare s.gens → AllBare gens') →
      GenAt w A hb N a g C ys (j + 1) { s with heap := h', gens := gens', toks := tkn } → Q (some (.ref T)) { s with heap := h', gens := gens', toks := tkn }) :
    wpAny (model PP w) A (pyNext (.ref a)) Q E s := by
  obtain ⟨hg, haC, haN, hCN, gs, fp, hgs, hCf, hab, hst, hgo⟩ := G
  obtain ⟨m, hm⟩ : ∃ m, ys.length - j = m + 1 := n_pos hj
  have hgo' := hgo (s.setGen g .running) hk hN (fun _ _ _ e => e)
  rw [hm] at hgo'
  refine next_gen hh hl hroom hg hgs hgo' (fun v s₁ gs' hb' hv => ?_) (fun s₁ hz => absurd hz (Nat.succ_ne_zero m))
  obtain ⟨⟨p, u, T, tk, tk', hy, rfl, hT⟩, ⟨h₁, tk₁, rfl, hH⟩, fp', hCf', hab', hst', hkap⟩ := hv
  have hidx : ys.length - 1 - (m + 1 - 1) = j := n_idx hm
  rw [hidx] at hy
  obtain ⟨o, nm', qn, ho, r⟩ := hg
  refine hQ p u T tk tk' h₁ tk₁ _ hy hT hH (fun hb y hy => ?_) ⟨⟨o, nm', qn, hH a o haC haN ho, r⟩, haC, haN, hCN, gs', fp', setGen_self (gs := .running) (setGen_self hgs), hCf', hab', hst', fun s'' hk'' _ hf'' => ?_⟩
  · rcases Array.mem_or_eq_of_mem_setIfInBounds hy with h | rfl
    · rcases Array.mem_or_eq_of_mem_setIfInBounds h with h | rfl
      · exact hb y h
      · rfl
    · exact hb'
  · have e : ys.length - (j + 1) = m := n_next hm
    rw [e]
    exact hkap s'' hf''
theorem gen_stop {hb : Heap} {a g : Nat} {ys : List (Nat × List Nat)} {Q : Option Value → Shared → Prop} (hh : A.handled = none) (hl : s.heap.NoLimit) (hroom : A.depth < recursionLimit)
    (G : GenAt w A hb N a g C ys ys.length s) (hk : Keeps hb s.heap) (hN : ys.length = 0 → ∃ o, s.heap.get? (N - 1) = some o)
    (hQ : ∀ h' tkn gens', Held N C s.heap h' → (AllBare s.gens → AllBare gens') → Q none { s with heap := h', gens := gens', toks := tkn }) :
    wpAny (model PP w) A (pyNext (.ref a)) Q E s := by
  obtain ⟨hg, haC, haN, hCN, gs, fp, hgs, hCf, hab, hst, hgo⟩ := G
  have hgo' := hgo (s.setGen g .running) hk hN (fun _ _ _ e => e)
  rw [Nat.sub_self] at hgo'
  refine next_gen hh hl hroom hg hgs hgo' (fun v s₁ gs' hb' hv => ?_) (fun s₁ _ hs h' hk' => ?_)
  · obtain ⟨_, _, fp', _, _, _, hkap⟩ := hv
    exact (hkap s₁ fun _ _ _ e => e).elim
  · obtain ⟨h₁, tk₁, rfl, hH⟩ := hs
    refine hQ h' tk₁ _ (fun b o hb hN e => hk' b o (hH b o hb hN e)) fun hb y hy => ?_
    rcases Array.mem_or_eq_of_mem_setIfInBounds hy with h | rfl
    · rcases Array.mem_or_eq_of_mem_setIfInBounds h with h | rfl
      · exact hb y h
      · rfl
    · rfl
end
end Mine
end
section -- G5
open PySem PySem.W PyProof.Rows PySem.Calls
set_option maxRecDepth 100000
set_option maxHeartbeats 4000000
namespace Mine
section
variable {w : World} {A : Around} {N C a g : Addr} {E : Value → Shared → Prop} {s : Shared} {ys : List (Nat × List Nat)} {hb : Heap} {j : Nat}
theorem go_gen {s : Shared} {elts : List Expr} {k : Nat} {pos : Pos} {T : Addr} {Q : Unit → Shared → Prop} (hg : s.heap.IsGen a g) (h : Q () s) :
    wpAny (model PP w) A (letOwnedTupleGo (.Tuple elts k pos) (.ref a) (.ref T)) Q E s := by
  obtain ⟨o, nm', qn, ho, hc, hd, hsl⟩ := hg
  unfold letOwnedTupleGo
  refine wpAny_bind (wpAny_load ho ?_)
  obtain ⟨c, d, dt, sl⟩ := o
  dsimp only at hc hd hsl
  subst hc hd hsl
  show wpAny _ A (if (["enumerate", "zip", "dict_itemiterator", "dict_reverseitemiterator", "odict_iterator", "itertools.zip_longest", "itertools.pairwise"].contains "generator" && _) = true then _ else _) Q E s
  rw [if_neg (by simp)]
  exact wpAny_pure h
/-- what the generator owns -/
noncomputable def Owned (h : Heap) (a C N : Nat) (own : List (Addr × Obj)) : Prop := ∀ p ∈ own, h.get? p.1 = some p.2 ∧ (p.1 = a ∨ p.1 = C ∨ N ≤ p.1)
theorem GenAt.own (G : GenAt w A hb N a g C ys j s) : ∃ own, Owned s.heap a C N own ∧ ∀ s' : Shared, s'.gens = s.gens → (∀ p ∈ own, s'.heap.get? p.1 = some p.2) → GenAt w A hb N a g C ys j s' := by
  obtain ⟨hg, haC, haN, hCN, gs, fp, hgs, hCf, hab, hst, hgo⟩ := G
  obtain ⟨o, nm', qn, ho, r⟩ := hg
  refine ⟨(a, o) :: fp.filterMap fun b => (s.heap.get? b).map (b, ·), fun p hp => ?_, fun s' hgn hk => ?_⟩
  · rcases List.mem_cons.mp hp with rfl | hp
    · exact ⟨ho, .inl rfl⟩
    · obtain ⟨b, hbf, e⟩ := List.mem_filterMap.mp hp
      cases hq : s.heap.get? b with
      | none => rw [hq] at e; cases e
      | some x =>
        rw [hq] at e
        cases e
        exact ⟨hq, .inr (hab b hbf)⟩
  · have kf : ∀ b ∈ fp, ∀ o, s.heap.get? b = some o → s'.heap.get? b = some o := fun b hbf x hx =>
      hk (b, x) (.tail _ (List.mem_filterMap.mpr ⟨b, hbf, by rw [hx]; rfl⟩))
    refine ⟨⟨o, nm', qn, hk _ (.head _), r⟩, haC, haN, hCN, gs, fp, by rw [hgn]; exact hgs, hCf, hab, fun b hbf => ?_, fun s'' h1 h2 h3 => hgo s'' h1 h2 fun b hbf x hx => h3 b hbf x (kf b hbf x hx)⟩
    obtain ⟨x, hx⟩ := hst b hbf
    exact ⟨x, kf b hbf x hx⟩
/-- where a turn of a loop over the generator must end -/
inductive TurnG (h₀ : Heap) (L : Addr) (g₀ : Array GenState) (s : Shared) (P : (Str → Option Value) → List (Addr × Obj) → Prop) (own news : List (Addr × Obj)) (s₃ : Shared) : Prop
  | mk (m' : Str → Option Value) (news' : List (Addr × Obj)) (F : Fr h₀ L s₃.heap m') (N : News h₀ L s₃.heap (news' ++ own)) (adr : ∀ p ∈ news', ∃ q ∈ news, q.1 = p.1) (st : P m' news') (g1 : s₃.gens = g₀) (g2 : s₃.drawn = s.drawn) (g3 : s₃.os = s.os)
end
section
variable {w : World} {A : Around} {N C a g : Addr} {s : Shared} {ys : List (Nat × List Nat)} {hb : Heap} {Q : Flow → Shared → Prop} {X : Value → Shared → Prop} {qual : Str} {scope : Scope} {L f : Addr} {cd : Value} {h₀ : Heap} {m : Str → Option Value} {news : List (Addr × Obj)} {xi xv : Str} {pi pv pt : Pos} {kt : Nat} {body : List Stmt}
inductive GenInv (w : World) (A : Around) (hb h₀ : Heap) (L N a g C : Nat) (ys : List (Nat × List Nat)) (s : Shared) (P : Nat → (Str → Option Value) → List (Addr × Obj) → Prop) (news : List (Addr × Obj)) (k : Nat) (s' : Shared) : Prop
  | mk (j : Nat) (hj : j ≤ ys.length) (hk : k = ys.length - j) (G : GenAt w A hb N a g C ys j s') (hN : j = 0 → ∃ o, s'.heap.get? (N - 1) = some o) (hB : AllBare s.gens → AllBare s'.gens)
      (m' : Str → Option Value) (news' : List (Addr × Obj)) (F : Fr h₀ L s'.heap m') (Nw : News h₀ L s'.heap news') (adr : ∀ p ∈ news', ∃ q ∈ news, q.1 = p.1) (st : P j m' news') (g2 : s'.drawn = s.drawn) (g3 : s'.os = s.os)
theorem loop_gen (hh : A.handled = none) (hroom : A.depth < recursionLimit) (F : Fr h₀ L s.heap m) (Nw : News h₀ L s.heap news) (G : GenAt w A hb N a g C ys 0 s) (hlim : h₀.NoLimit) (hbk : Keeps hb h₀) (hN : ∃ o, s.heap.get? (N - 1) = some o)
    (hLN : L < N) (hLC : L ≠ C) (hLa : L ≠ a) (hC0 : h₀.get? C = none) (ha0 : h₀.get? a = none) (hnews : ∀ p ∈ news, p.1 < N ∧ p.1 ≠ C ∧ p.1 ≠ a)
    (P : Nat → (Str → Option Value) → List (Addr × Obj) → Prop) (start : P 0 m news)
    (turn : ∀ (j p : Nat) (u : List Nat) m' news' own h tk gens' tp tu, ys[j]? = some (p, u) → P j m' news' → (∀ p ∈ news', ∃ q ∈ news, q.1 = p.1) → (∀ q ∈ own, ∀ p ∈ news, q.1 ≠ p.1) → (AllBare s.gens → AllBare gens') →
      Fr h₀ L h (fun y => if y = xv then some (.str (S u) tu) else if y = xi then some (.int (p : Int) tp) else m' y) → News h₀ L h (news' ++ own) →
      ∀ (Nx : Shared → Prop) (Qn : Flow → Shared → Prop), (∀ s₃, TurnG h₀ L gens' s (P (j + 1)) own news s₃ → Nx s₃) → (∀ f s₃, Q f s₃ → Qn f s₃) →
      wpAny (model PP w) A (execs body (envOf qual scope L f cd)) (fun fl s₃ => match fl with
        | .next | .cont => Nx s₃
        | .brk => Qn .next s₃
        | .ret v => Qn (.ret v) s₃) (fun _ _ => False) { s with heap := h, gens := gens', toks := tk })
    (done : ∀ m' news' h tk gens', P ys.length m' news' → (∀ p ∈ news', ∃ q ∈ news, q.1 = p.1) → (AllBare s.gens → AllBare gens') → Fr h₀ L h m' → News h₀ L h news' → Q .next { s with heap := h, gens := gens', toks := tk })
    (hk : scope.kind = .function := by rfl) (hl : (envOf qual scope L f cd).kindOf xi = some .local := by rfl) (hl' : (envOf qual scope L f cd).kindOf xv = some .local := by rfl) :
    codeAny (model PP w) A (.forLoop (.Tuple [.Name xi pi, .Name xv pv] kt pt) (.ref a) body [] (envOf qual scope L f cd)) (fun r s' => match r with | .ok f => Q f s' | .error e => X e s') s := by
  have keepF : ∀ {h h' : Heap} {m : Str → Option Value}, Fr h₀ L h m → Held N C h h' → Fr h₀ L h' m := fun F k =>
    ⟨F.ns.at' fun o q => k _ _ hLC hLN q, fun b o q => k b o (fun e => by rw [e, hC0] at q; cases q) (Nat.lt_trans (Nat.lt_of_lt_of_le (Heap.lt_size q) F.above) hLN) (F.keep b o q), F.above⟩
  have keepN : ∀ {h h' : Heap} {news' : List (Addr × Obj)}, (∀ p ∈ news', ∃ q ∈ news, q.1 = p.1) → News h₀ L h news' → Held N C h h' → News h₀ L h' news' := fun ha Nn k p hp => by
    obtain ⟨q, hq, e⟩ := ha p hp
    have := hnews q hq
    rw [e] at this
    exact ⟨k _ _ this.2.1 this.1 (Nn p hp).1, (Nn p hp).2⟩
  refine codeAny_forLoop_any (GenInv w A hb h₀ L N a g C ys s P news) (fun k s' => ?_) ys.length
    ⟨0, Nat.zero_le _, rfl, G, fun _ => hN, id, m, news, F, Nw, fun p hp => ⟨p, hp, rfl⟩, start, rfl, rfl⟩
  rintro ⟨j, hj, rfl, G', hN', hB', m', news', F', N', hadr, hP, g2, g3⟩
  have es : ∀ h' tk gens', ({ s' with heap := h', gens := gens', toks := tk } : Shared) = { s with heap := h', gens := gens', toks := tk } := sh2 g2 g3
  have hkb : Keeps hb s'.heap := hbk.trans F'.keep
  by_cases hjn : j < ys.length
  · refine gen_item hh (hlim.keeps F'.keep) hroom G' hjn hkb hN' fun p u T tk tk' h₁ tkn gens' hy hT hH hB'' G'' => ?_
    have hg := G''.gen
    refine go_gen hg ?_
    obtain ⟨own, hown, hre⟩ := G''.own
    have hap : ∀ q ∈ own, ∀ p ∈ news, q.1 ≠ p.1 := fun q hq p hp e => by
      obtain ⟨n1, n2, n3⟩ := hnews p hp
      rcases (hown q hq).2 with x | x | x
      · exact n3 (e ▸ x)
      · exact n2 (e ▸ x)
      · rw [e] at x; exact absurd n1 (Nat.not_lt.mpr x)
    have F₁ := keepF F' hH
    have N₁ := keepN hadr N' hH
    have N₂ : News h₀ L h₁ (news' ++ own) := fun q hq => by
      rcases List.mem_append.mp hq with hq | hq
      · exact N₁ q hq
      · obtain ⟨h1, h2⟩ := hown q hq
        refine ⟨h1, ?_, ?_⟩
        · rcases h2 with e | e | e
          · rw [e]; exact Ne.symm hLa
          · rw [e]; exact Ne.symm hLC
          · exact Nat.ne_of_gt (Nat.lt_of_lt_of_le hLN e)
        · rcases h2 with e | e | e
          · rw [e]; exact ha0
          · rw [e]; exact hC0
          · cases hq0 : h₀.get? q.1 with
            | none => rfl
            | some x => exact absurd (Nat.lt_of_lt_of_le (Heap.lt_size hq0) F.above) (Nat.not_lt.mpr (Nat.le_of_lt (Nat.lt_of_lt_of_le hLN e)))
    refine wpAny_assign_Tuple hh hT rfl rfl fun h₃ hx₃ => ?_
    replace hx₃ : Heap.ExtBut h₁.objs.size h₁ h₃ := hx₃
    have kx : Keeps h₁ h₃ := fun b o q => hx₃ b o (Nat.ne_of_lt (Heap.lt_size q)) q
    have F₃ := Fr.grown F₁ kx
    have N₃ := News.keepsK N₂ kx
    refine wpAny_bind (wpAny_holding (wpAny_assign_Name (PyProof.Rows.stN F₃ N₃ (fun h₄ F₄ N₄ => ?_) hk hl)))
    refine wpAny_bind (wpAny_holding (wpAny_assign_Name (PyProof.Rows.stN F₄ N₄ (fun h₅ F₅ N₅ => wpAny_pure ?_) hk hl')))
    have := turn j p u m' news' own h₅ (tkn + 1 + 1) gens' tk tk' hy hP hadr hap (fun x => hB'' (hB' x)) F₅ N₅ _ _ (fun _ x => x) (fun _ _ x => x)
    show wpAny _ _ _ _ _ { s' with heap := h₅, gens := gens', toks := tkn + 1 + 1 }
    rw [es]
    refine wpAny_mono this (fun fl s₃ h₃ => ?_) (fun _ _ x => x.elim)
    have next : TurnG h₀ L gens' s (P (j + 1)) own news s₃ → ∃ k, k < ys.length - j ∧ GenInv w A hb h₀ L N a g C ys s P news k s₃ := fun ⟨m₄, news₄, F₄, N₄, ha₄, hP₄, q1, q2, q3⟩ =>
      ⟨ys.length - (j + 1), n_step hjn, j + 1, hjn, rfl, hre s₃ q1 (fun p hp => (N₄ p (List.mem_append_right _ hp)).1), fun e => absurd e (Nat.succ_ne_zero j), fun x => by rw [q1]; exact hB'' (hB' x),
        m₄, news₄, F₄, News.sub N₄ fun p hp => List.mem_append_left _ hp, ha₄, hP₄, q2, q3⟩
    cases fl with
    | next => exact next h₃
    | cont => exact next h₃
    | brk => exact h₃
    | ret v => exact h₃
  · have hjn' : j = ys.length := n_end hj hjn
    subst hjn'
    refine gen_stop hh (hlim.keeps F'.keep) hroom G' hkb hN' fun h' tkn gens' hH hB'' => wpAny_execs_nil ?_
    have := done m' news' h' tkn gens' hP hadr (fun x => hB'' (hB' x)) (keepF F' hH) (keepN hadr N' hH)
    rw [es]; exact this
end
end Mine
end
section -- G6
open PySem PySem.W PyProof.Rows PySem.Calls
set_option maxRecDepth 100000
set_option maxHeartbeats 4000000
namespace Mine
theorem spec_gen {w : World} {mean mg mb} {A : Around} {s : Shared} {R : Result → Shared → Prop} {name qual : Str} {params : Arguments} {body : List Stmt} {scope : Scope} {dV kV doc pm cdv ct oc : Value} {an od : Option Addr} {osl : Array (Option Value)} {f : Addr} {args : Args} {binds : List (Str × Value)}
    (G : Gd w mean mg mb s.heap)
    (ho : (hq.heap_1 w.params).lookup f = some ⟨oc, od, .func (fnOf name qual params body scope dV kV doc pm an cdv ct), osl⟩) (hcd : codeIn (hq.heap_1 w.params) cdv qual = true) (hroom : A.depth < recursionLimit)
    (hbind : BindsTo s (fnOf name qual params body scope dV kV doc pm an cdv ct) args binds) (hloc : ∀ y ∈ binds, scope.names.lookup y.1 = some .local)
    (h : ∀ h₁ go tk, h₁.Ns s.heap.objs.size (fun y => binds.reverse.lookup y) → h₁.objs.size = s.heap.objs.size + 1 → Keeps s.heap h₁ → (h₁.push go).IsGen h₁.objs.size s.gens.size → go.isFreed = false →
      R (.ok (.ret (.ref h₁.objs.size))) { s with heap := h₁.push go, gens := s.gens.push (.fresh (.func body (envOf qual scope s.heap.objs.size f cdv))), toks := tk })
    (hco : scope.isCoroutine = false := by rfl) (hgen : scope.isGenerator = true := by rfl) (hk : scope.kind = .function := by rfl)
    (hcell : ∀ x ∈ scope.names, x.2 ≠ .cell := by decide) : codeAny (model PP w) A (.call (.ref f) args) R s := by
  refine codeAny_call_generator (fd := fnOf name qual params body scope dV kV doc pm an cdv ct) hroom (G.KX f _ ho) rfl hco hgen rfl (codeRec_of G.KX hcd) (hbind _ _ _ _ ?_)
  refine wpAny_newFunctionEnv hcell hloc (fun h' hn hs => ⟨G.T.nolimit.fresh _ hs, ?_⟩) hk
  have kp : Keeps s.heap h' := fun b o e => hs.extBut b o (Nat.ne_of_lt (Heap.lt_size e)) (Heap.get?_push_of_some _ e)
  refine h h' _ _ hn (by rw [hs.1, Heap.size_push]) kp ⟨_, _, _, Heap.get?_push_size _ rfl, rfl, rfl, rfl⟩ rfl
theorem esc_call {w : World} {mean mg mb} {A : Around} {s : Shared} {R : Result → Shared → Prop} {l : List Nat} {t : Tok} (G : Gd w mean mg mb s.heap) (hroom : A.depth < recursionLimit) (hl : ∀ c ∈ l, c < 128)
    (h : ∀ h' tk gens', Keeps s.heap h' → (AllBare s.gens → AllBare gens') → (∃ o, h'.get? (s.heap.objs.size + 1) = some o) → (∃ m, h'.Ns s.heap.objs.size m) →
      (∀ A' hb N h'' tk'', A'.handled = none → Gd w mean mg mb hb → hb.objs.size ≤ s.heap.objs.size → s.heap.objs.size + 1 < N → Keeps h' h'' → GenAt w A' hb N (s.heap.objs.size + 1) s.gens.size s.heap.objs.size (unitsAt 0 l) 0 { s with heap := h'', gens := gens', toks := tk'' }) →
      R (.ok (.ret (.ref (s.heap.objs.size + 1)))) { s with heap := h', gens := gens', toks := tk }) :
    codeAny (model PP w) A (.call (.ref 35) ⟨[.str (S l) t], []⟩) R s := by
  refine spec_gen G rfl rfl hroom (binds := [(nm "addr", .str (S l) t)]) (BindsTo.of_eq rfl) (locs rfl) fun h₁ go tk hn hz kp hg hf => ?_
  rw [hz]
  rw [hz] at hg
  refine h _ _ _ (fun b o e => Heap.get?_push_of_some _ (kp b o e)) (fun x => x.push rfl) (let ⟨o, _, _, ho, _⟩ := hg; ⟨o, ho⟩) ⟨_, hn.push _⟩ fun A' hb N h'' tk'' hh Gb hbz haN k'' => ?_
  obtain ⟨o, nm', qn, ho, r⟩ := hg
  have hn'' := (hn.push go).keeps k''
  have hCN : s.heap.objs.size < N := Nat.lt_of_succ_lt haN
  refine ⟨⟨o, nm', qn, k'' _ _ ho, r⟩, Nat.ne_of_gt (Nat.lt_succ_self _), haN, hCN, _, [s.heap.objs.size], Array.getElem?_push_size .., by simp, by simp, ?_, fun s'' hk hN hf'' => ⟨rfl, ?_⟩⟩
  · intro b hb
    rw [List.mem_singleton.mp hb]
    obtain ⟨x, _, _, hx, _⟩ := hn''
    exact ⟨x, hx⟩
  · exact seg_start (A := A'.in1) hh Gb hbz hCN (Nat.lt_sub_of_add_lt haN) hl s'' hk (hN rfl) (hn''.at' fun x hx => hf'' _ (by simp) x hx)
end Mine
end
section -- G7
open PySem PySem.W PyProof.Rows PySem.Calls
set_option maxRecDepth 100000
set_option maxHeartbeats 4000000
namespace Mine
theorem none_above {h : Heap} {b : Addr} (e : h.objs.size ≤ b) : h.get? b = none := by
  cases q : h.get? b with
  | none => rfl
  | some o => exact absurd (Heap.lt_size q) (Nat.not_lt.mpr e)
theorem for_esc {w : World} {mean mg mb} {A : Around} {s : Shared} {h₀ : Heap} {L : Addr} {m : Str → Option Value} {news : List (Addr × Obj)} {Q : Flow → Shared → Prop} {X E₁ E₂ : Value → Shared → Prop} {qual : Str} {scope : Scope} {f : Addr} {cd : Value} {xi xv : Str} {pi pv pt : Pos} {kt : Nat} {body : List Stmt} {l : List Nat} {t : Tok}
    (KX : (hq.heap_1 w.params).In h₀) (T : Top hd.view_39 (looseW hd.view_39 [Str.ofString "EXACT_TOKEN_TYPES"]) mean mg mb h₀) (F : Fr h₀ L s.heap m) (N : News h₀ L s.heap news) (hroom : A.depth < recursionLimit) (hh : A.handled = none) (hl : ∀ c ∈ l, c < 128)
    (P : Nat → (Str → Option Value) → List (Addr × Obj) → Prop) (start : P 0 m news)
    (turn : ∀ (j p : Nat) (u : List Nat) m' news' own h tk gens' tp tu (s₀ : Shared), s₀.drawn = s.drawn → s₀.os = s.os → (unitsAt 0 l)[j]? = some (p, u) → P j m' news' → (∀ p ∈ news', ∃ q ∈ news, q.1 = p.1) → (∀ q ∈ own, ∀ p ∈ news, q.1 ≠ p.1) → (AllBare s.gens → AllBare gens') →
      Fr h₀ L h (fun y => if y = xv then some (.str (S u) tu) else if y = xi then some (.int (p : Int) tp) else m' y) → News h₀ L h (news' ++ own) →
      ∀ (Nx : Shared → Prop) (Qn : Flow → Shared → Prop), (∀ s₃, TurnG h₀ L gens' s₀ (P (j + 1)) own news s₃ → Nx s₃) → (∀ f s₃, Q f s₃ → Qn f s₃) →
      wpAny (model PP w) A (execs body (envOf qual scope L f cd)) (fun fl s₃ => match fl with
        | .next | .cont => Nx s₃
        | .brk => Qn .next s₃
        | .ret v => Qn (.ret v) s₃) (fun _ _ => False) { s with heap := h, gens := gens', toks := tk })
    (done : ∀ m' news' h tk gens', P (unitsAt 0 l).length m' news' → (∀ p ∈ news', ∃ q ∈ news, q.1 = p.1) → (AllBare s.gens → AllBare gens') → Fr h₀ L h m' → News h₀ L h news' → Q .next { s with heap := h, gens := gens', toks := tk })
    (hk : scope.kind = .function := by rfl) (hl1 : (envOf qual scope L f cd).kindOf xi = some .local := by rfl) (hl2 : (envOf qual scope L f cd).kindOf xv = some .local := by rfl) :
    wpAny (model PP w) A (call (.ref 35) [.str (S l) t]) (fun x s₁ => wpAny (model PP w) A (pyIter x) (fun it s₂ =>
      codeAny (model PP w) A (.forLoop (.Tuple [.Name xi pi, .Name xv pv] kt pt) it body [] (envOf qual scope L f cd)) (fun r s' => match r with | .ok f => Q f s' | .error e => X e s') s₂) E₁ s₁) E₂ s := by
  have Fb := F.above
  refine wpAny_call (esc_call (Gd.keeps ⟨KX, T⟩ F.keep) hroom hl fun h' tk' gens' hk' hb ho hns hG => ?_)
  have hLs := F.ns.lt
  have GA := fun (A' : Around) (hA : A'.handled = none) => hG A' h₀ (s.heap.objs.size + 1 + 1) h' tk' hA ⟨KX, T⟩ (Nat.le_trans Fb (Nat.le_of_lt hLs)) (Nat.lt_succ_self _) .refl
  refine wpAny_pyIter_gen (GA ⟨none, 0, none, none, 0⟩ rfl).gen ?_
  refine loop_gen hh hroom (Fr.grown F hk') (News.keepsK N hk') (GA _ hh)
    T.nolimit .refl ho (Nat.lt_succ_of_lt (Nat.lt_succ_of_lt hLs)) (Nat.ne_of_lt hLs) (Nat.ne_of_lt (Nat.lt_succ_of_lt hLs)) (none_above (Nat.le_trans Fb (Nat.le_of_lt hLs))) (none_above (Nat.le_trans Fb (Nat.le_succ_of_le (Nat.le_of_lt hLs)))) (fun p hp => ?_)
    P start (fun j p u m' news' own h tk gens'' tp tu hy hP hadr hap hB F' N' Nx Qn hNx hQn => ?_) (fun m' news' h tk gens'' hP hadr hB F' N' => done m' news' h tk gens'' hP hadr (fun q => hB (hb q)) F' N') hk hl1 hl2
  · have hps := Heap.lt_size (N p hp).1
    exact ⟨Nat.lt_succ_of_lt (Nat.lt_succ_of_lt hps), Nat.ne_of_lt hps, Nat.ne_of_lt (Nat.lt_succ_of_lt hps)⟩
  · exact turn j p u m' news' own h tk gens'' tp tu { s with heap := h', gens := gens', toks := tk' } rfl rfl hy hP hadr hap (fun q => hB (hb q)) F' N' Nx Qn hNx hQn
end Mine
end
section -- B8
open PySem PySem.W PyProof.Rows PySem.Calls
set_option maxRecDepth 100000
set_option maxHeartbeats 4000000
namespace Mine
section
variable {prog : Program} {w : World} {A : Around} {E₁ E₂ : Value → Shared → Prop} {s : Shared} {Q : Flow → Shared → Prop} {X : Value → Shared → Prop} {qual : Str} {scope : Scope} {L f : Addr} {cd : Value} {h₀ : Heap} {m : Str → Option Value} {news : List (Addr × Obj)} {xi xv : Str} {pi pv pt : Pos} {kt : Nat} {body : List Stmt}
inductive EnInv (h₀ : Heap) (L e it D : Addr) (vs : List Value) (s : Shared) (P : Nat → (Str → Option Value) → List (Addr × Obj) → Prop) (news : List (Addr × Obj)) (k : Nat) (s' : Shared) : Prop
  | mk (i : Nat) (hi : i ≤ vs.length) (hk : k = vs.length - i) (hE : ∃ old, IsEnum s'.heap e it i old) (hI : s'.heap.IsListIter it D i)
    (m' : Str → Option Value) (news' : List (Addr × Obj)) (F : Fr h₀ L s'.heap m') (N : News h₀ L s'.heap news') (adr : ∀ p ∈ news', ∃ q ∈ news, q.1 = p.1) (st : P i m' news') (g1 : s'.gens = s.gens) (g2 : s'.drawn = s.drawn) (g3 : s'.os = s.os)
theorem for_enum {D : Addr} {vs : List Value} {n : Nat} (hh : A.handled = none) (F : Fr h₀ L s.heap m) (N : News h₀ L s.heap news)
    (P : Nat → (Str → Option Value) → List (Addr × Obj) → Prop) (hD : ∀ i m' news', P i m' news' → (D, listOf vs.toArray n) ∈ news') (start : P 0 m news)
    (turn : ∀ (i : Nat) v m' news' own h tk tp, vs[i]? = some v → P i m' news' → (∀ p ∈ news', ∃ q ∈ news, q.1 = p.1) → (∀ q ∈ own, ∀ p ∈ news, q.1 ≠ p.1) →
      Fr h₀ L h (fun y => if y = xv then some v else if y = xi then some (.int (i : Int) tp) else m' y) → News h₀ L h (news' ++ own) →
      ∀ (Nx : Shared → Prop) (Qn : Flow → Shared → Prop), (∀ s₃, TurnG h₀ L s.gens s (P (i + 1)) own news s₃ → Nx s₃) → (∀ f s₃, Q f s₃ → Qn f s₃) →
      wpAny (model prog w) A (execs body (envOf qual scope L f cd)) (fun fl s₃ => match fl with
        | .next | .cont => Nx s₃
        | .brk => Qn .next s₃
        | .ret v => Qn (.ret v) s₃) (fun _ _ => False) { s with heap := h, toks := tk })
    (done : ∀ m' news' h tk, P vs.length m' news' → (∀ p ∈ news', ∃ q ∈ news, q.1 = p.1) → Fr h₀ L h m' → News h₀ L h news' → Q .next { s with heap := h, toks := tk })
    (hk : scope.kind = .function := by rfl) (hl1 : (envOf qual scope L f cd).kindOf xi = some .local := by rfl) (hl2 : (envOf qual scope L f cd).kindOf xv = some .local := by rfl) :
    wpAny (model prog w) A (call (.type "enumerate") [.ref D]) (fun x s₁ => wpAny (model prog w) A (pyIter x) (fun it s₂ =>
      codeAny (model prog w) A (.forLoop (.Tuple [.Name xi pi, .Name xv pv] kt pt) it body [] (envOf qual scope L f cd)) (fun r s' => match r with | .ok f => Q f s' | .error e => X e s') s₂) E₁ s₁) E₂ s := by
  have hDs := N _ (hD _ _ _ start)
  refine call_enumerate_list (l := D) (items := vs.toArray) ⟨_, hDs.1, rfl, _, rfl⟩ fun h₁ he hit hz hkp => ?_
  refine wpAny_pyIter_enum he ?_
  have hei : s.heap.objs.size + 1 ≠ s.heap.objs.size := Nat.succ_ne_self _
  have hDlt : D < s.heap.objs.size := Heap.lt_size hDs.1
  have hDe : D ≠ s.heap.objs.size + 1 := Nat.ne_of_lt (Nat.lt_succ_of_lt hDlt)
  have hDi : D ≠ s.heap.objs.size := Nat.ne_of_lt hDlt
  have hLlt := F.ns.lt
  have hLe : L ≠ s.heap.objs.size + 1 := Nat.ne_of_lt (Nat.lt_succ_of_lt hLlt)
  have hLi : L ≠ s.heap.objs.size := Nat.ne_of_lt hLlt
  have hnlt : ∀ p ∈ news, p.1 < s.heap.objs.size := fun p hp => Heap.lt_size (N p hp).1
  have h0lt : ∀ b o, h₀.get? b = some o → b < s.heap.objs.size := fun b o e => Heap.lt_size (F.keep b o e)
  have Dr := Draws.list (prog := prog) (w := w) (A := A.in1) hh s.heap.objs.size D hDi vs.toArray
  have W := WalksT.enumerateD (A := A) Dr (s.heap.objs.size + 1) hei (by simp [Ne.symm hDe, hei]) (by simp)
  have hsz : vs.toArray.size = vs.length := by simp
  have nin : ∀ {b : Addr}, b < s.heap.objs.size → b ∉ [s.heap.objs.size + 1, s.heap.objs.size] := fun hb hm => by
    rcases List.mem_cons.mp hm with rfl | hm
    · exact absurd hb (Nat.not_lt.mpr (Nat.le_succ _))
    · rw [List.mem_singleton] at hm; subst hm; exact absurd hb (Nat.lt_irrefl _)
  have keepF : ∀ {h h' : Heap} {m : Str → Option Value}, Fr h₀ L h m → (∀ b o, b ∉ [s.heap.objs.size + 1, s.heap.objs.size] → h.get? b = some o → h'.get? b = some o) → Fr h₀ L h' m := fun F k =>
    ⟨F.ns.at' fun o q => k _ _ (nin hLlt) q, fun b o q => k b o (nin (h0lt b o q)) (F.keep b o q), F.above⟩
  have keepN : ∀ {h h' : Heap} {news' : List (Addr × Obj)}, (∀ p ∈ news', ∃ q ∈ news, q.1 = p.1) → News h₀ L h news' → (∀ b o, b ∉ [s.heap.objs.size + 1, s.heap.objs.size] → h.get? b = some o → h'.get? b = some o) → News h₀ L h' news' := fun ha Nn k p hp => by
    obtain ⟨q, hq, e⟩ := ha p hp
    exact ⟨k _ _ (nin (e ▸ hnlt q hq)) (Nn p hp).1, (Nn p hp).2⟩
  refine codeAny_forLoop_any (EnInv h₀ L (s.heap.objs.size + 1) s.heap.objs.size D vs s P news) (fun k s' => ?_) vs.length
    ⟨0, Nat.zero_le _, rfl, ⟨_, he⟩, hit, m, news, Fr.grown F hkp, News.keepsK N hkp, fun p hp => ⟨p, hp, rfl⟩, start, rfl, rfl, rfl⟩
  rintro ⟨i, hi, rfl, hE', hI', m', news', F', N', hadr, hP, g1, g2, g3⟩
  have es : ∀ h' tk, ({ s' with heap := h', toks := tk } : Shared) = { s with heap := h', toks := tk } := sh3 g1 g2 g3
  have hL' : s'.heap.IsList D vs.toArray := ⟨_, (N' _ (hD _ _ _ hP)).1, rfl, _, rfl⟩
  by_cases hin : i < vs.length
  · refine W.item i s' _ _ (by rw [hsz]; exact hin) ⟨hE', hI', hL'⟩ fun T vals h₂ tk₂ hPv hT hTt hmid hk₂ => ?_
    obtain ⟨tp, x, hx, rfl⟩ := hPv
    have hx' : vs[i]? = some x := by simpa using hx
    have hTw := W.apart i T _ hmid
    refine W.go _ _ _ i T { s' with heap := h₂, toks := tk₂ } _ _ hmid fun h₃ st₃ hk₃ => ?_
    have F₃ := keepF (keepF F' hk₂) hk₃
    have N₃ := keepN hadr (keepN hadr N' hk₂) hk₃
    have hT₃ : h₃.IsTuple T #[.int (i : Int) tp, x] := by
      obtain ⟨o, ho, r⟩ := hTt
      exact ⟨o, hk₃ _ _ hTw ho, r⟩
    refine wpAny_assign_Tuple hh hT₃ rfl rfl fun h₄ hx₄ => ?_
    replace hx₄ : Heap.ExtBut h₃.objs.size h₃ h₄ := hx₄
    have kx : Keeps h₃ h₄ := fun b o q => hx₄ b o (Nat.ne_of_lt (Heap.lt_size q)) q
    obtain ⟨⟨old, hE₃⟩, hI₃, _⟩ := st₃
    obtain ⟨oi, hoi, ri⟩ := hI₃
    have hE₄ := kx _ _ hE₃
    have hoi₄ := kx _ _ hoi
    have F₄ := Fr.grown F₃ kx
    have N₄ : News h₀ L h₄ (news' ++ [(s.heap.objs.size + 1, _), (s.heap.objs.size, oi)]) := fun p hp => by
      rcases List.mem_append.mp hp with hp | hp
      · exact News.keepsK N₃ kx p hp
      · rcases List.mem_cons.mp hp with rfl | hp
        · exact ⟨hE₄, Ne.symm hLe, none_above (Nat.le_trans F.above (Nat.le_succ_of_le (Nat.le_of_lt hLlt)))⟩
        · rw [List.mem_singleton] at hp; subst hp
          exact ⟨hoi₄, Ne.symm hLi, none_above (Nat.le_trans F.above (Nat.le_of_lt hLlt))⟩
    refine wpAny_bind (wpAny_holding (wpAny_assign_Name (PyProof.Rows.stN F₄ N₄ (fun h₅ F₅ N₅ => ?_) hk hl1)))
    refine wpAny_bind (wpAny_holding (wpAny_assign_Name (PyProof.Rows.stN F₅ N₅ (fun h₆ F₆ N₆ => wpAny_pure ?_) hk hl2)))
    have := turn i x m' news' _ h₆ (tk₂ + 1 + 1) tp hx' hP hadr (fun q hq p hp e => by
      have h1 := hnlt p hp
      rcases List.mem_cons.mp hq with rfl | hq
      · exact absurd h1 (by rw [← e]; exact Nat.not_lt.mpr (Nat.le_succ _))
      · rw [List.mem_singleton] at hq; subst hq; exact absurd h1 (by rw [← e]; exact Nat.lt_irrefl _)) F₆ N₆ _ _ (fun _ x => x) (fun _ _ x => x)
    show wpAny _ _ _ _ _ { s' with heap := h₆, toks := tk₂ + 1 + 1 }
    rw [es]
    refine wpAny_mono this (fun fl s₃ h₃ => ?_) (fun _ _ x => x.elim)
    have next : ∀ own, own = [(s.heap.objs.size + 1, ({ cls := .type "enumerate", dict := none, data := .fields #[.none, .bool false, .ref s.heap.objs.size, rawInt ((i + 1 : Nat) : Int), .none, old], slots := #[] } : Obj)), (s.heap.objs.size, oi)] →
        TurnG h₀ L s.gens s (P (i + 1)) own news s₃ → ∃ k, k < vs.length - i ∧ EnInv h₀ L (s.heap.objs.size + 1) s.heap.objs.size D vs s P news k s₃ := by
      rintro own rfl ⟨m₄, news₄, F₄, N₄, ha₄, hP₄, q1, q2, q3⟩
      exact ⟨vs.length - (i + 1), n_step hin, i + 1, hin, rfl, ⟨old, (N₄ _ (List.mem_append_right _ (.head _))).1⟩, ⟨oi, (N₄ _ (List.mem_append_right _ (.tail _ (.head _)))).1, ri⟩,
        m₄, news₄, F₄, News.sub N₄ fun p hp => List.mem_append_left _ hp, ha₄, hP₄, q1, q2, q3⟩
    cases fl with
    | next => exact next _ rfl h₃
    | cont => exact next _ rfl h₃
    | brk => exact h₃
    | ret v => exact h₃
  · have hin' : i = vs.length := n_end hi hin
    subst hin'
    refine W.done s' _ _ ⟨by rw [hsz]; exact hE', by rw [hsz]; exact hI', hL'⟩ fun h' tk hk' => wpAny_execs_nil ?_
    have := done m' news' h' tk hP hadr (keepF F' hk') (keepN hadr N' hk')
    rw [es]; exact this
end
end Mine
end
section -- S8c
open PySem PySem.W PyProof.Rows PySem.Calls
set_option maxRecDepth 100000
set_option maxHeartbeats 4000000
namespace Mine
local macro_rules | `(tactic| walk_at "go") => `(tactic| repeat' (walk_at "mine loop"; walk_at "mine ref"; (fail_if_success (with_reducible refine Mine.at2 ?_)); walk_at "mine one plain"))
/-- the frame of the drawing loop -/
inductive DrP (D D2 : Addr) (vs2 : List Value) (n2 : Nat) (j : Nat) (m : Str → Option Value) (news : List (Addr × Obj)) : Prop
  | mk (vs : List Value) (c : Nat) (ns : List Int) (f1 : Has m [(nm "drawn", .ref D)]) (f2 : news = [(D2, listOf vs2.toArray n2), (D, listOf vs.toArray c)]) (f3 : IntsAre vs ns) (f4 : ns.length = 7) (f5 : ∀ x ∈ ns, 0 ≤ x ∧ x ≤ 6022 + 1000000 * (j : Int))
theorem adrDD {a b : Addr} {o o' p p' : Obj} : ∀ q ∈ [(a, o), (b, o')], ∃ r ∈ [(a, p), (b, p')], r.1 = q.1 := by
  intro q hq
  rcases List.mem_cons.mp hq with rfl | hq
  · exact ⟨_, .head _, rfl⟩
  · rw [List.mem_singleton] at hq; subst hq; exact ⟨_, .tail _ (.head _), rfl⟩
theorem drawn_spec {w : World} {mean mg mb} {A : Around} {s : Shared} (G : Gd w mean mg mb s.heap) (hroom : A.depth + 20 < recursionLimit) (hh : A.handled = none)
   {l : Addr} {vs : List Value} {ks : List Int} {R : Result → Shared → Prop} (hL : s.heap.IsList l vs.toArray) (hI : IntsAre vs ks) (hz : ks.length ≤ 100)
   (h : ∀ D vs n ns s', Grown s s' → s.heap.get? D = none → s'.heap.get? D = some (listOf (List.toArray vs) n) → IntsAre vs ns → ns.length = 7 → (∀ x ∈ ns, 0 ≤ x ∧ x < 100000000) → R (.ok (.ret (.ref D))) s') :
   codeAny (model PP w) A (.call (.ref 80) ⟨[.ref l], []⟩) R s := by
  obtain ⟨hd', dep, frs, gds, uns⟩ := A
  cases hh
  refine spec_def G rfl rfl (by dsimp only at hroom ⊢; lia) (binds := [(nm "script", .ref l)]) (BindsTo.of_eq rfl) (locs rfl) ?_
  intro L h₁ F N
  obtain ⟨KX, T⟩ := G
  walk_at "go"
  refine wpAny_For ?_
  walk_at "go"
  rename Fr _ _ _ _ => F1
  rename News _ _ _ _ => N1
  rename IntsAre _ (List.take 60 ks) => hI2
  rename_i D1 h3 _ h4 D2 ws h5 _ _ hDD
  have hlw := hI2.length
  have hDD' : @Ne Nat D2 D1 := Nat.ne_of_gt hDD
  refine for_enum (vs := ws) (n := 0) rfl F1 N1 (DrP D1 D2 ws 0) (fun i m' news' q => ?_) ⟨[_, _, _, _, _, _, _], _, _, ⟨rfl, trivial⟩, rfl, .cons _ _ (.cons _ _ (.cons _ _ (.cons _ _ (.cons _ _ (.cons _ _ (.cons _ _ .nil)))))), rfl, ?_⟩ ?_ ?_
  · obtain ⟨_, _, _, _, rfl, _⟩ := q
    exact .head _
  · intro x hx
    simp only [List.mem_cons, List.not_mem_nil, or_false] at hx
    rcases hx with rfl | rfl | rfl | rfl | rfl | rfl | rfl <;> exact ⟨by decide, by lia⟩
  · rintro i v m' news' own h6 tk6 tp hv ⟨vs1, c, ns, hm, rfl, hI1, hl7, hb⟩ - hap F2 N2 Nx Qn hN hQ
    rw [← ov_eq hm] at F2
    dsimp only [ov] at F2
    obtain ⟨k, t, hk, rfl⟩ := intsAre_get hI2 hv
    have hi : i < ws.length := (List.getElem?_eq_some_iff.mp hv).1
    clear F1 N1
    walk_at "go"
    rename Fr _ _ _ _ => F3
    rename News _ _ _ _ => N3
    have e1 : (i : Int).fmod 7 = (i : Int) % 7 := Int.fmod_eq_emod_of_nonneg _ (by decide)
    have e2 : k.fmod 1000000 = k % 1000000 := Int.fmod_eq_emod_of_nonneg _ (by decide)
    rw [e1, e2]
    have hi7 : ((i : Int) % 7).toNat < ns.length := by lia
    have hget : ns.getD ((i : Int) % 7).toNat 0 ∈ ns := by
      rw [List.getD_eq_getElem?_getD, List.getElem?_eq_getElem hi7]
      exact List.getElem_mem _
    have hgb := hb _ hget
    refine ksa_set F3 N3 (.tail hDD' (.head fun p hp => hap p hp _ (.tail _ (.head _)))) hI1 (by lia) (by lia) (by lia) ?_
    intro h7 F4 N4 hI4 hl4 _
    clear F3 N3
    walk_at "go"
    refine hN _ ⟨_, [_, _], F4, N4, adrDD, ⟨_, _, _, ⟨rfl, trivial⟩, rfl, hI4, by rw [hl4]; exact hl7, fun x hx => ?_⟩, rfl, rfl, rfl⟩
    rcases List.mem_or_eq_of_mem_set hx with hx | rfl
    · have := hb x hx
      exact ⟨this.1, by push_cast; lia⟩
    · exact ⟨by lia, by push_cast; lia⟩
  · rintro m' news' h6 tk6 ⟨vs1, c, ns, hm, rfl, hI1, hl7, hb⟩ - F2 N2
    rw [← ov_eq hm] at F2
    dsimp only [ov] at F2
    clear F1 N1
    walk_at "go"
    rename Fr _ _ _ _ => F3
    rename News _ _ _ _ => N3
    refine h D1 vs1 c ns _ ⟨F3.keep, rfl, rfl, rfl⟩ (N3 _ (.tail _ (.head _))).2.2 (N3 _ (.tail _ (.head _))).1 hI1 hl7 fun x hx => ?_
    have := hb x hx
    rw [hlw, List.length_take] at this
    lia
end Mine
end
section -- S8a
open PySem PySem.W PyProof.Rows PySem.Calls
set_option maxRecDepth 100000
set_option maxHeartbeats 4000000
namespace Mine
local macro_rules | `(tactic| walk_at "go") => `(tactic| repeat' (walk_at "mine loop"; walk_at "mine ref"; (fail_if_success (with_reducible refine Mine.at2 ?_)); walk_at "mine one"))
theorem ops_words : Txt.words (Str.ofString "( ) [ ] : , ; + - * / | & < > = . % { } == != <= >= ~ ^ << >> ** += -= *= /= %= &= |= ^= <<= >>= **= // //= @ @= -> ... := !") = OPS.map S := by decide +kernel
theorem operators_spec {w : World} {mean mg mb} {A : Around} {s : Shared} (G : Gd w mean mg mb s.heap) (hroom : A.depth + 20 < recursionLimit) (hh : A.handled = none)
   {R : Result → Shared → Prop} (h : ∀ D vs n s', Grown s s' → s.heap.get? D = none → s'.heap.get? D = some (listOf (List.toArray vs) n) → StrsAre vs (OPS.map S) → R (.ok (.ret (.ref D))) s') :
   codeAny (model PP w) A (.call (.ref 73) ⟨[], []⟩) R s := by
  obtain ⟨hd', dep, frs, gds, uns⟩ := A
  cases hh
  refine spec_def G rfl rfl (by dsimp only at hroom ⊢; lia) (binds := []) (BindsTo.of_eq rfl) (locs rfl) ?_
  intro L h₁ F N
  obtain ⟨KX, T⟩ := G
  walk_at "go"
  rename Fr _ _ _ _ => F1
  rename News _ _ _ _ => N1
  rename StrsAre _ _ => hs
  rename (_ = Txt.words _) => he
  rw [he, ops_words] at hs
  exact h _ _ _ _ ⟨F1.keep, rfl, rfl, rfl⟩ (N1 _ (.head _)).2.2 (N1 _ (.head _)).1 hs
end Mine
end
section -- S8b
open PySem PySem.W PyProof.Rows PySem.Calls
set_option maxRecDepth 100000
set_option maxHeartbeats 4000000
namespace Mine
local macro_rules | `(tactic| walk_at "go") => `(tactic| repeat' (walk_at "mine loop"; walk_at "mine ref"; (fail_if_success (with_reducible refine Mine.at2 ?_)); (fail_if_success (with_reducible refine Mine.at3 ?_)); (fail_if_success (with_reducible refine Mine.at4 ?_)); walk_at "mine one"))
local macro_rules | `(tactic| walk_at "binaryOp Mod int int") => `(tactic| (refine mod_e (by decide) ?_))
local macro_rules | `(tactic| walk_at "binaryOp FloorDiv int int") => `(tactic| (refine floordiv_e (by decide) (PyProof.noPylong_small (by lia)) ?_))
/-- the frame behind the four names -/
inductive KiI (s : Shared) (h₀ : Heap) (L : Addr) (s' : Shared) : Prop
  | mk (one two : Int) (turn : Nat) (D : Addr) (vs : List Value) (c : Nat) (tt : Tok) (m : Str → Option Value) (f1 : Fr h₀ L s'.heap m) (f2 : Has m [(nm "kinds", .ref D), (nm "turn", .int (turn : Int) tt)]) (f3 : News h₀ L s'.heap [(D, listOf vs.toArray c)]) (f4 : IntsAre vs [0, 1, one + 2, two + 2]) (f5 : (0 ≤ one ∧ one < 46)) (f6 : (0 ≤ two ∧ two < 46)) (f7 : one ≠ two) (f8 : turn < 4) (f9 : s'.gens = s.gens) (f10 : s'.drawn = s.drawn) (f11 : s'.os = s.os)
theorem kinds_spec {w : World} {mean mg mb} {A : Around} {s : Shared} (G : Gd w mean mg mb s.heap) (hroom : A.depth + 20 < recursionLimit) (hh : A.handled = none)
   {x : Int} {t : Tok} {R : Result → Shared → Prop} (hx : 0 ≤ x ∧ x < 100000000)
   (h : ∀ D vs n one two turn s', Grown s s' → s.heap.get? D = none → s'.heap.get? D = some (listOf (List.toArray vs) n) → (0 ≤ one ∧ one < 46) → (0 ≤ two ∧ two < 46) → one ≠ two → turn < 4 →
     IntsAre vs ([0, 1, one + 2, two + 2].drop turn ++ [0, 1, one + 2, two + 2].take turn) → R (.ok (.ret (.ref D))) s') :
   codeAny (model PP w) A (.call (.ref 87) ⟨[.int x t], []⟩) R s := by
  obtain ⟨hd', dep, frs, gds, uns⟩ := A
  cases hh
  refine spec_def G rfl rfl (by dsimp only at hroom ⊢; lia) (binds := [(nm "number", .int x t)]) (BindsTo.of_eq rfl) (locs rfl) ?_
  intro L h₁ F N
  obtain ⟨KX, T⟩ := G
  show wpAny _ _ (execs _ _) _ _ _
  refine execs_cut 4 (KiI s s.heap L) ?_ ?_
  · intro Dn Qn hD hQ
    dsimp only [List.take]
    walk_at "go"
    rename Fr _ _ _ _ => F2
    rename News _ _ _ _ => N2
    refine hD _ ?_
    have e7 : (x / 2070) % 4 = (((x / 2070) % 4).toNat : Int) := by lia
    rw [e7] at F2
    refine ⟨x % 46, (x % 46 + 1 + (x / 46) % 45) % 46, ((x / 2070) % 4).toNat, _, [_, _, _, _], _, _, _, F2, ⟨rfl, rfl, trivial⟩, N2, .cons _ _ (.cons _ _ (.cons _ _ (.cons _ _ .nil))), by lia, by lia, by lia, by lia, rfl, rfl, rfl⟩
  · rintro s' ⟨one, two, turn, D, vs, c, tt, m, F2, hm, N2, hI, h1, h2, h3, h4, g1, g2, g3⟩
    have F3 := Fr.lays _ hm F2
    dsimp only [ov] at F3
    dsimp only [List.drop]
    clear F2 F N
    have hvl := hI.length
    have hvz : vs.toArray.size ≤ sizeLine := by rw [List.size_toArray, hvl, sizeLine_eq]; show 4 ≤ 16777216; decide
    walk_at "go"
    rename Fr _ _ _ _ => F4
    rename News _ _ _ _ => N4
    refine kmk_slice_ints (s := ⟨_, _, _, _, _⟩) F4 N4 ⟨_, (N4 _ (.head _)).1, rfl, _, rfl⟩ (.int _ _) .none hI (kmk_from hI (by lia)) rfl ?_ (by with_unfolding_all rfl) (by intro _; with_unfolding_all rfl) hvz
    intro D1 ws1 h5 F5 N5 l5 hI5 _ _
    try clear F4 N4
    walk_at "go"
    rename Fr _ _ _ _ => F4
    rename News _ _ _ _ => N4
    refine kmk_slice_ints (s := ⟨_, _, _, _, _⟩) F4 N4 ⟨_, (N4 _ (.tail _ (.head _))).1, rfl, _, rfl⟩ .none (.int _ _) hI (kmk_upto hI (by lia)) rfl ?_ (by with_unfolding_all rfl) (by intro _; with_unfolding_all rfl) hvz
    intro D2 ws2 h6 F6 N6 l6 hI6 _ _
    try clear F4 N4
    walk_at "go"
    rename Fr _ _ _ _ => F4
    rename News _ _ _ _ => N4
    refine add_arrays_ints F4 N4 ⟨_, (N4 _ (.tail _ (.head _))).1, rfl, _, rfl⟩ ⟨_, (N4 _ (.head _)).1, rfl, _, rfl⟩ hI5 hI6 ?_ ?_
    · intro h7 F7 N7 hI7
      walk_at "go"
      rw [Int.toNat_natCast] at hI7
      exact h _ _ _ one two turn _ ⟨F7.keep, g1, g2, g3⟩ (N7 _ (.head _)).2.2 (N7 _ (.head _)).1 h1 h2 h3 h4 hI7
    · rw [sizeLine_eq, List.length_drop, List.length_take]; simp only [List.length_cons, List.length_nil]; lia
end Mine
end
section -- S1
open PySem PySem.W PyProof.Rows PySem.Calls
set_option maxRecDepth 100000
set_option maxHeartbeats 4000000
namespace Mine
theorem subst_spec {w : World} {mean mg mb} {A : Around} {s : Shared} (G : Gd w mean mg mb s.heap) (hroom : A.depth + 5 < recursionLimit)
   {a b : Str} {ta tb : Tok} {R : Result → Shared → Prop} (ha : a.length ≤ 1) (hb : b.length ≤ 1) (hla : Txt.lower a = a) (hlb : Txt.lower b = b) 
   (h : ∀ tk s', Grown s s' → R (.ok (.ret (.int (if a = b then 0 else 2) tk))) s') :
   codeAny (model PP w) A (.call (.ref 21) ⟨[.str a ta, .str b tb], []⟩) R s := by
  refine spec_def G rfl rfl (by lia) (binds := [(Str.ofString "ch_a", .str a ta), (Str.ofString "ch_b", .str b tb)]) (BindsTo.of_eq rfl) (locs rfl) ?_
  intro L h₁ F N
  obtain ⟨KX, T⟩ := G
  k_steps
  · rename (a == b) = true => hab
    have e : (if a = b then (0:Int) else 2) = 0 := if_pos (eq_of_beq hab)
    rw [e] at h
    exact h _ _ ⟨F.keep, rfl, rfl, rfl⟩
  · rename (a == b) = false => hab
    rename (Txt.lower a == Txt.lower b) = true => hl
    rw [hla, hlb, hab] at hl
    cases hl
  · rename (a == b) = false => hab
    have e : (if a = b then (0:Int) else 2) = 2 := if_neg (ne_of_beq_false hab)
    rw [e] at h
    exact h _ _ ⟨F.keep, rfl, rfl, rfl⟩
end Mine
end
section -- S2t
open PySem PySem.W PyProof.Rows PySem.Calls
set_option maxRecDepth 100000
set_option maxHeartbeats 4000000
namespace Mine
local macro_rules | `(tactic| walk_at "go") => `(tactic| repeat' (walk_at "mine loop"; walk_at "mine one"))
/-- the frame of the first two loops -/
noncomputable def LevI (s : Shared) (h₀ : Heap) (L : Addr) (a b : List Nat) (mc : Int) (x : Str) (P : Int → Prop) (s' : Shared) : Prop :=
  ∃ (p : Int) (tk ta tb tm : Tok) (m : Str → Option Value), Fr h₀ L s'.heap m ∧ Has m [(x, .int p tk), (nm "a", .str (S a) ta), (nm "b", .str (S b) tb), (nm "max_cost", .int mc tm)] ∧
    s'.gens = s.gens ∧ s'.drawn = s.drawn ∧ s'.os = s.os ∧ P p
/-- the frame of the table's outer loop -/
inductive OutP (x y : List Nat) (mc : Int) (D : Addr) (i : Nat) (m : Str → Option Value) (news : List (Addr × Obj)) : Prop
  | mk (ta tb tm tr : Tok) (vs : List Value) (c : Nat) (rw : List Int) (res : Int)
    (hm : Has m [(nm "a", .str (S x) ta), (nm "b", .str (S y) tb), (nm "max_cost", .int mc tm), (nm "row", .ref D), (nm "result", .int res tr)])
    (hn : news = [(D, listOf vs.toArray c)]) (hI : IntsAre vs rw) (hl : rw.length = x.length) (hd : dp x y mc = outer x mc ((i : Int) * 2) rw res (y.drop i))
/-- the frame of the table's inner loop -/
inductive InP (x y : List Nat) (mc : Int) (D I : Addr) (i n : Nat) (bc : Nat) (rw : List Int) (k : Nat) (m : Str → Option Value) (news : List (Addr × Obj)) : Prop
  | mk (ta tb tm tr td tn tc ti : Tok) (vs : List Value) (c : Nat) (new : List Int) (dist : Int)
    (hm : Has m [(nm "a", .str (S x) ta), (nm "b", .str (S y) tb), (nm "max_cost", .int mc tm), (nm "row", .ref D), (nm "result", .int (lastOf ((i : Int) * 2) new) tr),
      (nm "distance", .int dist td), (nm "minimum", .int (low new) tn), (nm "bchar", .str (S [bc]) tc), (nm "bindex", .int (i : Int) ti)])
    (hn : news = [(I, itObj (i + 1) n), (D, listOf vs.toArray c)]) (hI : IntsAre vs (new ++ rw.drop k)) (hl : new.length = k)
    (hd : inner bc ((i : Int) * 2) ((i : Int) * 2) x rw = new ++ inner bc dist (lastOf ((i : Int) * 2) new) (x.drop k) (rw.drop k))
theorem use_subst {w : World} {mean mg mb} {A : Around} {s : Shared} {h₀ : Heap} {L : Addr} {m : Str → Option Value} {news : List (Addr × Obj)} {Q : Value → Shared → Prop} {E : Value → Shared → Prop}
    (KX : (hq.heap_1 w.params).In h₀) (T : Top hd.view_39 (looseW hd.view_39 [Str.ofString "EXACT_TOKEN_TYPES"]) mean mg mb h₀) (F : Fr h₀ L s.heap m) (N : News h₀ L s.heap news) (hroom : A.depth + 5 < recursionLimit)
    {x y : Nat} {ta tb : Tok} (hx : x < 65) (hy : y < 65) (h : ∀ tk h' k, Fr h₀ L h' m → News h₀ L h' news → Q (.int (if x = y then 0 else 2) tk) { s with heap := h', toks := k }) :
    wpAny (model PP w) A (call (.ref 21) [.str (S [x]) ta, .str (S [y]) tb]) Q E s := by
  refine wpAny_call (subst_spec (Gd.keeps ⟨KX, T⟩ F.keep) hroom (by rw [S_length]; exact Nat.le_refl _) (by rw [S_length]; exact Nat.le_refl _) (low_lower x hx) (low_lower y hy) fun tk s' g => ?_)
  have e : (if S [x] = S [y] then (0 : Int) else 2) = if x = y then 0 else 2 := by
    by_cases hxy : x = y
    · rw [if_pos hxy, if_pos (by rw [hxy])]
    · rw [if_neg hxy, if_neg fun q => hxy (List.cons.inj (S_inj q)).1]
  have es : s' = { s with heap := s'.heap, toks := s'.toks } := by
    exact sh3 (s' := s') g.gens g.drawn g.os s'.heap s'.toks
  rw [e, es]
  exact h tk s'.heap s'.toks (Fr.grown F g.keep) (News.keepsK N g.keep)
theorem min_if (l g : Int) : (if g < l then g else l) = min l g := by
  split
  · rename_i h; exact (Int.min_eq_right (Int.le_of_lt h)).symm
  · rename_i h; exact (Int.min_eq_left (Int.not_lt.mp h)).symm
theorem v_min (l g d : Int) : (if d < (if g < l then g else l) + 2 then d else (if g < l then g else l) + 2) = min (min l g + 2) d := by
  rw [min_if l g, min_if]
theorem inP_next {x y : List Nat} {mc : Int} {D I : Addr} {i n bc k : Nat} {rw new : List Int} {dist V mn : Int} {vs : List Value} {c : Nat} {m : Str → Option Value} {T ta tb tm tr td tn tc ti : Tok} (hk : k < x.length) (hrl : rw.length = x.length) (hnl : new.length = k)
    (hin : inner bc ((i : Int) * 2) ((i : Int) * 2) x rw = new ++ inner bc dist (lastOf ((i : Int) * 2) new) (x.drop k) (rw.drop k))
    (hIv : IntsAre (vs.set (k : Int).toNat (.int V T)) ((new ++ rw.drop k).set (k : Int).toNat V))
    (hv : V = min (min (lastOf ((i : Int) * 2) new) ((new ++ rw.drop k).getD (k : Int).toNat 0) + 2) (dist + if bc = x[k] then 0 else 2))
    (hmn : mn = if V < low new then V else low new)
    (hm : Has m [(nm "a", .str (S x) ta), (nm "b", .str (S y) tb), (nm "max_cost", .int mc tm), (nm "row", .ref D), (nm "result", .int V tr),
      (nm "distance", .int ((new ++ rw.drop k).getD (k : Int).toNat 0) td), (nm "minimum", .int mn tn), (nm "bchar", .str (S [bc]) tc), (nm "bindex", .int (i : Int) ti)]) :
    InP x y mc D I i n bc rw (k + 1) m [(I, itObj (i + 1) n), (D, listOf (vs.set (k : Int).toNat (.int V T)).toArray c)] := by
  have ek : (k : Int).toNat = k := Int.toNat_natCast k
  rw [ek] at hIv hv hm ⊢
  obtain ⟨e1, e2⟩ := inner_turn hk hrl hnl hin hv
  rw [e2] at hIv
  refine ⟨ta, tb, tm, tr, td, tn, tc, ti, _, c, new ++ [V], _, ?_, rfl, hIv, by simp [hnl], e1⟩
  rw [lastOf_append, low_append, ← hmn]
  exact hm
theorem adr2 {a b : Addr} {o o' p p' : Obj} : ∀ q ∈ [(a, o), (b, o')], ∃ r ∈ [(a, p), (b, p')], r.1 = q.1 := by
  intro q hq
  rcases List.mem_cons.mp hq with rfl | hq
  · exact ⟨_, .head _, rfl⟩
  · rcases List.mem_cons.mp hq with rfl | hq
    · exact ⟨_, .tail _ (.head _), rfl⟩
    · cases hq
theorem adr1 {a : Addr} {o p : Obj} : ∀ q ∈ [(a, o)], ∃ r ∈ [(a, p)], r.1 = q.1 := by
  intro q hq
  rcases List.mem_cons.mp hq with rfl | hq
  · exact ⟨_, .head _, rfl⟩
  · cases hq
theorem low_le (l : List Int) : low l ≤ 9223372036854775807 := by
  have : ∀ (l : List Int) (a : Int), a ≤ 9223372036854775807 → l.foldl (fun acc r => if r < acc then r else acc) a ≤ 9223372036854775807 := by
    intro l
    induction l with
    | nil => intro a h; exact h
    | cons b l ih => intro a h; exact ih _ (by dsimp only; split <;> lia)
  exact this l _ (Int.le_refl _)
theorem lev_table {w : World} {mean mg mb} {A : Around} {s s' : Shared} {L : Addr} (KX : (hq.heap_1 w.params).In s.heap) (T : Top hd.view_39 (looseW hd.view_39 [Str.ofString "EXACT_TOKEN_TYPES"]) mean mg mb s.heap) (hroom : A.depth + 6 < recursionLimit) (hh : A.handled = none)
   {x y : List Nat} {ta tb tm : Tok} {mc : Int} {m : Str → Option Value} {Q : Flow → Shared → Prop} (hx : x.length ≤ 40) (hy : y.length ≤ 40) (px : 0 < x.length) (hle : x.length ≤ y.length)
   (hmc : 0 ≤ mc ∧ mc < 1000000) (hlo : ∀ c ∈ x ++ y, c < 65)
   (F : Fr s.heap L s'.heap m) (hm : Has m [(nm "a", .str (S x) ta), (nm "b", .str (S y) tb), (nm "max_cost", .int mc tm)])
   (fin : ∀ r tk h' k', ((mc < ((y.length : Int) - x.length) * 2 ∧ r = mc + 1) ∨ (¬ mc < ((y.length : Int) - x.length) * 2 ∧ r = dp x y mc)) → Keeps s.heap h' → Q (.ret (.int r tk)) { s' with heap := h', toks := k' }) :
   wpAny (model PP w) A (execs ((fnB 5).drop 12) (envOf (nm "_levenshtein_distance") (fnS 5) L 28 (.ref 27))) Q (fun _ _ => False) s' := by
  have eb : (fnB 5).drop 12 = (fnB 5).drop 12 := rfl
  conv at eb => rhs; whnf
  have es : fnS 5 = fnS 5 := rfl
  conv at es => rhs; whnf
  rw [eb, es]
  clear eb es
  obtain ⟨hd', dep, frs, gds, uns⟩ := A
  cases hh
  have F3 := Fr.lays _ hm F
  dsimp only [ov] at F3
  have N3 : News s.heap L s'.heap [] := News.nil
  clear F hm
  dsimp only at hroom
  walk_at "go"
  · exact fin _ _ _ _ (.inl ⟨by assumption, rfl⟩) F3.keep
  · rename IntsAre _ _ => hI
    rename Fr _ _ _ _ => F1
    rename (¬ mc < _) => hmx
    refine wpAny_For ?_
    walk_at "go"
    rename IsRange _ _ _ _ _ _ _ _ => rgX
    rename Fr _ _ _ _ => F5
    rename News _ _ _ _ => N5
    try clear F1
    try rename IntsAre _ _ => hI
    refine loop_range rfl F5 N5 rgX (by lia) (OutP x y mc _) ⟨_, _, _, _, _, _, _, _, ⟨rfl, rfl, rfl, rfl, rfl, trivial⟩, rfl, hI, row0_length _, rfl⟩ ?_ ?_
    · rintro i m' news' I h tk t hi ⟨ta, tb, tm, tr, vs, c, rw, res, hm, rfl, hIv, hrl, hdp⟩ - hlt F2 N2 Nx Qn hN hQ
      rw [← ov_eq hm] at F2
      dsimp only [ov] at F2
      clear F5 N5 rgX
      walk_at "go"
      rename Fr _ _ _ _ => F1
      refine wpAny_For ?_
      walk_at "go"
      rename IsRange _ _ _ _ _ _ _ _ => rgX
      rename Fr _ _ _ _ => F5
      rename News _ _ _ _ => N5
      have hbc : y[i] < 65 := hlo _ (List.mem_append_right _ (List.getElem_mem _))
      try rename IntsAre _ _ => hIv
      refine loop_range rfl F5 N5 rgX (by lia) (InP x y mc _ I i y.length (y[i]) rw) ⟨_, _, _, _, _, _, _, _, _, _, [], _, ⟨rfl, rfl, rfl, rfl, rfl, rfl, rfl, rfl, rfl, trivial⟩, rfl, hIv, rfl, rfl⟩ ?_ ?_
      · rintro k m' news' I' h tk t hk ⟨ta, tb, tm, tr, td, tn, tc, ti, vs, c, new, dist, hm, rfl, hIv, hnl, hin⟩ - hlt' F2 N2 Nx2 Qn2 hN2 hQ2
        rw [← ov_eq hm] at F2
        dsimp only [ov] at F2
        have hax : x[k] < 65 := hlo _ (List.mem_append_left _ (List.getElem_mem _))
        clear F5 N5 rgX
        have d1 := hlt _ (.head _)
        have d2 := hlt' _ (.head _)
        have d3 := hlt' _ (.tail _ (.head _))
        dsimp only at d1 d2 d3
        replace d1 := ltN d1
        replace d2 := ltN d2
        replace d3 := ltN d3
        have hlen : (new ++ rw.drop k).length = x.length := by rw [List.length_append, List.length_drop]; lia
        walk_at "go"
        refine use_subst KX T F2 N2 (by simp only [depth_deeper]; lia) hbc hax ?_
        intro _ _ _ _ _
        walk_at "go"
        rename Fr _ _ _ _ => F5
        rename News _ _ _ _ => N5
        refine ksa_set F5 N5 (.tail (Nat.ne_of_gt d3) (.tail (Nat.ne_of_gt d1) (.head (fun _ h => nomatch h)))) hIv (by lia) (by lia) (by lia) ?_
        intro h' F6 N6 hI6 _ _
        clear F5 N5
        walk_at "go"
        · rename (_ < low new) => hmn
          rename Fr _ _ _ _ => F7
          rename News _ _ _ _ => N7
          exact hN2 _ ⟨_, _, F7, N7, adr2, inP_next hk hrl hnl hin hI6 (v_min _ _ _) (if_pos hmn).symm ⟨rfl, rfl, rfl, rfl, rfl, rfl, rfl, rfl, rfl, trivial⟩, rfl, rfl, rfl⟩
        · rename (¬ _ < low new) => hmn
          rename Fr _ _ _ _ => F7
          rename News _ _ _ _ => N7
          exact hN2 _ ⟨_, _, F7, N7, adr2, inP_next hk hrl hnl hin hI6 (v_min _ _ _) (if_neg hmn).symm ⟨rfl, rfl, rfl, rfl, rfl, rfl, rfl, rfl, rfl, trivial⟩, rfl, rfl, rfl⟩
      · rintro m' news' h tk ⟨ta, tb, tm, tr, td, tn, tc, ti, vs, c, new, dist, hm, rfl, hIv, hnl, hin⟩ - F2 N2
        rw [← ov_eq hm] at F2
        dsimp only [ov] at F2
        clear F5 N5 rgX
        have hnew := inner_end hin
        have ey : y.drop i = y[i] :: y.drop (i + 1) := List.drop_eq_getElem_cons hi
        rw [ey, outer_cons, hnew] at hdp
        have hll := low_le new
        walk_at "go"
        · rename (mc < low new) => hmn
          rw [if_pos hmn] at hdp
          exact hQ _ _ (fin _ _ _ _ (.inr ⟨hmx, hdp.symm⟩) (by assumption : Fr _ _ _ _).keep)
        · rename (¬ mc < low new) => hmn
          rw [if_neg hmn] at hdp
          rw [List.drop_of_length_le (by lia), List.append_nil] at hIv
          refine hN _ ⟨_, _, F2, N2, adr1, ⟨_, _, _, _, _, _, _, _, ⟨rfl, rfl, rfl, rfl, rfl, trivial⟩, rfl, hIv, hnl, ?_⟩, rfl, rfl, rfl⟩
          rw [hdp]; congr 1; push_cast; lia
    · rintro m' news' h tk ⟨ta, tb, tm, tr, vs, c, rw, res, hm, rfl, hIv, hrl, hdp⟩ - F2 N2
      rw [← ov_eq hm] at F2
      dsimp only [ov] at F2
      rw [List.drop_length] at hdp; replace hdp : _ = res := hdp
      walk_at "go"
      exact fin _ _ _ _ (.inr ⟨hmx, hdp.symm⟩) F2.keep
end Mine
end
section -- S2
open PySem PySem.W PyProof.Rows PySem.Calls
set_option maxRecDepth 100000
set_option maxHeartbeats 4000000
namespace Mine
local macro_rules | `(tactic| walk_at "go") => `(tactic| repeat' (walk_at "mine loop"; walk_at "mine one idle"))
theorem take_more {a b : List Nat} {p : Nat} (h : a.take p = b.take p) (ha : p < a.length) (hb : p < b.length) (e : a[p] = b[p]) : a.take (p + 1) = b.take (p + 1) := by
  rw [List.take_add_one, List.take_add_one, h, List.getElem?_eq_getElem ha, List.getElem?_eq_getElem hb, e]
theorem drop_more {a b : List Nat} {q : Nat} (h : a.drop (a.length - q) = b.drop (b.length - q)) (ha : q < a.length) (hb : q < b.length) (e : a[a.length - (q + 1)]'(Nat.sub_lt (Nat.lt_of_le_of_lt (Nat.zero_le _) ha) (Nat.succ_pos q)) = b[b.length - (q + 1)]'(Nat.sub_lt (Nat.lt_of_le_of_lt (Nat.zero_le _) hb) (Nat.succ_pos q))) :
    a.drop (a.length - (q + 1)) = b.drop (b.length - (q + 1)) := by
  rw [List.drop_eq_getElem_cons (i := a.length - (q + 1)) (Nat.sub_lt (Nat.lt_of_le_of_lt (Nat.zero_le _) ha) (Nat.succ_pos q)), List.drop_eq_getElem_cons (i := b.length - (q + 1)) (Nat.sub_lt (Nat.lt_of_le_of_lt (Nat.zero_le _) hb) (Nat.succ_pos q)), e]
  have e1 : a.length - (q + 1) + 1 = a.length - q := by lia
  have e2 : b.length - (q + 1) + 1 = b.length - q := by lia
  rw [e1, e2, h]
/-- between the turns of the first loop -/
inductive PreI (s : Shared) (L : Addr) (a b : List Nat) (mc : Int) (n : Nat) (s' : Shared) : Prop
  | mk (p : Nat) (hn : n = a.length - p) (tp ta tb tm : Tok) (m : Str → Option Value) (F : Fr s.heap L s'.heap m)
    (e : Has m [(nm "pre", .int (p : Int) tp), (nm "a", .str (S a) ta), (nm "b", .str (S b) tb), (nm "max_cost", .int mc tm)])
    (g1 : s'.gens = s.gens) (g2 : s'.drawn = s.drawn) (g3 : s'.os = s.os) (p1 : p ≤ a.length) (p2 : p ≤ b.length) (p3 : a.take p = b.take p)
/-- between the turns of the second -/
inductive PostI (s : Shared) (L : Addr) (a b : List Nat) (mc : Int) (n : Nat) (s' : Shared) : Prop
  | mk (p : Nat) (hn : n = a.length - p) (tp ta tb tm : Tok) (m : Str → Option Value) (F : Fr s.heap L s'.heap m)
    (e : Has m [(nm "post", .int (-(p : Int)) tp), (nm "a", .str (S a) ta), (nm "b", .str (S b) tb), (nm "max_cost", .int mc tm)])
    (g1 : s'.gens = s.gens) (g2 : s'.drawn = s.drawn) (g3 : s'.os = s.os) (p1 : p ≤ a.length) (p2 : p ≤ b.length) (p3 : a.drop (a.length - p) = b.drop (b.length - p))
/-- behind the loops -/
inductive CutI (s : Shared) (L : Addr) (a b : List Nat) (mc : Int) (s' : Shared) : Prop
  | mk (p : Int) (tp ta tb tm : Tok) (m : Str → Option Value) (F : Fr s.heap L s'.heap m)
    (e : Has m [(nm "post", .int p tp), (nm "a", .str (S a) ta), (nm "b", .str (S b) tb), (nm "max_cost", .int mc tm)])
    (g1 : s'.gens = s.gens) (g2 : s'.drawn = s.drawn) (g3 : s'.os = s.os)
inductive SwapI (s : Shared) (L : Addr) (x y : List Nat) (mc : Int) (s' : Shared) : Prop
  | mk (nx : x ≠ []) (ny : y ≠ []) (x' y' : List Nat) (h : (y.length < x.length ∧ x' = y ∧ y' = x) ∨ (¬ y.length < x.length ∧ x' = x ∧ y' = y)) (c : CutI s L x' y' mc s')
theorem swap_facts {x y x' y' pf sf : List Nat} (hxy : (y.length < x.length ∧ x' = y ∧ y' = x) ∨ (¬ y.length < x.length ∧ x' = x ∧ y' = y)) (nx : x ≠ []) (ny : y ≠ []) (hx : x.length ≤ 40) (hy : y.length ≤ 40) :
    x'.length ≤ 40 ∧ y'.length ≤ 40 ∧ x'.length ≤ y'.length ∧ x' ≠ [] ∧ ∀ c ∈ x' ++ y', c ∈ (pf ++ x ++ sf) ++ (pf ++ y ++ sf) := by
  rcases hxy with ⟨h, rfl, rfl⟩ | ⟨h, rfl, rfl⟩
  · exact ⟨hy, hx, Nat.le_of_lt h, ny, fun c hc => by simp only [List.mem_append] at hc ⊢; rcases hc with hc | hc <;> simp [hc]⟩
  · exact ⟨hx, hy, Nat.not_lt.mp h, nx, fun c hc => by simp only [List.mem_append] at hc ⊢; rcases hc with hc | hc <;> simp [hc]⟩
theorem lev_spec {w : World} {mean mg mb} {A : Around} {s : Shared} (G : Gd w mean mg mb s.heap) (hroom : A.depth + 10 < recursionLimit) (hh : A.handled = none)
   {a b : List Nat} {ta tb tm : Tok} {mc : Int} {R : Result → Shared → Prop} (ha : a.length ≤ 40) (hb : b.length ≤ 40) 
   (hmc : 0 ≤ mc ∧ mc < 1000000) (hlo : ∀ c ∈ a ++ b, c < 65)
   (h : ∀ r tk s', LevRel a b mc r → Grown s s' → R (.ok (.ret (.int r tk))) s') :
   codeAny (model PP w) A (.call (.ref 28) ⟨[.str (S a) ta, .str (S b) tb, .int mc tm], []⟩) R s := by
  obtain ⟨hd', dep, frs, gds, uns⟩ := A
  cases hh
  refine spec_def G rfl rfl (by dsimp only at hroom ⊢; lia) (binds := [(Str.ofString "a", .str (S a) ta), (Str.ofString "b", .str (S b) tb), (Str.ofString "max_cost", .int mc tm)]) (BindsTo.of_eq rfl) (locs rfl) ?_
  intro L h₁ F N
  obtain ⟨KX, T⟩ := G
  have ha' := S_length a
  have hb' := S_length b
  walk_at "go"
  · rename ((S _ == S _) = true) => hab
    exact h 0 _ _ (.inl ⟨S_inj (eq_of_beq hab), rfl⟩) ⟨F.keep, rfl, rfl, rfl⟩
  · rename Fr _ _ _ _ => F1
    rename ((S _ == S _) = false) => hab
    have hne : a ≠ b := fun e => by rw [e] at hab; simp at hab
    refine while_cut (PreI s L a b mc) (fun s' => ∃ n, PreI s L a b mc n s') (a.length - 0)
      ⟨0, rfl, _, _, _, _, _, F1, ⟨rfl, rfl, rfl, rfl, trivial⟩, rfl, rfl, rfl, Nat.zero_le _, Nat.zero_le _, rfl⟩ ?_ ?_
    · rintro n s' ⟨p, hn, tp, ta, tb, tm, m, F2, e, g1, g2, g3, p1, p2, p3⟩ Nx Dn Rt hN hD hR
      have F3 := Fr.lays _ e F2
      dsimp only [ov] at F3
      have N3 : News s.heap L s'.heap [] := News.nil
      clear F1 F2
      walk_at "go"
      · rename ((S _ == S _) = true) => q3
        rename Fr _ _ _ _ => F5
        have d1 : (a.drop p).length = a.length - p := List.length_drop ..
        have d2 : (b.drop p).length = b.length - p := List.length_drop ..
        have l1 : p < a.length := by lia
        have l2 : p < b.length := by lia
        have q4 : a[p] = b[p] := List.cons.inj (S_inj (eq_of_beq q3)) |>.1
        exact hN _ ⟨a.length - (p + 1), by rw [hn]; exact n_step l1, p + 1, rfl, _, _, _, _, _, F5, ⟨rfl, rfl, rfl, rfl, trivial⟩, g1, g2, g3, by lia, by lia, take_more p3 l1 l2 q4⟩
      all_goals (rename Fr _ _ _ _ => F5; exact hD _ ⟨n, p, hn, _, _, _, _, _, F5, ⟨rfl, rfl, rfl, rfl, trivial⟩, g1, g2, g3, p1, p2, p3⟩)
    · rintro s' ⟨n, p, hn, tp, ta, tb, tm, m, F2, e, g1, g2, g3, p1, p2, p3⟩
      have F3 := Fr.lays _ e F2
      dsimp only [ov] at F3
      have N3 : News s.heap L s'.heap [] := News.nil
      clear F1 F2
      walk_at "go"
      rename Fr _ _ _ _ => F1
      have hu : (a.drop p).length ≤ 40 := by rw [List.length_drop]; lia
      have hv : (b.drop p).length ≤ 40 := by rw [List.length_drop]; lia
      have ea : a = a.take p ++ a.drop p := (List.take_append_drop p a).symm
      have eb : b = a.take p ++ b.drop p := by rw [p3]; exact (List.take_append_drop p b).symm
      generalize hU : a.drop p = u at *
      generalize hV : b.drop p = v at *
      have hu' := S_length u
      have hv' := S_length v
      clear hn n
      refine while_cut (PostI s L u v mc) (fun s' => ∃ n, PostI s L u v mc n s') (u.length - 0)
        ⟨0, rfl, _, _, _, _, _, F1, ⟨rfl, rfl, rfl, rfl, trivial⟩, g1, g2, g3, Nat.zero_le _, Nat.zero_le _, by simp⟩ ?_ ?_
      · rintro n s' ⟨q, hn, tp, ta, tb, tm, m, F2, e, g1, g2, g3, q1, q2, q3⟩ Nx Dn Rt hN hD hR
        have F3 := Fr.lays _ e F2
        dsimp only [ov] at F3
        have N3 : News s.heap L s'.heap [] := News.nil
        clear F1 F2
        have d1 : (u.take (u.length - q)).length = u.length - q := by rw [List.length_take]; lia
        have d2 : (v.take (v.length - q)).length = v.length - q := by rw [List.length_take]; lia
        have fin : q < u.length → q < v.length → ∀ (l1 : u.length - (q + 1) < u.length) (l2 : v.length - (q + 1) < v.length), (S [u[u.length - (q + 1)]] == S [v[v.length - (q + 1)]]) = true →
            ∀ s'' tk (m : Str → Option Value), Fr s.heap L s''.heap m → Has m [(nm "post", .int (-((q + 1 : Nat) : Int)) tk), (nm "a", .str (S u) ta), (nm "b", .str (S v) tb), (nm "max_cost", .int mc tm)] →
            s''.gens = s.gens → s''.drawn = s.drawn → s''.os = s.os → Nx s'' := by
          intro lu lv l1 l2 q4 s'' tk m F5 hm a1 a2 a3
          have q5 : u[u.length - (q + 1)] = v[v.length - (q + 1)] := List.cons.inj (S_inj (eq_of_beq q4)) |>.1
          exact hN _ ⟨u.length - (q + 1), by rw [hn]; exact n_step lu, q + 1, rfl, _, _, _, _, _, F5, hm, a1, a2, a3, by lia, by lia, drop_more q3 lu lv q5⟩
        walk_at "go"
        all_goals first
          | (exfalso; lia)
          | (rename ((S _ == S _) = true) => q4
             rename Fr _ _ _ _ => F5
             exact fin (by lia) (by lia) _ _ q4 _ _ _ F5 ⟨by rw [show -((q + 1 : Nat) : Int) = -(q : Int) - 1 by lia]; rfl, rfl, rfl, rfl, trivial⟩ g1 g2 g3)
          | (rename Fr _ _ _ _ => F5; exact hD _ ⟨n, q, hn, _, _, _, _, _, F5, ⟨rfl, rfl, rfl, rfl, trivial⟩, g1, g2, g3, q1, q2, q3⟩)
      · rintro s' ⟨n, q, hn, tp, ta, tb, tm, m, F2, e, g1, g2, g3, q1, q2, q3⟩
        clear hn n
        have F3 := Fr.lays _ e F2
        dsimp only [ov] at F3
        have N3 : News s.heap L s'.heap [] := News.nil
        clear F1 F2
        show wpAny _ _ (execs _ _) _ _ _
        refine execs_cut 2 (CutI s L (u.take (u.length - q)) (v.take (v.length - q)) mc) ?_ ?_
        · intro Dn Qn hD hQ
          dsimp only [List.take]
          have tu : q = 0 → u.take (u.length - q) = u := fun e => by rw [e]; simp
          have tv : q = 0 → v.take (v.length - q) = v := fun e => by rw [e]; simp
          walk_at "go"
          all_goals first
            | (exfalso; lia)
            | (rename Fr _ _ _ _ => F5; exact hD _ ⟨_, _, _, _, _, _, F5, ⟨rfl, rfl, rfl, rfl, trivial⟩, g1, g2, g3⟩)
            | (rename Fr _ _ _ _ => F5; refine hD _ ?_; rw [tu (by lia), tv (by lia)]; exact ⟨_, _, _, _, _, _, F5, ⟨rfl, rfl, rfl, rfl, trivial⟩, g1, g2, g3⟩)
        · have eu : u = u.take (u.length - q) ++ u.drop (u.length - q) := (List.take_append_drop _ _).symm
          have ev : v = v.take (v.length - q) ++ u.drop (u.length - q) := by rw [q3]; exact (List.take_append_drop _ _).symm
          have hul : (u.take (u.length - q)).length ≤ 40 := by rw [List.length_take]; lia
          have hvl : (v.take (v.length - q)).length ≤ 40 := by rw [List.length_take]; lia
          generalize u.take (u.length - q) = x at *
          generalize v.take (v.length - q) = y at *
          generalize u.drop (u.length - q) = sf at *
          generalize a.take p = pf at *
          have ea' : a = pf ++ x ++ sf := by rw [List.append_assoc, ← eu]; exact ea
          have eb' : b = pf ++ y ++ sf := by rw [List.append_assoc, ← ev]; exact eb
          clear eu ev ea eb q3 q1 q2 hU hV p3 F3 N3
          rintro s' ⟨pv, tp, ta, tb, tm, m, F2, e, g1, g2, g3⟩
          have F3 := Fr.lays _ e F2
          dsimp only [ov] at F3
          have N3 : News s.heap L s'.heap [] := News.nil
          clear F2
          dsimp only [List.drop]
          refine execs_cut 3 (SwapI s L x y mc) ?_ ?_
          · intro Dn Qn hD hQ
            dsimp only [List.take]
            have nx : (x.length : Int) ≠ 0 → x ≠ [] := fun e e' => e (by rw [e']; rfl)
            have ny : (y.length : Int) ≠ 0 → y ≠ [] := fun e e' => e (by rw [e']; rfl)
            have zx : (x.length : Int) = 0 → x = [] := fun e => List.length_eq_zero_iff.mp (by lia)
            have zy : (y.length : Int) = 0 → y = [] := fun e => List.length_eq_zero_iff.mp (by lia)
            walk_at "go"
            · rename Fr _ _ _ _ => F5
              exact hD _ ⟨nx (by assumption), ny (by assumption), y, x, .inl ⟨by lia, rfl, rfl⟩, _, _, _, _, _, _, F5, ⟨rfl, rfl, rfl, rfl, trivial⟩, g1, g2, g3⟩
            · rename Fr _ _ _ _ => F5
              exact hD _ ⟨nx (by assumption), ny (by assumption), x, y, .inr ⟨by lia, rfl, rfl⟩, _, _, _, _, _, _, F5, ⟨rfl, rfl, rfl, rfl, trivial⟩, g1, g2, g3⟩
            · exact hQ _ _ (h _ _ _ (.inr ⟨hne, pf, x, y, sf, ea', eb', .inl ⟨.inr (zy (by assumption)), rfl⟩⟩) ⟨F3.keep, g1, g2, g3⟩)
            · exact hQ _ _ (h _ _ _ (.inr ⟨hne, pf, x, y, sf, ea', eb', .inl ⟨.inl (zx (by assumption)), rfl⟩⟩) ⟨F3.keep, g1, g2, g3⟩)
          · rintro s' ⟨nx, ny, x', y', hxy, pw, tp, ta, tb, tm, m, F2, e, g1, g2, g3⟩
            dsimp only [List.drop]
            obtain ⟨hx', hy', hle, nx', hmm⟩ := swap_facts hxy nx ny hul hvl
            have px' : 0 < x'.length := List.length_pos_iff.mpr nx'
            have fin : ∀ r tk s', ((mc < ((y'.length : Int) - x'.length) * 2 ∧ r = mc + 1) ∨ (¬ mc < ((y'.length : Int) - x'.length) * 2 ∧ r = dp x' y' mc)) → Grown s s' → R (.ok (.ret (.int r tk))) s' := fun r tk s' hr hg =>
              h r tk s' (.inr ⟨hne, pf, x, y, sf, ea', eb', .inr ⟨nx, ny, x', y', hxy, hr⟩⟩) hg
            have hlx : ∀ c ∈ x' ++ y', c < 65 := by
              intro c hc
              apply hlo c
              rw [ea', eb']
              exact hmm c hc
            clear h hxy ea' eb' nx ny hlo hne hab
            refine lev_table KX T (by simp only [depth_deeper]; dsimp only at hroom ⊢; lia) rfl hx' hy' px' hle hmc hlx F2 ⟨e.2.1, e.2.2.1, e.2.2.2.1, trivial⟩ ?_
            intro r tk h' k' hr hk
            exact fin r tk _ hr ⟨hk, g1, g2, g3⟩
end Mine
end
section -- B9
open PySem PySem.W PyProof.Rows PySem.Calls PySem.Builtin PySem.Builtin.Str
set_option maxRecDepth 100000
set_option maxHeartbeats 4000000
namespace Mine
theorem mul_flat (c : Nat) : ∀ (n : Nat) (acc : Array Nat), (List.replicate n (#[c] : Array Nat)).foldl (· ++ ·) acc = acc ++ (List.replicate n c).toArray
  | 0, acc => by simp
  | n + 1, acc => by
    rw [List.replicate_succ, List.foldl_cons, mul_flat c n, List.replicate_succ]
    apply Array.ext'
    simp
theorem mul_text (c n : Nat) : Txt.mul (S [c]) (n : Int) = S (List.replicate n c) := by
  unfold Txt.mul
  match n with
  | 0 => rfl
  | 1 => rfl
  | n + 2 =>
    have h1 : ¬ (((n + 2 : Nat) : Int) < 1) := by lia
    have h2 : ¬ ((((n + 2 : Nat) : Int) == 1 || (S [c]).length == 0) = true) := by
      rw [S_length]
      simp only [List.length_cons, List.length_nil, Bool.or_eq_true, beq_iff_eq]
      lia
    rw [if_neg h1, if_neg h2, Int.toNat_natCast, show (S [c]).cps = #[c] from rfl, mul_flat]
    simp
theorem mul_S {prog : Program} {w : World} {A : Around} {E : Value → Shared → Prop} {s : Shared} {Q : Value → Shared → Prop} {c n : Nat} {x : Str} {t u : Tok} (hx : x = S [c]) (hn : n ≤ 1000)
    (h : ∀ t' k, Q (.str (S (List.replicate n c)) t') { s with toks := k }) : wpAny (model prog w) A (binaryOp .Mult (.str x t) (.int (n : Int) u)) Q E s := by
  subst hx
  refine SB.mul ⟨?_, fun h1 _ => ?_, fun _ _ => ?_⟩ fun t' k => by rw [mul_text]; exact h t' k
  · rw [decide_eq_false (by lia), decide_eq_false (by lia)]; rfl
  · rw [S_length]
    have h2 : (1 : Int) ≤ (2 ^ 63 - 1) / (n : Int) := Int.le_ediv_of_mul_le (by lia) (by lia)
    simp only [List.length_cons, List.length_nil]
    lia
  · rw [S_length, Int.toNat_natCast]
    unfold tooLong
    rw [sizeLine_eq]
    exact decide_eq_false (by simp only [List.length_cons, List.length_nil]; lia)
end Mine
namespace Mine
section
variable {prog : Program} {w : World} {A : Around} {E : Value → Shared → Prop} {s : Shared} {value slice : Expr} {l : List Nat} {d : Nat} {t : Tok} {h₀ : Heap} {L : Addr} {m : Str → Option Value} {news : List (Addr × Obj)} {Q : Value → Shared → Prop}
theorem sl_1n {u : Tok} (hF : Fr h₀ L s.heap m) (hN : News h₀ L s.heap news) (hsz : (d :: l).length ≤ 16777216) (h : ∀ h' t' k, Fr h₀ L h' m → News h₀ L h' news → Q (.str (S l) t') { s with heap := h', toks := k })
    (hs : subscripted slice false (.str (S (d :: l)) t) (.ref s.heap.objs.size) = operate [.ref s.heap.objs.size, .str (S (d :: l)) t] (getItem (.str (S (d :: l)) t) (.ref s.heap.objs.size)) := by with_unfolding_all rfl)
    (ht : ∀ r, letTemporaryGo value (.str (S (d :: l)) t) r = pure () := by intro _; with_unfolding_all rfl) :
    wpAny (model prog w) A (subscriptTail value slice (.str (S (d :: l)) t) (.ref s.heap.objs.size)) Q E { s with heap := s.heap.push { cls := .type "slice", data := .fields #[.int 1 u, .none, .none] } } :=
  sl_sn (p := 1) hF hN hsz h hs ht
theorem item_0 {u : Tok} (hsz : (d :: l).length ≤ 16777216) (h : Q (.str (S [d]) s.toks) { s with toks := s.toks + 1 })
    (hs : subscripted slice false (.str (S (d :: l)) t) (.int 0 u) = operate [.str (S (d :: l)) t, .int 0 u] (getItem (.str (S (d :: l)) t) (.int 0 u)) := by with_unfolding_all rfl)
    (ht : ∀ r, letTemporaryGo value (.str (S (d :: l)) t) r = pure () := by intro _; with_unfolding_all rfl) :
    wpAny (model prog w) A (subscriptTail value slice (.str (S (d :: l)) t) (.int 0 u)) Q E s :=
  item_S (p := 0) (by simp) hsz h hs ht
end
end Mine
end
section -- P6
namespace Mine
/-- half of the distance, by prefixes -/
noncomputable def Ed (x y : List Nat) : Nat → Nat → Nat :=
  Nat.rec (fun j => j) fun i f => Nat.rec (i + 1) fun j r => min (min (f (j + 1)) r + 1) (f j + if x[i]? = y[j]? then 0 else 1)
theorem Ed_zero (x y : List Nat) (j : Nat) : Ed x y 0 j = j := rfl
theorem Ed_left (x y : List Nat) (i : Nat) : Ed x y i 0 = i := by cases i <;> rfl
theorem Ed_step (x y : List Nat) (i j : Nat) : Ed x y (i + 1) (j + 1) = min (min (Ed x y i (j + 1)) (Ed x y (i + 1) j) + 1) (Ed x y i j + if x[i]? = y[j]? then 0 else 1) := rfl
theorem min_ca (a b : Nat) : min a b ≤ a ∧ min a b ≤ b ∧ (min a b = a ∨ min a b = b) :=
  ⟨Nat.min_le_left a b, Nat.min_le_right a b, (Nat.le_total a b).elim (fun h => .inl (Nat.min_eq_left h)) fun h => .inr (Nat.min_eq_right h)⟩
theorem min3 {a b c r : Nat} (h : r = min (min a b + 1) c) : r ≤ a + 1 ∧ r ≤ b + 1 ∧ r ≤ c ∧ (r = a + 1 ∨ r = b + 1 ∨ r = c) := by
  obtain ⟨p1, p2, p3⟩ := min_ca a b
  obtain ⟨q1, q2, q3⟩ := min_ca (min a b + 1) c
  rw [← h] at q1 q2 q3
  refine ⟨Nat.le_trans q1 (Nat.succ_le_succ p1), Nat.le_trans q1 (Nat.succ_le_succ p2), q2, ?_⟩
  rcases q3 with q3 | q3
  · rcases p3 with p3 | p3
    · exact .inl (by rw [q3, p3])
    · exact .inr (.inl (by rw [q3, p3]))
  · exact .inr (.inr q3)
theorem min3i {r a d c : Int} {e : Nat} {f : Nat} {g : Nat} {h : Nat} (hr : r = 2 * (e : Int)) (ha : a = 2 * (f : Int)) (hd : d = 2 * (g : Int)) (hc : c = 2 * (h : Int)) : min (min r a + 2) (d + c) = 2 * ((min (min e f + 1) (g + h) : Nat) : Int) := by
  subst hr ha hd hc
  have m2 : ∀ u v : Nat, min (2 * (u : Int)) (2 * (v : Int)) = 2 * ((min u v : Nat) : Int) := fun u v => by
    rcases Nat.le_total u v with p | p
    · rw [Nat.min_eq_left p, Int.min_eq_left (by lia)]
    · rw [Nat.min_eq_right p, Int.min_eq_right (by lia)]
  rw [m2, ← Int.mul_add, ← Int.natCast_add, show 2 * ((min e f : Nat) : Int) + 2 = 2 * ((min e f + 1 : Nat) : Int) by lia, m2]
theorem cost_eq {a b : Nat} : (if (some a : Option Nat) = some b then (0 : Nat) else 1) = if a = b then 0 else 1 := by
  by_cases q : a = b
  · rw [if_pos q, if_pos (by rw [q])]
  · rw [if_neg q, if_neg (by intro e; exact q (Option.some.inj e))]
theorem cost_le {p : Prop} [Decidable p] : (if p then (0 : Nat) else 1) ≤ 1 := by split <;> decide
/-- a row of the table -/
noncomputable def rowE (x y : List Nat) (j : Nat) : List Int := (List.range x.length).map fun i => 2 * (Ed x y (i + 1) j : Int)
theorem rowE_length (x y : List Nat) (j : Nat) : (rowE x y j).length = x.length := by simp [rowE]
theorem rowE_get (x y : List Nat) (j i : Nat) (h : i < x.length) : (rowE x y j)[i]'(by rw [rowE_length]; exact h) = 2 * (Ed x y (i + 1) j : Int) := by simp [rowE]
theorem rowE_drop (x y : List Nat) (j k : Nat) (h : k < x.length) : (rowE x y j).drop k = 2 * (Ed x y (k + 1) j : Int) :: (rowE x y j).drop (k + 1) := by
  rw [List.drop_eq_getElem_cons (by rw [rowE_length]; exact h), rowE_get x y j k h]
theorem row0_eq (x y : List Nat) : row0 x.length = rowE x y 0 := by
  unfold row0 rowE
  apply List.map_congr_left
  intro i _
  rw [Ed_left]; push_cast; lia
theorem Ed_one (x y : List Nat) (j a b : Nat) : min (min (Ed x y 0 (j + 1)) (Ed x y (0 + 1) j) + 1) (Ed x y 0 j + if a = b then 0 else 1) = min (min j (Ed x y (0 + 1) j) + 1) (j + if a = b then 0 else 1) := by
  rw [Ed_zero, Ed_zero]
  have h : (if a = b then (0 : Nat) else 1) ≤ 1 := cost_le
  have h2 : min (min (j + 1) (Ed x y (0 + 1) j) + 1) (j + if a = b then 0 else 1) = min (Ed x y (0 + 1) j + 1) (j + if a = b then 0 else 1) := by
    rcases Nat.le_total (j + 1) (Ed x y (0 + 1) j) with q | q
    · rw [Nat.min_eq_left q, Nat.min_eq_right (Nat.le_trans (Nat.add_le_add_left h j) (Nat.le_succ _)), Nat.min_eq_right (Nat.le_trans (Nat.add_le_add_left h j) (Nat.le_succ_of_le q))]
    · rw [Nat.min_eq_right q]
  have h3 : min (min j (Ed x y (0 + 1) j) + 1) (j + if a = b then 0 else 1) = min (Ed x y (0 + 1) j + 1) (j + if a = b then 0 else 1) := by
    rcases Nat.le_total j (Ed x y (0 + 1) j) with q | q
    · rw [Nat.min_eq_left q, Nat.min_eq_right (Nat.add_le_add_left h j), Nat.min_eq_right (Nat.le_trans (Nat.add_le_add_left h j) (Nat.succ_le_succ q))]
    · rw [Nat.min_eq_right q]
  rw [h2, h3]
theorem inner_row (x y : List Nat) (j bc : Nat) (hb : y[j]? = some bc) : ∀ (n k : Nat) (d r : Int), x.length - k = n → k ≤ x.length → d = 2 * (Ed x y k j : Int) → (r = 2 * (Ed x y k (j + 1) : Int) ∨ (k = 0 ∧ r = 2 * (j : Int))) →
    inner bc d r (x.drop k) ((rowE x y j).drop k) = (rowE x y (j + 1)).drop k := by
  intro n
  induction n with
  | zero =>
    intro k d r hn hk hd hr
    have e0 : x.drop k = [] := List.drop_eq_nil_of_le (by lia)
    have e1 : (rowE x y (j + 1)).drop k = [] := List.drop_eq_nil_of_le (by rw [rowE_length]; lia)
    rw [e0, e1]
    rfl
  | succ n ih =>
    intro k d r hn hk hd hr
    have hlt : k < x.length := by lia
    have hx : x[k]? = some x[k] := List.getElem?_eq_getElem hlt
    have hk1 : x.length - (k + 1) = n := by lia
    rw [List.drop_eq_getElem_cons hlt, rowE_drop x y j k hlt, rowE_drop x y (j + 1) k hlt, inner_cons]
    have e : min (min r (2 * (Ed x y (k + 1) j : Int)) + 2) (d + if bc = x[k] then 0 else 2) = 2 * (Ed x y (k + 1) (j + 1) : Int) := by
      rw [Ed_step, hx, hb, hd]
      rw [cost_eq]
      have hc : (if bc = x[k] then (0 : Int) else 2) = 2 * ((if x[k] = bc then 0 else 1 : Nat) : Int) := by
        by_cases q : bc = x[k]
        · rw [if_pos q, if_pos q.symm]; rfl
        · rw [if_neg q, if_neg (Ne.symm q)]; rfl
      rcases hr with hr | ⟨rfl, hr⟩
      · exact min3i hr rfl rfl hc
      · rw [hr]
        have := Ed_one x y j x[0] bc
        have h1 := min3i (r := 2 * (j : Int)) rfl (rfl : 2 * (Ed x y (0 + 1) j : Int) = 2 * (Ed x y (0 + 1) j : Int)) (rfl : 2 * (j : Int) = 2 * (j : Int)) hc
        rw [this, Ed_zero x y j, h1]
    rw [e, ih (k + 1) _ _ hk1 hlt rfl (.inl rfl)]
theorem low_lt (m : Int) (hm : m < 9223372036854775807) : ∀ (row : List Int), (m < low row ↔ ∀ r ∈ row, m < r) := by
  have : ∀ (row : List Int) (a : Int), m < row.foldl (fun acc r => if r < acc then r else acc) a ↔ (m < a ∧ ∀ r ∈ row, m < r) := by
    intro row
    induction row with
    | nil => intro a; simp
    | cons b row ih =>
      intro a
      rw [List.foldl_cons, ih]
      simp only [List.mem_cons, forall_eq_or_imp]
      split <;> constructor <;> intro h <;> (refine ⟨?_, ?_⟩ <;> first | lia | (refine ⟨by lia, h.2⟩) | (refine ⟨by lia, h.2.2⟩) | exact h.2 | exact h.2.2)
  intro row
  unfold low
  rw [this]
  exact ⟨fun h => h.2, fun h => ⟨hm, h⟩⟩
theorem Ed_one_le (x y : List Nat) (j : Nat) : Ed x y 1 (j + 1) ≤ j + 1 := by
  rw [Ed_step, Ed_zero, Ed_zero]
  split <;> lia
/-- from every later cell a road leads back through every row -/
theorem Ed_back (x y : List Nat) (n j : Nat) (hn : 1 ≤ n) : ∀ (d i : Nat), i ≤ n → ∃ i', 1 ≤ i' ∧ i' ≤ n ∧ Ed x y i' (j + 1) ≤ Ed x y i (j + 1 + d) := by
  intro d
  induction d with
  | zero =>
    intro i hi
    cases i with
    | zero => exact ⟨1, Nat.le_refl _, hn, by rw [Nat.add_zero, Ed_zero]; exact Ed_one_le x y j⟩
    | succ i => exact ⟨i + 1, by lia, hi, Nat.le_refl _⟩
  | succ d ih =>
    intro i
    induction i with
    | zero =>
      intro _
      obtain ⟨i', h1, h2, h3⟩ := ih 0 (Nat.zero_le _)
      exact ⟨i', h1, h2, by rw [Ed_zero] at h3 ⊢; lia⟩
    | succ i ihi =>
      intro hi
      have e : j + 1 + (d + 1) = (j + 1 + d) + 1 := by lia
      rw [e]
      rw [e] at ihi
      obtain ⟨l1, l2, l3, l4⟩ := min3 (Ed_step x y i (j + 1 + d))
      clear l1 l2 l3
      obtain ⟨a, a1, a2, a3⟩ := ihi (by lia)
      obtain ⟨b, b1, b2, b3⟩ := ih (i + 1) hi
      obtain ⟨c, c1, c2, c3⟩ := ih i (by lia)
      clear ih ihi
      rcases l4 with l4 | l4 | l4
      · exact ⟨a, a1, a2, by rw [l4]; exact Nat.le_succ_of_le a3⟩
      · exact ⟨b, b1, b2, by rw [l4]; exact Nat.le_succ_of_le b3⟩
      · exact ⟨c, c1, c2, by rw [l4]; exact Nat.le_add_right_of_le c3⟩
theorem last_row (x y : List Nat) (j : Nat) (d : Int) (hx : 1 ≤ x.length) : lastOf d (rowE x y j) = 2 * (Ed x y x.length j : Int) := by
  unfold lastOf
  have hne : rowE x y j ≠ [] := fun e => by have := congrArg List.length e; rw [rowE_length, List.length_nil] at this; lia
  have hl : x.length - 1 < (rowE x y j).length := by rw [rowE_length]; lia
  have h2 : (rowE x y j)[x.length - 1]? = some (2 * (Ed x y (x.length - 1 + 1) j : Int)) := by
    rw [List.getElem?_eq_getElem hl, rowE_get x y j (x.length - 1) (by lia)]
  rw [List.getLastD_eq_getLast?, List.getLast?_eq_getElem?, rowE_length, h2]
  have : x.length - 1 + 1 = x.length := by lia
  simp [this]
theorem outer_row (x y : List Nat) (m : Int) (hm : m < 9223372036854775807) (hx : 1 ≤ x.length) : ∀ (n j : Nat) (res : Int), y.length - j = n → j < y.length →
    (outer x m (2 * (j : Int)) (rowE x y j) res (y.drop j) = 2 * (Ed x y x.length y.length : Int) ∨ (outer x m (2 * (j : Int)) (rowE x y j) res (y.drop j) = m + 1 ∧ m < 2 * (Ed x y x.length y.length : Int))) := by
  intro n
  induction n with
  | zero => intro j res hn hj; lia
  | succ n ih =>
    intro j res hn hj
    have hy : y[j]? = some y[j] := List.getElem?_eq_getElem hj
    have hin := inner_row x y j y[j] hy x.length 0 (2 * (j : Int)) (2 * (j : Int)) (by lia) (Nat.zero_le _) (by rw [Ed_zero]) (.inr ⟨rfl, rfl⟩)
    rw [List.drop_zero, List.drop_zero, List.drop_zero] at hin
    rw [List.drop_eq_getElem_cons hj, outer_cons, hin]
    by_cases hlow : m < low (rowE x y (j + 1))
    · rw [if_pos hlow]
      refine .inr ⟨rfl, ?_⟩
      rw [low_lt m hm] at hlow
      obtain ⟨i', h1, h2, h3⟩ := Ed_back x y x.length j hx (y.length - (j + 1)) x.length (Nat.le_refl _)
      have e : j + 1 + (y.length - (j + 1)) = y.length := by lia
      rw [e] at h3
      have hmem : 2 * (Ed x y i' (j + 1) : Int) ∈ rowE x y (j + 1) := by
        have h4 : i' - 1 < x.length := by lia
        have := rowE_get x y (j + 1) (i' - 1) h4
        have e2 : i' - 1 + 1 = i' := by lia
        rw [e2] at this
        rw [← this]
        exact List.getElem_mem _
      have := hlow _ hmem
      lia
    · rw [if_neg hlow, last_row x y (j + 1) _ hx]
      have e : 2 * (j : Int) + 2 = 2 * ((j + 1 : Nat) : Int) := by push_cast; lia
      rw [e]
      by_cases hlast : j + 1 = y.length
      · rw [hlast, List.drop_length]
        exact .inl rfl
      · exact ih (j + 1) _ (by lia) (by lia)
theorem dp_is (x y : List Nat) (m : Int) (hm : m < 9223372036854775807) (hx : 1 ≤ x.length) (hy : 1 ≤ y.length) :
    dp x y m = 2 * (Ed x y x.length y.length : Int) ∨ (dp x y m = m + 1 ∧ m < 2 * (Ed x y x.length y.length : Int)) := by
  unfold dp
  have := outer_row x y m hm hx y.length 0 0 (by lia) (by lia)
  rw [List.drop_zero, ← row0_eq] at this
  exact this
theorem Ed_diag (x y : List Nat) : ∀ (i j : Nat), j ≤ Ed x y i j + i ∧ i ≤ Ed x y i j + j := by
  intro i
  induction i with
  | zero => intro j; rw [Ed_zero]; lia
  | succ i ih =>
    intro j
    induction j with
    | zero => rw [Ed_left]; lia
    | succ j ihj =>
      have h1 := ih (j + 1)
      have h2 := ih j
      have h0 : (if x[i]? = y[j]? then (0 : Nat) else 1) ≤ 1 := cost_le
      obtain ⟨l1, l2, l3, l4⟩ := min3 (Ed_step x y i j)
      generalize (if x[i]? = y[j]? then (0 : Nat) else 1) = c at *
      generalize Ed x y (i + 1) (j + 1) = e at *
      clear l1 l2 l3
      rcases l4 with rfl | rfl | rfl <;> exact ⟨by lia, by lia⟩
theorem snoc_sub {l l' : List Nat} {a b : Nat} : (l ++ [a]).Sublist (l' ++ [b]) ↔ (l ++ [a]).Sublist l' ∨ (a = b ∧ l.Sublist l') := by
  have h1 : (l ++ [a]).Sublist (l' ++ [b]) ↔ (a :: l.reverse).Sublist (b :: l'.reverse) := by
    rw [← List.reverse_sublist]; simp
  have h2 : (l ++ [a]).Sublist l' ↔ (a :: l.reverse).Sublist l'.reverse := by
    rw [← List.reverse_sublist]; simp
  have h3 : l.Sublist l' ↔ l.reverse.Sublist l'.reverse := List.reverse_sublist.symm
  rw [h1, h2, h3, List.sublist_cons_iff]
  constructor
  · rintro (h | ⟨r, e, h⟩)
    · exact .inl h
    · obtain ⟨rfl, rfl⟩ := List.cons.inj e
      exact .inr ⟨rfl, h⟩
  · rintro (h | ⟨rfl, h⟩)
    · exact .inl h
    · exact .inr ⟨_, rfl, h⟩
theorem Ed_sub (x y : List Nat) : ∀ (i j : Nat), i ≤ x.length → j ≤ y.length → (Ed x y i j + i = j ↔ (x.take i).Sublist (y.take j)) := by
  intro i
  induction i with
  | zero => intro j _ _; rw [Ed_zero]; simp
  | succ i ih =>
    intro j
    induction j with
    | zero =>
      intro hi _
      rw [Ed_left]
      constructor
      · intro h; lia
      · intro h
        have := h.length_le
        rw [List.length_take, List.length_take] at this
        lia
    | succ j ihj =>
      intro hi hj
      have h1 := Ed_diag x y i (j + 1)
      have h2 := Ed_diag x y (i + 1) j
      have h3 := Ed_diag x y i j
      have h4 := Ed_diag x y (i + 1) (j + 1)
      have hx : x[i]? = some x[i] := List.getElem?_eq_getElem hi
      have hy : y[j]? = some y[j] := List.getElem?_eq_getElem hj
      have ih1 := ih j (Nat.le_of_lt hi) (Nat.le_of_lt hj)
      have ih2 := ihj hi (Nat.le_of_lt hj)
      rw [List.take_add_one, List.take_add_one (i := j), hx, hy]
      simp only [Option.toList_some]
      rw [snoc_sub]
      have ex : x.take i ++ [x[i]] = x.take (i + 1) := by rw [List.take_add_one, hx]; rfl
      rw [ex, ← ih1, ← ih2]
      obtain ⟨l1, l2, l3, l4⟩ := min3 (Ed_step x y i j)
      rw [hx, hy, cost_eq] at l3 l4
      clear ih1 ih2 ihj ih hx hy l1 ex
      generalize Ed x y (i + 1) (j + 1) = e at *
      generalize Ed x y i (j + 1) = a at *
      generalize Ed x y (i + 1) j = b at *
      generalize Ed x y i j = c at *
      have g1 : j + 1 ≤ a + i := h1.1
      have g2 : j ≤ c + i := h3.1
      have g3 : j + 1 ≤ e + (i + 1) := h4.1
      clear h1 h2 h3 h4
      by_cases q : x[i] = y[j]
      · rw [if_pos q] at l3 l4
        constructor
        · intro h
          clear g3
          rcases l4 with l4 | l4 | l4
          · clear g2 l2 l3; lia
          · clear g1 g2 l2 l3; left; lia
          · clear g1 g2 l2 l3; exact .inr ⟨q, by lia⟩
        · clear l4 g1 g2
          rintro (h | ⟨_, h⟩)
          · clear l3; lia
          · clear l2; lia
      · rw [if_neg q] at l3 l4
        constructor
        · intro h
          clear g3 l2 l3
          rcases l4 with l4 | l4 | l4
          · clear g2; lia
          · clear g1 g2; left; lia
          · clear g1; lia
        · rintro (h | ⟨h, _⟩)
          · clear l4 l3 g1 g2; lia
          · exact absurd h q
theorem rep_a {A B C e i j t d : Nat} (ht : t ≤ j) (a : i < t) (h1 : A + i = j + 1) (h2 : B + (i + 1) = j) (h3 : C + i = j) (hd : d ≤ 1)
    (l2 : e ≤ B + 1) (l4 : e = A + 1 ∨ e = B + 1 ∨ e = C + (1 - d)) : e + (i + 1) = j + 1 := by
  rcases l4 with l4 | l4 | l4
  · clear h3 ht; lia
  · clear h1 h3 ht; lia
  · clear h1 ht; lia
theorem rep_b {A B C e i j t d : Nat} (a : t ≤ i) (b : i < j) (f : i < t + d) (hd : d ≤ 1) (h1 : A + i = j + 1) (h2 : B + t = j) (h3 : C + t = j)
    (l3 : e ≤ C + (1 - d)) (l4 : e = A + 1 ∨ e = B + 1 ∨ e = C + (1 - d)) : e + (t + d) = j + 1 := by
  obtain rfl : d = 1 := by clear h1 h2 h3 l3 l4; lia
  obtain rfl : i = t := by clear h1 h2 h3 l3 l4; lia
  clear f hd a
  rcases l4 with l4 | l4 | l4
  · clear h2; lia
  · clear h1; lia
  · clear h1 h2; lia
theorem rep_c {A B C e i j t d : Nat} (b : i < j) (f : t + d ≤ i) (hd : d ≤ 1) (h1 : A + (t + d) = j + 1) (h2 : B + t = j) (h3 : C + t = j)
    (l1 : e ≤ A + 1) (l3 : e ≤ C + (1 - d)) (l4 : e = A + 1 ∨ e = B + 1 ∨ e = C + (1 - d)) : e + (t + d) = j + 1 := by
  rcases l4 with l4 | l4 | l4
  · clear h2 l1; lia
  · clear h1 l1; lia
  · clear h1 h2 l1 l3; lia
theorem rep_d {A B C e i j t d : Nat} (ht : t ≤ j) (a : t ≤ i) (b : j ≤ i) (hd : d ≤ 1) (h1 : A + min i (t + d) = max i (j + 1)) (h2 : B + t = i + 1) (h3 : C + t = i)
    (l2 : e ≤ B + 1) (l3 : e ≤ C + (1 - d)) (l4 : e = A + 1 ∨ e = B + 1 ∨ e = C + (1 - d)) : e + (t + d) = i + 1 := by
  rcases Nat.lt_or_ge i (t + d) with f | f
  · obtain rfl : d = 1 := by clear h1 h2 h3 l3 l4; lia
    obtain rfl : i = t := by clear h1 h2 h3 l3 l4; lia
    obtain rfl : i = j := Nat.le_antisymm ht b
    rw [Nat.min_eq_left (Nat.le_succ i), Nat.max_eq_right (Nat.le_succ i)] at h1
    clear f hd a ht b
    rcases l4 with l4 | l4 | l4
    · clear h2; lia
    · clear h1; lia
    · clear h1 h2; lia
  · rw [Nat.min_eq_right f] at h1
    rcases Nat.lt_or_ge j i with g | g
    · rw [Nat.max_eq_left g] at h1
      clear ht a b
      rcases l4 with l4 | l4 | l4
      · clear h2; lia
      · clear h1; lia
      · clear h1 h2; lia
    · obtain rfl : i = j := Nat.le_antisymm g b
      rw [Nat.max_eq_right (Nat.le_succ i)] at h1
      clear ht a b
      rcases l4 with l4 | l4 | l4
      · clear h2; lia
      · clear h1; lia
      · clear h1 h2; lia
theorem rep_step {A B C e i j t d : Nat} (hd : d ≤ 1) (ht : t ≤ j) (h1 : A + min i (t + d) = max i (j + 1)) (h2 : B + min (i + 1) t = max (i + 1) j) (h3 : C + min i t = max i j)
    (l1 : e ≤ A + 1) (l2 : e ≤ B + 1) (l3 : e ≤ C + (1 - d)) (l4 : e = A + 1 ∨ e = B + 1 ∨ e = C + (1 - d)) : e + min (i + 1) (t + d) = max (i + 1) (j + 1) := by
  rcases Nat.lt_or_ge i t with a | a
  · have b : i < j := Nat.lt_of_lt_of_le a ht
    rw [Nat.min_eq_left (Nat.le_trans (Nat.le_of_lt a) (Nat.le_add_right t d)), Nat.max_eq_right (Nat.le_succ_of_le (Nat.le_of_lt b))] at h1
    rw [Nat.min_eq_left a, Nat.max_eq_right b] at h2
    rw [Nat.min_eq_left (Nat.le_of_lt a), Nat.max_eq_right (Nat.le_of_lt b)] at h3
    rw [Nat.min_eq_left (Nat.le_trans a (Nat.le_add_right t d)), Nat.max_eq_right (Nat.succ_le_succ (Nat.le_of_lt b))]
    exact rep_a ht a h1 h2 h3 hd l2 l4
  · have c : t + d ≤ i + 1 := Nat.add_le_add a hd
    rw [Nat.min_eq_right (Nat.le_succ_of_le a)] at h2
    rw [Nat.min_eq_right a] at h3
    rw [Nat.min_eq_right c]
    rcases Nat.lt_or_ge i j with b | b
    · rw [Nat.max_eq_right (Nat.le_succ_of_le (Nat.le_of_lt b))] at h1
      rw [Nat.max_eq_right b] at h2
      rw [Nat.max_eq_right (Nat.le_of_lt b)] at h3
      rw [Nat.max_eq_right (Nat.succ_le_succ (Nat.le_of_lt b))]
      rcases Nat.lt_or_ge i (t + d) with f | f
      · rw [Nat.min_eq_left (Nat.le_of_lt f)] at h1; exact rep_b a b f hd h1 h2 h3 l3 l4
      · rw [Nat.min_eq_right f] at h1; exact rep_c b f hd h1 h2 h3 l1 l3 l4
    · rw [Nat.max_eq_left (Nat.le_succ_of_le b)] at h2
      rw [Nat.max_eq_left b] at h3
      rw [Nat.max_eq_left (Nat.succ_le_succ b)]
      exact rep_d ht a b hd h1 h2 h3 l2 l3 l4
theorem Ed_rep (c k : Nat) (y : List Nat) : ∀ (i j : Nat), i ≤ k → j ≤ y.length → Ed (List.replicate k c) y i j + min i ((y.take j).count c) = max i j := by
  intro i
  induction i with
  | zero => intro j _ _; rw [Ed_zero, Nat.zero_min, Nat.zero_max]; rfl
  | succ i ih =>
    intro j
    induction j with
    | zero => intro hi _; rw [Ed_left]; simp
    | succ j ihj =>
      intro hi hj
      have h1 := ih (j + 1) (Nat.le_of_lt hi) hj
      have h2 := ihj hi (Nat.le_of_lt hj)
      have h3 := ih j (Nat.le_of_lt hi) (Nat.le_of_lt hj)
      have hy : y[j]? = some y[j] := List.getElem?_eq_getElem hj
      have hx : (List.replicate k c)[i]? = some c := by rw [List.getElem?_replicate, if_pos (show i < k from hi)]
      have hc : (y.take (j + 1)).count c = (y.take j).count c + if y[j] = c then 1 else 0 := by
        rw [List.take_add_one, hy, List.count_append]
        simp [List.count_cons]
      have hcj : (y.take j).count c ≤ j := by
        exact Nat.le_trans List.count_le_length (List.length_take_le j y)
      obtain ⟨l1, l2, l3, l4⟩ := min3 (Ed_step (List.replicate k c) y i j)
      rw [hx, hy, cost_eq] at l3 l4
      rw [hc] at h1 ⊢
      have e1 : (if c = y[j] then (0 : Nat) else 1) = 1 - (if y[j] = c then 1 else 0) := by
        by_cases q : y[j] = c
        · rw [if_pos q, if_pos q.symm]
        · rw [if_neg q, if_neg (Ne.symm q)]
      rw [e1] at l3 l4
      exact rep_step (by split <;> decide) hcj h1 h2 h3 l1 l2 l3 l4
end Mine
end
section -- P7
namespace Mine
theorem lev_nil {a : List Nat} {m r : Int} (h : LevRel a [] m r) : r = 2 * (a.length : Int) := by
  rcases h with ⟨rfl, rfl⟩ | ⟨hne, p, u, v, q, ha, hb, h⟩
  · rfl
  · have hb' := hb.symm
    simp only [List.append_eq_nil_iff] at hb'
    obtain ⟨⟨rfl, rfl⟩, rfl⟩ := hb'
    rcases h with ⟨_, rfl⟩ | ⟨_, hv, _⟩
    · rw [ha]; simp
    · exact absurd rfl hv
/-- what the distance of two texts is, behind the trimming -/
theorem lev_mid {x y : List Nat} {m r : Int} (hm : m < 9223372036854775807) (hx : x ≠ []) (hy : y ≠ []) (h : (m < ((y.length : Int) - x.length) * 2 ∧ r = m + 1) ∨ (¬ m < ((y.length : Int) - x.length) * 2 ∧ r = dp x y m)) :
    r = 2 * (Ed x y x.length y.length : Int) ∨ (r = m + 1 ∧ m < 2 * (Ed x y x.length y.length : Int)) := by
  have hx1 : 1 ≤ x.length := List.length_pos_iff.mpr hx
  have hy1 : 1 ≤ y.length := List.length_pos_iff.mpr hy
  rcases h with ⟨h1, rfl⟩ | ⟨_, rfl⟩
  · have := Ed_diag x y x.length y.length
    exact .inr ⟨rfl, by lia⟩
  · exact dp_is x y m hm hx1 hy1
theorem lev_rep {h : List Nat} {c n : Nat} {r : Int} (hn : h.length = n) (hs : n ≤ 1000) (hl : LevRel (List.replicate n c) h (2 * (n : Int)) r) : r = 2 * ((n : Int) - (h.count c : Int)) := by
  rcases hl with ⟨e, rfl⟩ | ⟨hne, p, u, v, q, ha, hb, hl⟩
  · have : h.count c = n := by rw [← e, List.count_replicate_self]
    rw [this]; lia
  · have ha' := ha.symm
    rw [List.append_eq_replicate_iff] at ha'
    obtain ⟨hl1, hpu, hq⟩ := ha'
    have hpu' := hpu
    rw [List.append_eq_replicate_iff] at hpu'
    obtain ⟨hl2, hp, hu⟩ := hpu'
    have hcp : p.count c = p.length := by rw [hp]; simp
    have hcq : q.count c = q.length := by rw [hq]; simp
    have hcu : u.count c = u.length := by rw [hu]; simp
    have hla : p.length + u.length + q.length = n := by
      have := congrArg List.length ha
      simp only [List.length_replicate, List.length_append] at this; lia
    have hlb : p.length + v.length + q.length = n := by
      have := congrArg List.length hb
      simp only [List.length_append] at this; lia
    have hcb : h.count c = p.length + v.count c + q.length := by rw [hb, List.count_append, List.count_append, hcp, hcq]
    have huv : u.length = v.length := by lia
    rcases hl with ⟨hz, rfl⟩ | ⟨hu0, hv0, x, y, hxy, hd⟩
    · have h0 : u.length = 0 ∧ v.length = 0 := by
        rcases hz with e | e
        · rw [e, List.length_nil] at huv; exact ⟨by rw [e]; rfl, huv.symm⟩
        · rw [e, List.length_nil] at huv; exact ⟨huv, by rw [e]; rfl⟩
      have hv0 : v = [] := List.length_eq_zero_iff.mp h0.2
      have hvc : v.count c = 0 := by rw [hv0]; rfl
      lia
    · rcases hxy with ⟨hlt, _, _⟩ | ⟨_, rfl, rfl⟩
      · lia
      · have hx := lev_mid (by lia) hu0 hv0 hd
        have hu' : x = List.replicate x.length c := hu
        have he := Ed_rep c x.length y x.length y.length (Nat.le_refl _) (Nat.le_refl _)
        rw [← hu', List.take_length] at he
        have hcl : y.count c ≤ y.length := List.count_le_length
        rcases hx with rfl | ⟨_, h2⟩
        · lia
        · lia
theorem sub_mid {p u v q : List Nat} : (p ++ v ++ q).Sublist (p ++ u ++ q) ↔ v.Sublist u := by
  rw [List.append_assoc, List.append_assoc, List.append_sublist_append_left, List.append_sublist_append_right]
theorem lev_sub {h w : List Nat} {r : Int} (hs : h.length ≤ 1000) (hw : w.length ≤ h.length) (hl : LevRel h w (2 * ((h.length : Int) - (w.length : Int))) r) : r = 2 * ((h.length : Int) - (w.length : Int)) ↔ w.Sublist h := by
  rcases hl with ⟨rfl, rfl⟩ | ⟨hne, p, u, v, q, ha, hb, hl⟩
  · exact ⟨fun _ => List.Sublist.refl _, fun _ => by lia⟩
  · have hla : h.length = p.length + u.length + q.length := by rw [ha]; simp [Nat.add_assoc]
    have hlb : w.length = p.length + v.length + q.length := by rw [hb]; simp [Nat.add_assoc]
    rw [ha, hb, sub_mid, ← ha, ← hb]
    have em : (2 * ((h.length : Int) - (w.length : Int))) = 2 * ((u.length : Int) - v.length) := by rw [hla, hlb]; push_cast; lia
    rw [em] at hl ⊢
    rcases hl with ⟨hz, rfl⟩ | ⟨hu0, hv0, x, y, hxy, hd⟩
    · have hv : v = [] := by
        rcases hz with rfl | h
        · exact List.length_eq_zero_iff.mp (by simp at hla; lia)
        · exact h
      subst hv
      simp
    · rcases hxy with ⟨hlt, rfl, rfl⟩ | ⟨hge, rfl, rfl⟩
      · have hx := lev_mid (by lia) hv0 hu0 hd
        have he := Ed_sub x y x.length y.length (Nat.le_refl _) (Nat.le_refl _)
        rw [List.take_length, List.take_length] at he
        have hdg := Ed_diag x y x.length y.length
        rw [← he]
        rcases hx with rfl | ⟨rfl, h2⟩
        · constructor <;> intro _ <;> lia
        · constructor <;> intro _ <;> lia
      · have huv : x.length = y.length := by lia
        have hx := lev_mid (by lia) hu0 hv0 hd
        have he := Ed_sub x y x.length y.length (Nat.le_refl _) (Nat.le_refl _)
        rw [List.take_length, List.take_length] at he
        have hdg := Ed_diag x y x.length y.length
        have hse : y.Sublist x ↔ x.Sublist y := ⟨fun h => by rw [h.eq_of_length huv.symm]; exact List.Sublist.refl _, fun h => by rw [h.eq_of_length huv]; exact List.Sublist.refl _⟩
        rw [hse, ← he]
        rcases hx with rfl | ⟨rfl, h2⟩
        · constructor <;> intro _ <;> lia
        · constructor <;> intro _ <;> lia
/-- the signs of the first kinds -/
noncomputable def only (ks h : List Nat) : List Nat := h.filter fun x => ks.contains x
theorem only_nil (h : List Nat) : only [] h = [] := by simp [only]
theorem only_all {ks h : List Nat} (e : ∀ x ∈ h, x ∈ ks) : only ks h = h := by
  unfold only
  rw [List.filter_eq_self]
  intro x hx
  simpa using e x hx
theorem only_snoc {ks h : List Nat} {c : Nat} (hc : c ∉ ks) : (only (ks ++ [c]) h).filter (fun x => x != c) = only ks h := by
  unfold only
  rw [List.filter_filter]
  apply List.filter_congr
  intro x _
  by_cases e : x = c
  · subst e; simp [hc]
  · simp [e]
theorem only_count {ks h : List Nat} {c : Nat} : (only (ks ++ [c]) h).count c = h.count c := by
  unfold only
  rw [List.count_filter (by simp)]
theorem only_sub (ks h : List Nat) : (only ks h).Sublist h := List.filter_sublist
theorem sub_only {ks h w : List Nat} (hw : ∀ x ∈ w, x ∈ ks) : w.Sublist h ↔ w.Sublist (only ks h) := by
  constructor
  · intro s
    have := s.filter (fun x => ks.contains x)
    rw [show w.filter (fun x => ks.contains x) = w from only_all hw] at this
    exact this
  · exact fun s => s.trans (only_sub ks h)
/-- one question of the teller -/
theorem found_step {c : Nat} {g : List Nat} (hc : 0 < g.count c) :
    ((c :: g.filter fun x => x != c).Sublist g ∧ ∃ g', g = c :: g') ∨ (¬ (c :: g.filter fun x => x != c).Sublist g ∧ ∃ d g', d ≠ c ∧ g = d :: g') := by
  cases g with
  | nil => simp at hc
  | cons d g =>
    by_cases e : d = c
    · subst e
      refine .inl ⟨?_, g, rfl⟩
      rw [List.filter_cons_of_neg (by simp)]
      exact (List.cons_sublist_cons).mpr List.filter_sublist
    · refine .inr ⟨fun s => ?_, d, g, e, rfl⟩
      rw [List.filter_cons_of_pos (by simp [e]), List.sublist_cons_iff] at s
      rcases s with s | ⟨r, e', _⟩
      · have := s.filter (fun x => x != c)
        rw [List.filter_cons_of_neg (by simp), List.filter_cons_of_pos (by simp [e]), List.filter_filter] at this
        have hl := this.length_le
        simp at hl
        lia
      · exact e (List.cons.inj e').1.symm
theorem filter_count (c : Nat) (g : List Nat) : (g.filter fun x => x != c).length + g.count c = g.length := by
  induction g with
  | nil => rfl
  | cons d g ih =>
    by_cases e : d = c
    · subst e; rw [List.filter_cons_of_neg (by simp), List.count_cons_self, List.length_cons]; lia
    · rw [List.filter_cons_of_pos (by simp [e]), List.count_cons_of_ne e, List.length_cons, List.length_cons]; lia
end Mine
end
section -- S9
open PySem PySem.W PyProof.Rows PySem.Calls
set_option maxRecDepth 100000
set_option maxHeartbeats 4000000
namespace Mine
local macro_rules | `(tactic| walk_at "go") => `(tactic| repeat' (walk_at "mine loop"; walk_at "mine ref"; (fail_if_success (with_reducible refine Mine.at5 ?_)); (fail_if_success (with_reducible refine Mine.at6 ?_)); (fail_if_success (with_reducible refine Mine.at7 ?_)); walk_at "mine one idle"))
theorem use_lev {w : World} {mean mg mb} {A : Around} {s : Shared} {h₀ : Heap} {L : Addr} {m : Str → Option Value} {news : List (Addr × Obj)} {Q : Value → Shared → Prop} {E : Value → Shared → Prop}
    (KX : (hq.heap_1 w.params).In h₀) (T : Top hd.view_39 (looseW hd.view_39 [Str.ofString "EXACT_TOKEN_TYPES"]) mean mg mb h₀) (F : Fr h₀ L s.heap m) (N : News h₀ L s.heap news) (hroom : A.depth + 10 < recursionLimit) (hh : A.handled = none)
    {x y : Str} {a b : List Nat} {ta tb tm : Tok} {mc : Int} (hx : x = S a) (hy : y = S b) (ha : a.length ≤ 40) (hb : b.length ≤ 40) (hmc : 0 ≤ mc ∧ mc < 1000000) (hlo : ∀ c ∈ a ++ b, c < 65)
    (h : ∀ r tk h' k, LevRel a b mc r → Fr h₀ L h' m → News h₀ L h' news → Q (.int r tk) { s with heap := h', toks := k }) :
    wpAny (model PP w) A (call (.ref 28) [.str x ta, .str y tb, .int mc tm]) Q E s := by
  subst hx hy
  refine wpAny_call (lev_spec (Gd.keeps ⟨KX, T⟩ F.keep) hroom hh ha hb hmc hlo fun r tk s' hr g => ?_)
  rw [g.eq]
  exact h r tk s'.heap s'.toks hr (Fr.grown F g.keep) (News.keepsK N g.keep)
theorem use_levV {w : World} {mean mg mb} {A : Around} {s : Shared} {h₀ : Heap} {L : Addr} {m : Str → Option Value} {news : List (Addr × Obj)} {Q : Value → Shared → Prop} {E : Value → Shared → Prop}
    (KX : (hq.heap_1 w.params).In h₀) (T : Top hd.view_39 (looseW hd.view_39 [Str.ofString "EXACT_TOKEN_TYPES"]) mean mg mb h₀) (F : Fr h₀ L s.heap m) (N : News h₀ L s.heap news) (hroom : A.depth + 10 < recursionLimit) (hh : A.handled = none)
    {x y : Str} {a b : List Nat} {ta tb tm : Tok} {mc v : Int} (hx : x = S a) (hy : y = S b) (ha : a.length ≤ 40) (hb : b.length ≤ 40) (hmc : 0 ≤ mc ∧ mc < 1000000) (hlo : ∀ c ∈ a ++ b, c < 65) (hv : ∀ r, LevRel a b mc r → r = v)
    (h : ∀ tk h' k, Fr h₀ L h' m → News h₀ L h' news → Q (.int v tk) { s with heap := h', toks := k }) :
    wpAny (model PP w) A (call (.ref 28) [.str x ta, .str y tb, .int mc tm]) Q E s :=
  use_lev KX T F N hroom hh hx hy ha hb hmc hlo fun r tk h' k hr F' N' => by rw [hv r hr]; exact h tk h' k F' N'
theorem half (x : Int) : (2 * x).fdiv 2 = x := by rw [Int.fdiv_eq_ediv_of_nonneg _ (by decide)]; lia
theorem fd_half {prog : Program} {w : World} {A : Around} {E : Value → Shared → Prop} {s : Shared} {x : Int} {t u : Tok} {Q : Value → Shared → Prop} (h : Q (.int x s.toks) { s with toks := s.toks + 1 }) :
    wpAny (model prog w) A (binaryOp .FloorDiv (.int (2 * x) t) (.int 2 u)) Q E s :=
  PyProof.Rows.floordiv_int (by decide) (by rw [half]; exact h) (.inl (PyProof.noPylong_small (by decide)))
local macro_rules | `(tactic| walk_at "binaryOp FloorDiv int int") => `(tactic| (refine fd_half ?_))
/-- the frame of the teller's outer loop -/
inductive FoP (h ks : List Nat) (j : Nat) (m : Str → Option Value) (news : List (Addr × Obj)) : Prop
  | mk (th tz tf : Tok) (f1 : Has m [(nm "hidden", .str (S h) th), (nm "size", .int (h.length : Int) tz), (nm "found", .str (S (only (ks.take j) h)) tf)]) (f2 : news = [])
/-- the frame of the teller's inner loop -/
inductive FoI (s : Shared) (h₀ : Heap) (L : Addr) (h ks : List Nat) (c : Nat) (I : Addr) (oI : Obj) (n : Nat) (s' : Shared) : Prop
  | mk (head g : List Nat) (th tz tf ts te tl : Tok) (m : Str → Option Value) (f1 : Fr h₀ L s'.heap m) (f2 : Has m [(nm "hidden", .str (S h) th), (nm "size", .int (h.length : Int) tz), (nm "found", .str (S (g.filter fun x => x != c)) tf), (nm "sign", .str (S [c]) ts), (nm "head", .str (S head) te), (nm "left", .int (g.count c : Int) tl)]) (f3 : News h₀ L s'.heap [(I, oI)]) (f4 : head ++ g = only ks h) (f5 : n = g.length) (f6 : s'.gens = s.gens) (f7 : s'.drawn = s.drawn) (f8 : s'.os = s.os)
/-- the frame behind the teller's inner loop -/
inductive FoE (s : Shared) (h₀ : Heap) (L : Addr) (h ks : List Nat) (I : Addr) (oI : Obj) (s' : Shared) : Prop
  | mk (head f : List Nat) (th tz tf te : Tok) (m : Str → Option Value) (f1 : Fr h₀ L s'.heap m) (f2 : Has m [(nm "hidden", .str (S h) th), (nm "size", .int (h.length : Int) tz), (nm "found", .str (S f) tf), (nm "head", .str (S head) te)]) (f3 : News h₀ L s'.heap [(I, oI)]) (f4 : head ++ f = only ks h) (f5 : s'.gens = s.gens) (f6 : s'.drawn = s.drawn) (f7 : s'.os = s.os)
theorem nodup_take {ks : List Nat} {i : Nat} (hnd : ks.Nodup) (hi : i < ks.length) : ks[i] ∉ ks.take i := by
  intro hm
  obtain ⟨j, hj, e⟩ := List.getElem_of_mem hm
  rw [List.length_take] at hj
  rw [List.getElem_take] at e
  have := (List.getElem_inj hnd).mp e
  lia
theorem found_spec {w : World} {mean mg mb} {A : Around} {s : Shared} (G : Gd w mean mg mb s.heap) (hroom : A.depth + 20 < recursionLimit) (hh : A.handled = none)
   {l : Addr} {vs : List Value} {n : Nat} {h ks : List Nat} {t : Tok} {R : Result → Shared → Prop} (hl : s.heap.get? l = some (listOf vs.toArray n)) (hI : StrsAre vs ((ks.map fun c => [c]).map S)) (hz : ks.length ≤ 100)
   (hnd : ks.Nodup) (hhk : ∀ x ∈ h, x ∈ ks) (hk65 : ∀ x ∈ ks, x < 65) (hhz : h.length ≤ 20)
   (hR : ∀ tk s', Grown s s' → R (.ok (.ret (.str (S h) tk))) s') :
   codeAny (model PP w) A (.call (.ref 106) ⟨[.str (S h) t, .ref l], []⟩) R s := by
  obtain ⟨hd', dep, frs, gds, uns⟩ := A
  cases hh
  refine spec_def G rfl rfl (by dsimp only at hroom ⊢; lia) (binds := [(nm "hidden", .str (S h) t), (nm "signs", .ref l)]) (BindsTo.of_eq rfl) (locs rfl) ?_
  intro L h₁ F N
  obtain ⟨KX, T⟩ := G
  dsimp only at hroom
  walk_at "go"
  rename Fr _ _ _ _ => F1
  rename News _ _ _ _ => N1
  refine use_levV KX T F1 N1 (by simp only [depth_deeper]; lia) rfl rfl (b := []) rfl (by lia) (by simp) (by lia) (by rw [List.append_nil]; exact fun c hc => hk65 c (hhk c hc)) (fun _ hr => lev_nil hr) fun tk h2 k2 F2 N2 => ?_
  clear F1 N1
  walk_at "go"
  refine wpAny_For ?_
  walk_at "go"
  rename Fr _ _ _ _ => F1
  rename News _ _ _ _ => N1
  have F2' := Fr.lays' [(nm "hidden", .str (S h) t), (nm "size", .int (h.length : Int) _), (nm "found", .str (S (only [] h)) _)] F1 ⟨rfl, rfl, by rw [only_nil]; rfl, trivial⟩
  dsimp only [ov] at F2'
  have hlen := strsAre_length hI
  rw [List.length_map, List.length_map] at hlen
  refine loop_list rfl F2' N1 hl (FoP h ks) ⟨_, _, _, ⟨rfl, rfl, rfl, trivial⟩, rfl⟩ ?_ ?_
  · rintro i v m' news' I oI h3 tk3 hv ⟨th, tz, tf, hm, rfl⟩ - hlt F3 N3 Nx Qn hN hQ
    rw [← ov_eq hm] at F3
    dsimp only [ov] at F3
    have hi : i < ks.length := by
      have := (List.getElem?_eq_some_iff.mp hv).1
      lia
    obtain ⟨ts, hvs⟩ := strsAre_get hI i (S [ks[i]]) (by simp [hi])
    rw [hv] at hvs
    cases hvs
    have hc65 : ks[i] < 65 := hk65 _ (List.getElem_mem _)
    have hcn : ks[i] ∉ ks.take i := nodup_take hnd hi
    have het : ks.take (i + 1) = ks.take i ++ [ks[i]] := by rw [List.take_add_one, List.getElem?_eq_getElem hi]; rfl
    generalize hc : ks[i] = c at *
    clear F1 N1 F2'
    walk_at "go"
    refine mul_S rfl (by lia) fun t' k' => ?_
    walk_at "go"
    rename Fr _ _ _ _ => F4
    rename News _ _ _ _ => N4
    refine use_levV KX T F4 N4 (by simp only [depth_deeper]; lia) rfl (a := List.replicate h.length c) rfl rfl (by rw [List.length_replicate]; lia) (by lia) (by lia) (fun c hc => ?_) (fun _ hr => lev_rep rfl (by lia) hr) fun tk h4 k4 F5 N5 => ?_
    · rcases List.mem_append.mp hc with hc | hc
      · rw [List.mem_replicate] at hc; rw [hc.2]; exact hc65
      · exact hk65 c (hhk c hc)
    clear F4 N4
    walk_at "go"
    rename Fr _ _ _ _ => F4
    rename News _ _ _ _ => N4
    simp only [Int.sub_sub_self] at F4
    have eF : (only (ks.take (i + 1)) h).filter (fun x => x != c) = only (ks.take i) h := by rw [het]; exact only_snoc hcn
    have eC : (only (ks.take (i + 1)) h).count c = h.count c := by rw [het]; exact only_count
    have hKh : ∀ x ∈ only (ks.take (i + 1)) h, x ∈ h := fun x hx => (only_sub _ h).subset hx
    have hK1 : ∀ x ∈ only (ks.take (i + 1)) h, x ∈ ks.take (i + 1) := fun x hx => by
      have := (List.mem_filter.mp hx).2
      simpa using this
    have hcK : c ∈ ks.take (i + 1) := by rw [het]; exact List.mem_append_right _ (.head _)
    have hlK := (only_sub (ks.take (i + 1)) h).length_le
    refine while_cut (FoI s s.heap L h (ks.take (i + 1)) c I oI)
      (FoE s s.heap L h (ks.take (i + 1)) I oI) _
      ⟨[], only (ks.take (i + 1)) h, _, _, _, _, _, _, _, F4, ⟨rfl, rfl, by rw [eF]; rfl, rfl, rfl, by rw [eC]; rfl, trivial⟩, N4, rfl, rfl, rfl, rfl, rfl⟩ ?_ ?_
    · clear F4 N4
      rintro n s' ⟨head, g, th, tz, tf, ts, te, tl, m, F3, hm, N3, hg, rfl, g1, g2, g3⟩ Nx2 Dn2 Rt2 hN2 hD2 hR2
      have F4 := Fr.lays _ hm F3
      dsimp only [ov] at F4
      clear F3
      rcases Nat.eq_zero_or_pos (g.count c) with h0 | h0
      · rw [h0] at F4
        walk_at "go"
        have eg : (g.filter fun x => x != c) = g := by
          rw [List.filter_eq_self]
          intro x hx
          simp only [bne_iff_ne]
          intro e
          rw [e] at hx
          exact absurd (List.count_pos_iff.mpr hx) (by lia)
        rw [eg] at F4
        exact hD2 _ ⟨head, g, _, _, _, _, _, F4, ⟨rfl, rfl, rfl, rfl, trivial⟩, N3, hg, g1, g2, g3⟩
      · have hgl : head.length + g.length ≤ h.length := by
          have := congrArg List.length hg
          rw [List.length_append] at this
          lia
        have hfc := filter_count c g
        have hst := found_step h0
        have hsub : (head ++ (c :: g.filter fun x => x != c)).Sublist h ↔ (c :: g.filter fun x => x != c).Sublist g := by
          rw [sub_only (ks := ks.take (i + 1)) (w := head ++ (c :: g.filter fun x => x != c)), ← hg, List.append_sublist_append_left]
          intro x hx
          rcases List.mem_append.mp hx with hx | hx
          · exact hK1 x (by rw [← hg]; exact List.mem_append_left _ hx)
          · rcases List.mem_cons.mp hx with rfl | hx
            · exact hcK
            · exact hK1 x (by rw [← hg]; exact List.mem_append_right _ (List.mem_filter.mp hx).1)
        walk_at "go"
        refine add_S rfl rfl (by simp only [List.length_cons, List.length_nil]; lia) fun t1 k1 => ?_
        walk_at "go"
        refine add_S rfl rfl (by rw [List.length_append]; simp only [List.length_cons, List.length_nil]; lia) fun t2 k2 => ?_
        rw [List.append_assoc, List.singleton_append]
        have hwl : (head ++ c :: g.filter fun x => x != c).length ≤ h.length := by
          rw [List.length_append, List.length_cons]; lia
        have hwc : ∀ x ∈ (head ++ c :: g.filter fun x => x != c), x < 65 := by
          intro x hx
          rcases List.mem_append.mp hx with hx | hx
          · exact hk65 x (hhk x (hKh x (by rw [← hg]; exact List.mem_append_left _ hx)))
          · rcases List.mem_cons.mp hx with rfl | hx
            · exact hc65
            · exact hk65 x (hhk x (hKh x (by rw [← hg]; exact List.mem_append_right _ (List.mem_filter.mp hx).1)))
        generalize hW : (head ++ c :: g.filter fun x => x != c) = word at *
        walk_at "go"
        rename Fr _ _ _ _ => F5
        rename News _ _ _ _ => N5
        refine use_lev KX T F5 N5 (by simp only [depth_deeper]; lia) rfl rfl rfl (by lia) (by lia) (by lia) (fun x hx => ?_) fun r tk7 h7 k7 hr F6 N6 => ?_
        · rcases List.mem_append.mp hx with hx | hx
          · exact hk65 x (hhk x hx)
          · exact hwc x hx
        have hls := lev_sub (by lia) hwl hr
        rw [hsub] at hls
        clear F5 N5 hr
        rcases hst with ⟨hy, g', rfl⟩ | ⟨hn, d, g', hdc, rfl⟩
        · have er := hls.mpr hy
          subst er
          have ef : ((c :: g').filter fun x => x != c) = g'.filter fun x => x != c := List.filter_cons_of_neg (by simp)
          have ec : (((c :: g').count c : Nat) : Int) - 1 = ((g'.count c : Nat) : Int) := by rw [List.count_cons_self]; push_cast; lia
          walk_at "go"
          · refine add_S rfl rfl (by simp only [List.length_cons, List.length_nil] at *; lia) fun t5 k5 => ?_
            walk_at "go"
            rename Fr _ _ _ _ => F7
            rename News _ _ _ _ => N7
            exact hN2 _ ⟨g'.length, Nat.lt_succ_self _, head ++ [c], g', _, _, _, _, _, _, _, F7, ⟨rfl, rfl, by rw [← ef]; rfl, rfl, rfl, by rw [← ec]; rfl, trivial⟩, N7, by rw [List.append_assoc, List.singleton_append]; exact hg, rfl, g1, g2, g3⟩
          all_goals exact absurd rfl (by assumption)
        · have er : r ≠ 2 * ((h.length : Int) - (word.length : Int)) := fun e => hn (hls.mp e)
          have ef : ((d :: g').filter fun x => x != c) = d :: g'.filter fun x => x != c := List.filter_cons_of_pos (by simp [hdc])
          have ec : (d :: g').count c = g'.count c := List.count_cons_of_ne hdc
          have hfl : (d :: g'.filter fun x => x != c).length ≤ 1000 := by rw [ef] at hfc; lia
          simp only [ef, ec] at F6
          walk_at "go"
          · refine item_0 (by lia) ?_
            walk_at "go"
            refine add_S rfl rfl (by simp only [List.length_cons, List.length_nil] at *; lia) fun t5 k5 => ?_
            walk_at "go"
            rename Fr _ _ _ _ => F7
            rename News _ _ _ _ => N7
            refine sl_1n (s := ⟨_, _, _, _, _⟩) F7 N7 (by lia) fun h8 t8 k8 F8 N8 => ?_
            clear F7 N7
            walk_at "go"
            rename Fr _ _ _ _ => F7
            rename News _ _ _ _ => N7
            exact hN2 _ ⟨g'.length, Nat.lt_succ_self _, head ++ [d], g', _, _, _, _, _, _, _, F7, ⟨rfl, rfl, rfl, rfl, rfl, rfl, trivial⟩, N7, by rw [List.append_assoc, List.singleton_append]; exact hg, rfl, g1, g2, g3⟩
    · rintro s' ⟨head, f, th, tz, tf, te, m, F3, hm, N3, hg, g1, g2, g3⟩
      have F5 := Fr.lays _ hm F3
      dsimp only [ov] at F5
      clear F3 F4 N4
      have hgl : head.length + f.length ≤ 1000 := by
        have := congrArg List.length hg
        rw [List.length_append] at this
        lia
      walk_at "go"
      refine add_S rfl rfl (by lia) fun t5 k5 => ?_
      rw [hg]
      walk_at "go"
      rename Fr _ _ _ _ => F7
      rename News _ _ _ _ => N7
      exact hN _ ⟨_, [], F7, N7, (fun _ h => nomatch h), ⟨_, _, _, ⟨rfl, rfl, rfl, trivial⟩, rfl⟩, g1, g2, g3⟩
  · rintro m' news' h3 tk3 ⟨th, tz, tf, hm, rfl⟩ - F3 N3
    rw [← ov_eq hm] at F3
    dsimp only [ov] at F3
    rw [hlen, List.take_length, only_all hhk] at F3
    clear F1 N1 F2'
    walk_at "go"
    exact hR _ _ ⟨F3.keep, rfl, rfl, rfl⟩
end Mine
end
section -- P3
namespace Mine
noncomputable def slc (l : List Nat) (i j : Nat) : List Nat := (l.drop i).take (j - i)
/-- one unit of the stripping -/
noncomputable def stStep (l : List Nat) (z : Nat × Option Nat × List (List Nat)) (y : Nat × List Nat) : Nat × Option Nat × List (List Nat) :=
  if y.2 = [34] then (match z.2.1 with
    | none => (z.1, some y.1, z.2.2)
    | some o => (y.1 + 1, none, if z.1 = o then z.2.2 else z.2.2 ++ [slc l z.1 o])) else z
noncomputable def stAll (l : List Nat) (ys : List (Nat × List Nat)) : Nat × Option Nat × List (List Nat) := ys.foldl (stStep l) (0, none, [])
noncomputable def stripF (l : List Nat) : List Nat := if 34 ∈ l then ((stAll l (unitsAt 0 l)).2.2 ++ if (stAll l (unitsAt 0 l)).1 < l.length then [l.drop (stAll l (unitsAt 0 l)).1] else []).flatten else l
theorem stAll_snoc (l : List Nat) (ys : List (Nat × List Nat)) (y : Nat × List Nat) : stAll l (ys ++ [y]) = stStep l (stAll l ys) y := by
  unfold stAll; rw [List.foldl_append]; rfl
theorem take_snoc {α : Type} {ys : List α} {j : Nat} {y : α} (h : ys[j]? = some y) : ys.take (j + 1) = ys.take j ++ [y] := by
  rw [List.take_add_one, h]; rfl
theorem unitsAt_length : ∀ (k i : Nat) (l : List Nat), l.length ≤ k → (unitsAt i l).length ≤ l.length := by
  intro k
  induction k using Nat.strongRecOn with
  | ind k ih =>
    intro i l hl
    match l with
    | [] => rw [unitsAt_nil]; exact Nat.le_refl _
    | [c] => rw [unitsAt]; exact Nat.le_refl _
    | c :: d :: r =>
      rw [unitsAt]
      simp only [List.length_cons] at hl ⊢
      split
      · have := ih (k - 1) (by lia) (i + 2) r (by lia)
        simp only [List.length_cons]; lia
      · have := ih (k - 1) (by lia) (i + 1) (d :: r) (by simp only [List.length_cons]; lia)
        simp only [List.length_cons] at this ⊢; lia
theorem slc_length (l : List Nat) (i j : Nat) : (slc l i j).length ≤ l.length := by
  unfold slc; rw [List.length_take, List.length_drop]; exact Nat.le_trans (Nat.min_le_right _ _) (Nat.sub_le _ _)
theorem stStep_size {l : List Nat} {z : Nat × Option Nat × List (List Nat)} {n : Nat} (y : Nat × List Nat) (h : z.2.2.length ≤ n ∧ ∀ r ∈ z.2.2, r.length ≤ l.length) :
    (stStep l z y).2.2.length ≤ n + 1 ∧ ∀ r ∈ (stStep l z y).2.2, r.length ≤ l.length := by
  unfold stStep
  obtain ⟨h1, h2⟩ := h
  obtain ⟨a, o, rs⟩ := z
  dsimp only at *
  split
  · cases o with
    | none => exact ⟨by dsimp only; lia, h2⟩
    | some o =>
      dsimp only
      split
      · exact ⟨by lia, h2⟩
      · refine ⟨by rw [List.length_append, List.length_singleton]; lia, fun r hr => ?_⟩
        rcases List.mem_append.mp hr with hr | hr
        · exact h2 r hr
        · rw [List.mem_singleton] at hr; subst hr; exact slc_length ..
  · exact ⟨by dsimp only; lia, h2⟩
theorem stAll_size (l : List Nat) : ∀ ys : List (Nat × List Nat), (stAll l ys).2.2.length ≤ ys.length ∧ ∀ r ∈ (stAll l ys).2.2, r.length ≤ l.length := by
  have : ∀ (ys : List (Nat × List Nat)) z n, (z.2.2.length ≤ n ∧ ∀ r ∈ z.2.2, r.length ≤ l.length) → (ys.foldl (stStep l) z).2.2.length ≤ n + ys.length ∧ ∀ r ∈ (ys.foldl (stStep l) z).2.2, r.length ≤ l.length := by
    intro ys
    induction ys with
    | nil => intro z n h; exact ⟨by simpa using h.1, h.2⟩
    | cons y ys ih =>
      intro z n h
      have := ih (stStep l z y) (n + 1) (stStep_size y h)
      rw [List.foldl_cons, List.length_cons]
      exact ⟨by lia, this.2⟩
  intro ys
  have := this ys (0, none, []) 0 ⟨Nat.le_refl _, by simp⟩
  rw [Nat.zero_add] at this
  exact this
theorem sum_le {f : List Nat → Nat} {b : Nat} : ∀ {rs : List (List Nat)}, (∀ r ∈ rs, f r ≤ b) → (rs.map f).sum ≤ rs.length * b
  | [], _ => by simp
  | r :: rs, h => by
    rw [List.map_cons, List.sum_cons, List.length_cons, Nat.add_mul]
    have h1 := h r (.head _)
    have h2 := sum_le (rs := rs) fun x hx => h x (.tail _ hx)
    lia
end Mine
namespace Mine
theorem units_small : ∀ (k i : Nat) (l : List Nat), l.length ≤ k → ∀ y ∈ unitsAt i l, y.2.length ≤ 2 := by
  intro k
  induction k using Nat.strongRecOn with
  | ind k ih =>
    intro i l hl y hy
    match l with
    | [] => rw [unitsAt_nil] at hy; cases hy
    | [c] => rw [unitsAt, List.mem_singleton] at hy; subst hy; simp
    | c :: d :: r =>
      rw [unitsAt] at hy
      simp only [List.length_cons] at hl
      split at hy
      · rcases List.mem_cons.mp hy with rfl | hy
        · simp
        · exact ih (k - 1) (by lia) (i + 2) r (by lia) y hy
      · rcases List.mem_cons.mp hy with rfl | hy
        · simp
        · exact ih (k - 1) (by lia) (i + 1) (d :: r) (by simp only [List.length_cons]; lia) y hy
theorem unit_len {l : List Nat} {j p : Nat} {u : List Nat} (h : (unitsAt 0 l)[j]? = some (p, u)) : u.length ≤ 2 :=
  units_small _ 0 l (Nat.le_refl _) (p, u) (List.mem_of_getElem? h)
end Mine
end
section -- S3
open PySem PySem.W PyProof.Rows PySem.Calls
set_option maxRecDepth 100000
set_option maxHeartbeats 4000000
namespace Mine
theorem get_none {h : Heap} {b : Addr} (e : h.objs.size ≤ b) : h.get? b = none := by
  cases q : h.get? b with
  | none => rfl
  | some o => exact absurd (Heap.lt_size q) (Nat.not_lt.mpr e)
noncomputable def optV (t : Tok) : Option Nat → Value
  | none => .none
  | some o => .int (o : Int) t
/-- the frame of the stripping loop -/
inductive StP (l : List Nat) (D : Addr) (j : Nat) (m : Str → Option Value) (news : List (Addr × Obj)) : Prop
  | mk (a : Nat) (op : Option Nat) (rs : List (List Nat)) (ta to ts : Tok) (vs : List Value) (c : Nat) (f1 : (a, op, rs) = stAll l ((unitsAt 0 l).take j)) (f2 : Has m [(nm "start", .int (a : Int) ts), (nm "open_pos", optV to op), (nm "result", .ref D), (nm "addr", .str (S l) ta)]) (f3 : news = [(D, listOf vs.toArray c)]) (f4 : StrsAre vs (rs.map S)) (f5 : rs.length ≤ 1000) (f6 : ∀ r ∈ rs, r.length ≤ 1000)
theorem is34 {u : List Nat} (h : (S u == Str.ofString "\"") = true) : u = [34] := S_inj (eq_of_beq h)
theorem not34 {u : List Nat} (h : (S u == Str.ofString "\"") = false) : u ≠ [34] := fun e => by rw [e] at h; exact absurd h (by decide)
theorem stP_end {l : List Nat} {D : Addr} {j : Nat} {m : Str → Option Value} {a : Nat} {op : Option Nat} {rs : List (List Nat)} {ta to ts : Tok} {vs : List Value} {c : Nat} {news : List (Addr × Obj)} (hl : l.length ≤ 1000) (hj : j + 1 ≤ 1000)
    (e : stAll l ((unitsAt 0 l).take (j + 1)) = (a, op, rs)) (hm : Has m [(nm "start", .int (a : Int) ts), (nm "open_pos", optV to op), (nm "result", .ref D), (nm "addr", .str (S l) ta)])
    (hn : news = [(D, listOf vs.toArray c)]) (hs : StrsAre vs (rs.map S)) : StP l D (j + 1) m news := by
  obtain ⟨h1, h2⟩ := stAll_size l ((unitsAt 0 l).take (j + 1))
  rw [e] at h1 h2
  exact ⟨a, op, rs, ta, to, ts, vs, c, e.symm, hm, hn, hs, Nat.le_trans h1 (Nat.le_trans (List.length_take_le ..) hj), fun r hr => Nat.le_trans (h2 r hr) hl⟩
theorem adrD {D : Addr} {o p : Obj} : ∀ q ∈ [(D, o)], ∃ r ∈ [(D, p)], r.1 = q.1 := by
  intro q hq
  rw [List.mem_singleton] at hq
  subst hq
  exact ⟨_, .head _, rfl⟩
theorem strip_spec {w : World} {mean mg mb} {A : Around} {s : Shared} (G : Gd w mean mg mb s.heap) (hroom : A.depth + 10 < recursionLimit) (hh : A.handled = none)
   {l : List Nat} {t : Tok} {R : Result → Shared → Prop} (hl : ∀ c ∈ l, c < 128) (hz : l.length ≤ 1000)
   (h : ∀ tk s', GrownG s s' → R (.ok (.ret (.str (S (stripF l)) tk))) s') :
   codeAny (model PP w) A (.call (.ref 42) ⟨[.str (S l) t], []⟩) R s := by
  obtain ⟨hd', dep, frs, gds, uns⟩ := A
  cases hh
  refine spec_def G rfl rfl (by dsimp only at hroom ⊢; lia) (binds := [(nm "addr", .str (S l) t)]) (BindsTo.of_eq rfl) (locs rfl) ?_
  intro L h₁ F N
  obtain ⟨KX, T⟩ := G
  walk_at "go 8"
  · rename (34 ∈ l) => h34
    have hlen := Nat.le_trans (unitsAt_length _ 0 l (Nat.le_refl _)) hz
    rename Fr _ _ _ _ => F1
    rename News _ _ _ _ => N1
    rename_i D _ h0 tk0
    refine wpAny_For ?_
    walk_at "go 8"
    rename Fr _ _ _ _ => F2
    rename News _ _ _ _ => N2
    have Fb := F2.above
    refine wpAny_call (esc_call (Gd.keeps ⟨KX, T⟩ F2.keep) (by simp only [depth_deeper]; dsimp only at hroom ⊢; lia) hl fun h' tk' gens' hk hb ho hns hG => ?_)
    have hLs := F2.ns.lt
    have hDs := Heap.lt_size (N2 _ (.head _)).1
    have GA := fun (A' : Around) (hA : A'.handled = none) => hG A' s.heap (tk0.objs.size + 1 + 1) h' tk' hA ⟨KX, T⟩ (Nat.le_trans Fb (Nat.le_of_lt hLs)) (Nat.lt_succ_self _) .refl
    refine wpAny_pyIter_gen (GA ⟨none, 0, none, none, 0⟩ rfl).gen ?_
    refine loop_gen rfl (by simp only [depth_deeper]; dsimp only at hroom ⊢; lia) (Fr.grown F2 hk) (News.keepsK N2 hk) (GA _ rfl)
      T.nolimit .refl ho (Nat.lt_succ_of_lt (Nat.lt_succ_of_lt hLs)) (Nat.ne_of_lt hLs) (Nat.ne_of_lt (Nat.lt_succ_of_lt hLs)) (get_none (Nat.le_trans Fb (Nat.le_of_lt hLs))) (get_none (Nat.le_trans Fb (Nat.le_succ_of_le (Nat.le_of_lt hLs)))) ?_
      (StP l D) ⟨0, none, [], _, default, _, [], 0, rfl, ⟨rfl, rfl, rfl, rfl, trivial⟩, rfl, .nil, by simp, by simp⟩ ?_ ?_
    · intro p hp
      rw [List.mem_singleton] at hp; subst hp
      exact ⟨Nat.lt_succ_of_lt (Nat.lt_succ_of_lt hDs), Nat.ne_of_lt hDs, Nat.ne_of_lt (Nat.lt_succ_of_lt hDs)⟩
    · rintro j p u m' news' own h₂ tk₂ gens₂ tp tu hy ⟨a, op, rs, ta, to, ts, vs, c, hz', hm, rfl, hsa, hr1, hr2⟩ - hap hB F3 N3 Nx Qn hN hQ
      rw [← ov_eq hm] at F3
      dsimp only [ov] at F3
      have hap' : ∀ q ∈ own, q.1 ≠ D := fun q hq => hap q hq _ (.head _)
      have ez : stAll l ((unitsAt 0 l).take (j + 1)) = stStep l (a, op, rs) (p, u) := by rw [take_snoc hy, stAll_snoc, hz']
      clear F2 N2 hG GA hns
      have hj : j + 1 ≤ 1000 := by
        have := (List.getElem?_eq_some_iff.mp hy).1
        lia
      cases op with
      | none =>
        dsimp only [optV] at F3
        walk_at "go 8"
        · rename ((S u == Str.ofString _) = true) => hu
          rename Fr _ _ _ _ => F4
          rename News _ _ _ _ => N4
          exact hN _ ⟨_, _, F4, N4, adrD, stP_end hz hj (ez.trans (by unfold stStep; rw [if_pos (is34 hu)])) ⟨rfl, rfl, rfl, rfl, trivial⟩ rfl hsa, rfl, rfl, rfl⟩
        · rename ((S u == Str.ofString _) = false) => hu
          rename Fr _ _ _ _ => F4
          rename News _ _ _ _ => N4
          exact hN _ ⟨_, _, F4, N4, adrD, stP_end (to := default) hz hj (ez.trans (by unfold stStep; rw [if_neg (not34 hu)])) ⟨rfl, rfl, rfl, rfl, trivial⟩ rfl hsa, rfl, rfl, rfl⟩
      | some o =>
        dsimp only [optV] at F3
        walk_at "go 8"
        · rename ((S u == Str.ofString _) = true) => hu
          rename ((a : Int) ≠ (o : Int)) => hao
          rename Fr _ _ _ _ => F4
          rename News _ _ _ _ => N4
          refine append_S F4 N4 (.head hap') hsa (by lia) fun h₅ F5 N5 hsa' => ?_
          clear F4 N4
          walk_at "go 8"
          rename Fr _ _ _ _ => F6
          rename News _ _ _ _ => N6
          have hao' : a ≠ o := fun e => hao (by rw [e])
          exact hN _ ⟨_, _, F6, N6, adrD, stP_end (a := p + 1) (op := none) (to := default) hz hj (ez.trans (by unfold stStep; rw [if_pos (is34 hu)]; dsimp only; rw [if_neg hao']; rfl)) ⟨rfl, rfl, rfl, rfl, trivial⟩ rfl hsa', rfl, rfl, rfl⟩
        · rename ((S u == Str.ofString _) = true) => hu
          rename ((a : Int) = (o : Int)) => hao
          rename Fr _ _ _ _ => F4
          rename News _ _ _ _ => N4
          have hao' : a = o := Int.ofNat.inj hao
          exact hN _ ⟨_, _, F4, N4, adrD, stP_end (a := p + 1) (op := none) (to := default) hz hj (ez.trans (by unfold stStep; rw [if_pos (is34 hu)]; dsimp only; rw [if_pos hao'])) ⟨rfl, rfl, rfl, rfl, trivial⟩ rfl hsa, rfl, rfl, rfl⟩
        · rename ((S u == Str.ofString _) = false) => hu
          rename Fr _ _ _ _ => F4
          rename News _ _ _ _ => N4
          exact hN _ ⟨_, _, F4, N4, adrD, stP_end hz hj (ez.trans (by unfold stStep; rw [if_neg (not34 hu)])) ⟨rfl, rfl, rfl, rfl, trivial⟩ rfl hsa, rfl, rfl, rfl⟩
    · rintro m' news' h₂ tk₂ gens₂ ⟨a, op, rs, ta, to, ts, vs, c, hz', hm, rfl, hsa, hr1, hr2⟩ - hB F3 N3
      rw [← ov_eq hm] at F3
      dsimp only [ov] at F3
      rw [List.take_length] at hz'
      have e : stripF l = (rs ++ if a < l.length then [l.drop a] else []).flatten := by
        unfold stripF; rw [if_pos h34, ← hz']
      rw [e] at h
      have hsum : ∀ rs' : List (List Nat), rs'.length ≤ 1001 → (∀ r ∈ rs', r.length ≤ 1000) → (rs'.map List.length).sum ≤ 16777216 := fun rs' q1 q2 => by
        have := sum_le (f := List.length) q2
        have := Nat.mul_le_mul_right 1000 q1
        lia
      clear F2 N2 hG GA hns
      walk_at "go 8"
      · rename ((a : Int) < _) => hal
        rename Fr _ _ _ _ => F4
        rename News _ _ _ _ => N4
        rw [if_pos (by lia)] at h
        have e9 : ∀ x : Value, vs.toArray.push x = (vs ++ [x]).toArray := fun x => by simp
        rw [e9] at N4
        refine join_call (ls := rs ++ [l.drop a]) rfl N4 (.head _) (by rw [List.map_append]; exact strsAre_snoc hsa) (hsum _ (by rw [List.length_append, List.length_singleton]; lia) fun r hr => ?_) fun t' k => ?_
        · rcases List.mem_append.mp hr with hr | hr
          · exact hr2 r hr
          · rw [List.mem_singleton] at hr; subst hr; rw [List.length_drop]; lia
        · walk_at "go 8"
          exact h _ _ ⟨F4.keep, fun q => hB (hb q), rfl, rfl⟩
      · rename (¬ (a : Int) < _) => hal
        rename Fr _ _ _ _ => F6
        rename News _ _ _ _ => N6
        rw [if_neg (by lia), List.append_nil] at h
        refine join_call rfl N6 (.head _) hsa (hsum _ (by lia) hr2) fun t' k => ?_
        walk_at "go 8"
        exact h _ _ ⟨F6.keep, fun q => hB (hb q), rfl, rfl⟩
  · rename (¬ 34 ∈ l) => h34
    have e : stripF l = l := by unfold stripF; rw [if_neg h34]
    rw [e] at h
    exact h _ _ (Grown.toG ⟨F.keep, rfl, rfl, rfl⟩)
end Mine
end
section -- S4
open PySem PySem.W PyProof.Rows PySem.Calls
set_option maxRecDepth 100000
set_option maxHeartbeats 4000000
namespace Mine
/-- one unit of the brackets' count -/
noncomputable def ckF : Int → List (Nat × List Nat) → Bool
  | o, [] => o == 0
  | o, (_, u) :: r => if u = [40] then ckF (o + 1) r else if u = [41] then (if o - 1 < 0 then false else ckF (o - 1) r) else ckF o r
theorem ckF_cons (o : Int) (i : Nat) (u : List Nat) (r : List (Nat × List Nat)) : ckF o ((i, u) :: r) = if u = [40] then ckF (o + 1) r else if u = [41] then (if o - 1 < 0 then false else ckF (o - 1) r) else ckF o r := rfl
theorem drop_at {α : Type} {ys : List α} {j : Nat} {y : α} (h : ys[j]? = some y) : ys.drop j = y :: ys.drop (j + 1) := by
  obtain ⟨h1, h2⟩ := List.getElem?_eq_some_iff.mp h
  rw [List.drop_eq_getElem_cons h1, h2]
theorem use_strip {w : World} {mean mg mb} {A : Around} {s : Shared} {h₀ : Heap} {L : Addr} {m : Str → Option Value} {news : List (Addr × Obj)} {Q : Value → Shared → Prop} {E : Value → Shared → Prop}
    (KX : (hq.heap_1 w.params).In h₀) (T : Top hd.view_39 (looseW hd.view_39 [Str.ofString "EXACT_TOKEN_TYPES"]) mean mg mb h₀) (F : Fr h₀ L s.heap m) (N : News h₀ L s.heap news) (hroom : A.depth + 10 < recursionLimit) (hh : A.handled = none)
    {l : List Nat} {t : Tok} (hl : ∀ c ∈ l, c < 128) (hz : l.length ≤ 1000) (h : ∀ tk h' gens' k, (AllBare s.gens → AllBare gens') → Fr h₀ L h' m → News h₀ L h' news → Q (.str (S (stripF l)) tk) { s with heap := h', gens := gens', toks := k }) :
    wpAny (model PP w) A (call (.ref 42) [.str (S l) t]) Q E s := by
  refine wpAny_call (strip_spec (Gd.keeps ⟨KX, T⟩ F.keep) hroom hh hl hz fun tk s' g => ?_)
  rw [g.eq]
  exact h tk s'.heap s'.gens s'.toks g.bare (Fr.grown F g.keep) (News.keepsK N g.keep)
/-- the frame of the brackets' loop -/
inductive CkP (ys : List (Nat × List Nat)) (j : Nat) (m : Str → Option Value) (news : List (Addr × Obj)) : Prop
  | mk (o : Int) (to : Tok) (f1 : ckF 0 ys = ckF o (ys.drop j)) (f2 : 0 ≤ o) (f3 : o ≤ j) (f4 : Has m [(nm "opens", .int o to)]) (f5 : news = [])
theorem isU {u : List Nat} {c : Nat} {x : Str} (hx : x = S [c]) (h : (S u == x) = true) : u = [c] := S_inj ((eq_of_beq h).trans hx)
theorem notU {u : List Nat} {c : Nat} {x : Str} (hx : x = S [c]) (h : (S u == x) = false) : u ≠ [c] := fun e => by rw [e, hx] at h; simp at h
theorem check_spec {w : World} {mean mg mb} {A : Around} {s : Shared} (G : Gd w mean mg mb s.heap) (hroom : A.depth + 20 < recursionLimit) (hh : A.handled = none)
   {l : List Nat} {t : Tok} {R : Result → Shared → Prop} (hl : ∀ c ∈ l, c < 128) (hz : l.length ≤ 1000) (hl' : ∀ c ∈ stripF l, c < 128) (hz' : (stripF l).length ≤ 1000)
   (h : ∀ s', GrownG s s' → R (.ok (.ret (.bool (ckF 0 (unitsAt 0 (stripF l)))))) s') :
   codeAny (model PP w) A (.call (.ref 49) ⟨[.str (S l) t], []⟩) R s := by
  obtain ⟨hd', dep, frs, gds, uns⟩ := A
  cases hh
  refine spec_def G rfl rfl (by dsimp only at hroom ⊢; lia) (binds := [(nm "addr", .str (S l) t)]) (BindsTo.of_eq rfl) (locs rfl) ?_
  intro L h₁ F N
  obtain ⟨KX, T⟩ := G
  dsimp only at hroom
  walk_at "go 8"
  rename Fr _ _ _ _ => F1
  rename News _ _ _ _ => N1
  refine use_strip KX T F1 N1 (by simp only [depth_deeper]; lia) rfl hl hz fun tk1 h1 gens1 k1 hb1 F2 N2 => ?_
  try clear F1 N1
  generalize stripF l = l' at *
  have hlen := Nat.le_trans (unitsAt_length _ 0 l' (Nat.le_refl _)) hz'
  walk_at "go 8"
  refine wpAny_For ?_
  walk_at "go 8"
  rename Fr _ _ _ _ => F3
  rename News _ _ _ _ => N3
  refine for_esc KX T F3 N3 (by simp only [depth_deeper]; lia) rfl hl' (CkP (unitsAt 0 l')) ⟨0, _, by rw [List.drop_zero], Int.le_refl _, by simp, ⟨rfl, trivial⟩, rfl⟩ ?_ ?_
  · rintro j p u m' news' own h₂ tk₂ gens₂ tp tu s₀ e1 e2 hy ⟨o, to, hck, ho0, ho1, hm, rfl⟩ - hap hB F4 N4 Nx Qn hN hQ
    rw [← ov_eq hm] at F4
    dsimp only [ov] at F4
    rw [drop_at hy, ckF] at hck
    try clear F2 N2 F3 N3
    have hj : j ≤ 1000 := by
      have := (List.getElem?_eq_some_iff.mp hy).1
      lia
    walk_at "go 8"
    · rename ((S u == Str.ofString "(") = true) => h1
      rename Fr _ _ _ _ => F5
      rename News _ _ _ _ => N5
      rw [if_pos (isU (c := 40) rfl h1)] at hck
      exact hN _ ⟨_, [], F5, N5, (fun _ h => nomatch h), ⟨o + 1, _, hck, by lia, by push_cast; lia, ⟨rfl, trivial⟩, rfl⟩, rfl, e1.symm, e2.symm⟩
    · rename ((S u == Str.ofString "(") = false) => h1
      rename ((S u == Str.ofString ")") = true) => h2
      rename (o - 1 < 0) => ho
      rename Fr _ _ _ _ => F5
      rw [if_neg (notU (c := 40) rfl h1), if_pos (isU (c := 41) rfl h2), if_pos ho] at hck
      rw [hck] at h
      exact hQ _ _ (h _ ⟨F5.keep, fun q => hB (hb1 q), rfl, rfl⟩)
    · rename ((S u == Str.ofString "(") = false) => h1
      rename ((S u == Str.ofString ")") = true) => h2
      rename (¬ o - 1 < 0) => ho
      rename Fr _ _ _ _ => F5
      rename News _ _ _ _ => N5
      rw [if_neg (notU (c := 40) rfl h1), if_pos (isU (c := 41) rfl h2), if_neg ho] at hck
      exact hN _ ⟨_, [], F5, N5, (fun _ h => nomatch h), ⟨o - 1, _, hck, by lia, by push_cast; lia, ⟨rfl, trivial⟩, rfl⟩, rfl, e1.symm, e2.symm⟩
    · rename ((S u == Str.ofString "(") = false) => h1
      rename ((S u == Str.ofString ")") = false) => h2
      rename Fr _ _ _ _ => F5
      rename News _ _ _ _ => N5
      rw [if_neg (notU (c := 40) rfl h1), if_neg (notU (c := 41) rfl h2)] at hck
      exact hN _ ⟨_, [], F5, N5, (fun _ h => nomatch h), ⟨o, _, hck, ho0, by push_cast; lia, ⟨rfl, trivial⟩, rfl⟩, rfl, e1.symm, e2.symm⟩
  · rintro m' news' h₂ tk₂ gens₂ ⟨o, to, hck, ho0, ho1, hm, rfl⟩ - hB F4 N4
    rw [← ov_eq hm] at F4
    dsimp only [ov] at F4
    rw [List.drop_length, ckF] at hck
    rw [hck] at h
    try clear F2 N2 F3 N3
    walk_at "go 8"
    exact h _ ⟨F4.keep, fun q => hB (hb1 q), rfl, rfl⟩
end Mine
end
section -- G8
open PySem PySem.W PyProof.Rows PySem.Calls
set_option maxRecDepth 100000
set_option maxHeartbeats 4000000
namespace Mine
/-- what the comprehension keeps: the units of one sign -/
noncomputable def ones (ys : List (Nat × List Nat)) : List (List Nat) := (ys.map (·.2)).filter fun u => u.length == 1
theorem ones_snoc (ys : List (Nat × List Nat)) (p : Nat) (u : List Nat) : ones (ys ++ [(p, u)]) = if u.length = 1 then ones ys ++ [u] else ones ys := by
  unfold ones
  rw [List.map_append, List.filter_append]
  by_cases h : u.length = 1
  · rw [if_pos h]; simp [h]
  · rw [if_neg h]; simp [h]
theorem take_one {α : Type} {ys : List α} {j : Nat} {y : α} (h : ys[j]? = some y) : ys.take (j + 1) = ys.take j ++ [y] := by
  rw [List.take_add_one, h]; rfl
section
variable {w : World} {mean : ExcName → Option Value} {mg mb : Str → Option Value} {A : Around} {s : Shared} {h₀ : Heap} {L : Addr} {m : Str → Option Value} {news : List (Addr × Obj)} {E : Value → Shared → Prop} {env : Env} {scope : Scope} {xi xv : Str} {pi pv pt pos : Pos} {kt : Nat} {elt iter c : Expr} {l : List Nat} {t : Tok} {R : Value → Env → Result → Shared → Prop}
inductive CompInv (w : World) (A : Around) (hb h₀ : Heap) (L C' D N a g C : Nat) (oL : Obj) (ys : List (Nat × List Nat)) (news : List (Addr × Obj)) (s : Shared) (k : Nat) (s' : Shared) : Prop
  | mk (j : Nat) (f1 : j ≤ ys.length) (f2 : k = ys.length - j) (f3 : GenAt w A hb N a g C ys j s') (f4 : j = 0 → ∃ o, s'.heap.get? (N - 1) = some o) (f5 : AllBare s.gens → AllBare s'.gens) (m' : Str → Option Value) (vs : List Value) (n : Nat) (f6 : Fr h₀ C' s'.heap m') (f7 : News h₀ C' s'.heap ((D, listOf (List.toArray vs) n) :: (L, oL) :: news)) (f8 : StrsAre vs ((ones (ys.take j)).map S)) (f9 : s'.drawn = s.drawn) (f10 : s'.os = s.os)
theorem comp_loop {C' D N a g C : Nat} {oL : Obj} {hb : Heap} {ys : List (Nat × List Nat)} (hh : A.handled = none) (hroom : A.depth < recursionLimit) (hlim : h₀.NoLimit) (hbk : Keeps hb h₀) (hz : ys.length ≤ 10000)
    (hCN : C' < N) (hCC : C' ≠ C) (hCa : C' ≠ a) (hC0 : h₀.get? C = none) (ha0 : h₀.get? a = none) (hD : D < N ∧ D ≠ C ∧ D ≠ a) (hL : L < N ∧ L ≠ C ∧ L ≠ a) (hDL : D ≠ L) (hnews : ∀ p ∈ news, (p.1 < N ∧ p.1 ≠ C ∧ p.1 ≠ a) ∧ p.1 ≠ D)
    (hk : (compEnv scope C' env).scope.kind = .function) (hl1 : (compEnv scope C' env).kindOf xi = some .local) (hl2 : (compEnv scope C' env).kindOf xv = some .local)
    (cond : ∀ (u : List Nat) led h tk gens' tp tu (p : Nat) (m' : Str → Option Value), (∃ j : Nat, ys[j]? = some (p, u)) → Fr h₀ C' h (fun y => if y = xv then some (.str (S u) tu) else if y = xi then some (.int (p : Int) tp) else m' y) → News h₀ C' h led →
      wpAny (model PP w) A (isTrue c (compEnv scope C' env) (eval c (compEnv scope C' env))) (fun ok s₃ => StepEnd s h₀ C' gens' led (fun y => if y = xv then some (.str (S u) tu) else if y = xi then some (.int (p : Int) tp) else m' y) (ok = (u.length == 1)) s₃) (fun _ _ => False) { s with heap := h, gens := gens', toks := tk })
    (helt : ∀ (u : List Nat) led h tk gens' tp tu (p : Nat) (m' : Str → Option Value), Fr h₀ C' h (fun y => if y = xv then some (.str (S u) tu) else if y = xi then some (.int (p : Int) tp) else m' y) → News h₀ C' h led →
      wpAny (model PP w) A (eval elt (compEnv scope C' env)) (fun v s₃ => StepEnd s h₀ C' gens' led (fun y => if y = xv then some (.str (S u) tu) else if y = xi then some (.int (p : Int) tp) else m' y) (v = .str (S u) tu) s₃) (fun _ _ => False) { s with heap := h, gens := gens', toks := tk })
    {R : Result → Shared → Prop} (hR : ∀ m' vs n h' tk gens', Fr h₀ C' h' m' → News h₀ C' h' ((D, listOf (List.toArray vs) n) :: (L, oL) :: news) → StrsAre vs ((ones ys).map S) → (AllBare s.gens → AllBare gens') → R (.ok .next) { s with heap := h', gens := gens', toks := tk })
    (k : Nat) {s' : Shared} (hI : CompInv w A hb h₀ L C' D N a g C oL ys news s k s') :
    codeAny (model PP w) A (.compLoop (.ListComp elt [⟨.Tuple [.Name xi pi, .Name xv pv] kt pt, iter, [c], 0⟩] scope pos) 0 (.ref a) (.ref D) (compEnv scope C' env)) R s' := by
  have keepF : ∀ {h h' : Heap} {m : Str → Option Value}, Fr h₀ C' h m → Held N C h h' → Fr h₀ C' h' m := fun F k =>
    ⟨F.ns.at' fun o q => k _ _ hCC hCN q, fun b o q => k b o (fun e => by rw [e, hC0] at q; cases q) (Nat.lt_trans (Nat.lt_of_lt_of_le (Heap.lt_size q) F.above) hCN) (F.keep b o q), F.above⟩
  have led : ∀ {vs : List Value} {n : Nat} {p : Addr × Obj}, p ∈ (D, listOf (List.toArray vs) n) :: (L, oL) :: news → p.1 < N ∧ p.1 ≠ C ∧ p.1 ≠ a := by
    intro vs n p hp
    rcases List.mem_cons.mp hp with rfl | hp
    · exact hD
    · rcases List.mem_cons.mp hp with rfl | hp
      · exact hL
      · exact (hnews p hp).1
  refine kct_loop (CompInv w A hb h₀ L C' D N a g C oL ys news s) (fun k s' => ?_) k hI
  rintro ⟨j, hj, rfl, G', hN', hB', m', vs, n, F', N', hsa, g2, g3⟩
  have es : ∀ h' tk gens', ({ s' with heap := h', gens := gens', toks := tk } : Shared) = { s with heap := h', gens := gens', toks := tk } := sh2 g2 g3
  have hkb : Keeps hb s'.heap := hbk.trans F'.keep
  by_cases hjn : j < ys.length
  · refine gen_item hh (hlim.keeps F'.keep) hroom G' hjn hkb hN' fun p u T tk tk' h₁ tkn gens' hy hT hH hB'' G'' => ?_
    have hg := G''.gen
    refine go_gen hg ?_
    obtain ⟨own, hown, hre⟩ := G''.own
    have F₁ := keepF F' hH
    have N₂ : News h₀ C' h₁ (((D, listOf (List.toArray vs) n) :: (L, oL) :: news) ++ own) := fun q hq => by
      rcases List.mem_append.mp hq with hq | hq
      · obtain ⟨q1, q2, q3⟩ := led hq
        exact ⟨hH _ _ q2 q1 (N' q hq).1, (N' q hq).2⟩
      · obtain ⟨h1, h2⟩ := hown q hq
        refine ⟨h1, ?_, ?_⟩
        · rcases h2 with e | e | e
          · rw [e]; exact Ne.symm hCa
          · rw [e]; exact Ne.symm hCC
          · exact Nat.ne_of_gt (Nat.lt_of_lt_of_le hCN e)
        · rcases h2 with e | e | e
          · rw [e]; exact ha0
          · rw [e]; exact hC0
          · exact none_above (Nat.le_trans F'.above (Nat.le_of_lt (Nat.lt_of_lt_of_le hCN e)))
    have hap : ∀ q ∈ own, q.1 ≠ D := fun q hq e => by
      obtain ⟨n1, n2, n3⟩ := hD
      rcases (hown q hq).2 with x | x | x
      · exact n3 (e ▸ x)
      · exact n2 (e ▸ x)
      · rw [e] at x; exact absurd n1 (Nat.not_lt.mpr x)
    refine wpAny_assign_Tuple hh hT rfl rfl fun h₃ hx₃ => ?_
    replace hx₃ : Heap.ExtBut h₁.objs.size h₁ h₃ := hx₃
    have kx : Keeps h₁ h₃ := fun b o q => hx₃ b o (Nat.ne_of_lt (Heap.lt_size q)) q
    have F₃ := Fr.grown F₁ kx
    have N₃ := News.keepsK N₂ kx
    have pc : ((compEnv scope C' env).scope.kind == .class || ((compEnv scope C' env).scope.kind == .module && (compEnv scope C' env).locals != (compEnv scope C' env).globals)) = false := by rw [hk]; rfl
    refine wpAny_bind (wpAny_holding (wpAny_assign_Name (wpAny_storeName_local hl1 F₃.ns (fun h₄ hn₄ hs₄ => ?_) pc)))
    have F₄ := F₃.set hn₄ hs₄
    have N₄ := N₃.set hs₄
    refine wpAny_bind (wpAny_holding (wpAny_assign_Name (wpAny_storeName_local hl2 F₄.ns (fun h₅ hn₅ hs₅ => wpAny_pure ?_) pc)))
    have F₅ := F₄.set hn₅ hs₅
    have N₅ := N₄.set hs₅
    show wpAny _ _ _ _ _ { s' with heap := h₅, gens := gens', toks := tkn + 1 + 1 }
    rw [es]
    refine wpAny_mono (cond u _ _ _ _ _ _ p _ ⟨j, hy⟩ F₅ N₅) (fun ok s₃ h₃ => ?_) (fun _ _ x => x.elim)
    obtain ⟨rfl, h₆, tk₆, rfl, N₆, F₆⟩ := h₃
    have fin : ∀ vs' n' h₈ tk₈ m₈, Fr h₀ C' h₈ m₈ → News h₀ C' h₈ (((D, listOf (List.toArray vs') n') :: (L, oL) :: news) ++ own) → StrsAre vs' ((ones (ys.take (j + 1))).map S) → ∃ k, k < ys.length - j ∧ CompInv w A hb h₀ L C' D N a g C oL ys news s k { s with heap := h₈, gens := gens', toks := tk₈ } :=
      fun vs' n' h₈ tk₈ m₈ F₈ N₈ hs₈ => ⟨ys.length - (j + 1), n_step hjn, j + 1, hjn, rfl, by
          have := hre { s' with heap := h₈, gens := gens', toks := tk₈ } rfl (fun p hp => (N₈ p (List.mem_append_right _ hp)).1)
          rw [es] at this; exact this, fun e => absurd e (Nat.succ_ne_zero j), fun x => hB'' (hB' x), m₈, vs', n', F₈, News.sub N₈ fun p hp => List.mem_append_left _ hp, hs₈, rfl, rfl⟩
    have et : ones (ys.take (j + 1)) = if u.length = 1 then ones (ys.take j) ++ [u] else ones (ys.take j) := by rw [take_one hy, ones_snoc]
    by_cases hu : u.length = 1
    · rw [if_pos hu] at et
      rw [show (u.length == 1) = true by rw [hu]; rfl, if_pos rfl]
      refine wpAny_mono (helt u _ _ _ _ _ _ p _ F₆ N₆) (fun v s₃ h₃ => ?_) (fun _ _ x => x.elim)
      obtain ⟨rfl, h₇, tk₇, rfl, N₇, F₇⟩ := h₃
      have hlen : (ones (ys.take j)).length ≤ 100000 := by
        have h1 : (ones (ys.take j)).length ≤ ((ys.take j).map (·.2)).length := List.length_filter_le ..
        rw [List.length_map] at h1
        have := List.length_take_le j ys
        have := List.length_take_le' j ys
        lia
      refine append_S (news' := ((D, listOf (vs ++ [Value.str (S u) _]).toArray (n + 1)) :: (L, oL) :: news) ++ own) F₇ N₇ (.head fun p hp => ?_) hsa hlen fun h₈ F₈ N₈ hs₈ => ?_
      · rcases List.mem_append.mp hp with hp | hp
        · rcases List.mem_cons.mp hp with rfl | hp
          · exact Ne.symm hDL
          · exact (hnews p hp).2
        · exact hap p hp
      · exact fin _ _ _ _ _ F₈ N₈ (by rw [et]; exact hs₈)
    · rw [if_neg hu] at et
      rw [show (u.length == 1) = false by simp [hu], if_neg Bool.false_ne_true]
      exact fin _ _ _ _ _ F₆ N₆ (by rw [et]; exact hsa)
  · have hjn' : j = ys.length := n_end hj hjn
    subst hjn'
    refine gen_stop hh (hlim.keeps F'.keep) hroom G' hkb hN' fun h' tkn gens' hH hB'' => ?_
    rw [es]
    rw [List.take_length] at hsa
    exact hR m' vs n h' tkn gens' (keepF F' hH) (fun q hq => ⟨hH _ _ (led hq).2.1 (led hq).1 (N' q hq).1, (N' q hq).2⟩) hsa fun x => hB'' (hB' x)
end
end Mine
namespace Mine
theorem ones_flat_length (ys : List (Nat × List Nat)) : (ones ys).flatten.length ≤ ys.length := by
  have : ∀ us : List (List Nat), (us.filter fun u => u.length == 1).flatten.length ≤ us.length := by
    intro us
    induction us with
    | nil => simp
    | cons u us ih =>
      by_cases h : u.length = 1
      · rw [List.filter_cons_of_pos (by simp [h]), List.flatten_cons, List.length_append, List.length_cons]; lia
      · rw [List.filter_cons_of_neg (by simp [h]), List.length_cons]; lia
  have := this (ys.map (·.2))
  rw [List.length_map] at this
  exact this
theorem ones_sizes (ys : List (Nat × List Nat)) : ((ones ys).map List.length).sum ≤ ys.length := by
  have := ones_flat_length ys
  rw [List.length_flatten] at this
  exact this
end Mine
end
section -- G9
open PySem PySem.W PyProof.Rows PySem.Calls
set_option maxRecDepth 100000
set_option maxHeartbeats 4000000
namespace Mine
section
variable {w : World} {mean : ExcName → Option Value} {mg mb : Str → Option Value} {A : Around} {s : Shared} {h₀ : Heap} {L : Addr} {m : Str → Option Value} {news : List (Addr × Obj)} {E : Value → Shared → Prop} {env : Env} {scope : Scope} {xi xv : Str} {pi pv pt pos : Pos} {kt : Nat} {elt iter c : Expr} {l : List Nat} {t : Tok} {Q : Value → Shared → Prop}
theorem comp_esc (KX : (hq.heap_1 w.params).In h₀) (T : Top hd.view_39 (looseW hd.view_39 [Str.ofString "EXACT_TOKEN_TYPES"]) mean mg mb h₀) (F : Fr h₀ L s.heap m) (N : News h₀ L s.heap news) (hroom : A.depth < recursionLimit) (hh : A.handled = none) (hl : ∀ c ∈ l, c < 128) (hz : l.length ≤ 10000)
    (cond : ∀ C' (u : List Nat) led h tk gens' tp tu (p : Nat) (m' : Str → Option Value), (∃ j : Nat, (unitsAt 0 l)[j]? = some (p, u)) → Fr h₀ C' h (fun y => if y = xv then some (.str (S u) tu) else if y = xi then some (.int (p : Int) tp) else m' y) → News h₀ C' h led →
      wpAny (model PP w) A (isTrue c (compEnv scope C' env) (eval c (compEnv scope C' env))) (fun ok s₃ => StepEnd s h₀ C' gens' led (fun y => if y = xv then some (.str (S u) tu) else if y = xi then some (.int (p : Int) tp) else m' y) (ok = (u.length == 1)) s₃) (fun _ _ => False) { s with heap := h, gens := gens', toks := tk })
    (helt : ∀ C' (u : List Nat) led h tk gens' tp tu (p : Nat) (m' : Str → Option Value), Fr h₀ C' h (fun y => if y = xv then some (.str (S u) tu) else if y = xi then some (.int (p : Int) tp) else m' y) → News h₀ C' h led →
      wpAny (model PP w) A (eval elt (compEnv scope C' env)) (fun v s₃ => StepEnd s h₀ C' gens' led (fun y => if y = xv then some (.str (S u) tu) else if y = xi then some (.int (p : Int) tp) else m' y) (v = .str (S u) tu) s₃) (fun _ _ => False) { s with heap := h, gens := gens', toks := tk })
    (hQ : ∀ D vs n h' tk gens', Fr h₀ L h' m → News h₀ L h' ((D, listOf (List.toArray vs) n) :: news) → (∀ p ∈ news, p.1 ≠ D) → StrsAre vs ((ones (unitsAt 0 l)).map S) → (AllBare s.gens → AllBare gens') → Q (.ref D) { s with heap := h', gens := gens', toks := tk })
    (hkind : scope.kind = .function) (hcell : ∀ x ∈ scope.names, x.2 ≠ .cell) (hl1 : scope.names.lookup xi = some .local) (hl2 : scope.names.lookup xv = some .local) :
    wpAny (model PP w) A (call (.ref 35) [.str (S l) t]) (fun x s₁ => wpAny (model PP w) A (pyIter x) (fun it s₂ => wpAny (model PP w) A (newList []) (fun acc s₃ =>
      wpAny (model PP w) A (newFunctionEnv scope env.globals [] [] env.qual none .none (some env)) (fun cenv s₄ =>
        codeAny (model PP w) A (.compStart (.ListComp elt [⟨.Tuple [.Name xi pi, .Name xv pv] kt pt, iter, [c], 0⟩] scope pos) 0 it acc { cenv with scope := scope })
          (fun r s' => ∃ m, s'.heap.Ns cenv.locals m ∧ ∀ h', Heap.SameBut cenv.locals s'.heap h' →
            match r with | .ok _ => Q acc { s' with heap := h' } | .error x => wpAny (model PP w) A (passOn "comprehension.variables-let-go" x { cenv with scope := scope }) Q E { s' with heap := h' }) s₄) E s₃) E s₂) E s₁) E s := by
  have Fb := F.above
  refine wpAny_call (esc_call (Gd.keeps ⟨KX, T⟩ F.keep) hroom hl fun h₁ tk₁ gens₁ hk₁ hb₁ ho₁ hns hG => ?_)
  have hLs := F.ns.lt
  have GA := fun (A' : Around) (hA : A'.handled = none) N hN h'' tk'' kk => hG A' h₀ N h'' tk'' hA ⟨KX, T⟩ (Nat.le_trans Fb (Nat.le_of_lt hLs)) hN kk
  refine wpAny_pyIter_gen (GA ⟨none, 0, none, none, 0⟩ rfl (s.heap.objs.size + 1 + 1) (Nat.lt_succ_self _) h₁ tk₁ .refl).1 ?_
  have h1s : s.heap.objs.size + 1 < h₁.objs.size := by obtain ⟨o, ho⟩ := ho₁; exact Heap.lt_size ho
  have sNs : s.heap.objs.size < h₁.objs.size := Nat.lt_of_succ_lt h1s
  refine wpAny_newObj_type (wpAny_newFunctionEnv hcell (by intro y hy; simp at hy) (fun h₂ hn₂ hs₂ => ?_) hkind)
  dsimp only at hn₂ hs₂ ⊢
  generalize hH2 : h₁.push { cls := .type "list", dict := none, data := .seq ([] : List Value).toArray } = H2 at hn₂ hs₂ ⊢
  have hC : H2.objs.size = h₁.objs.size + 1 := by rw [← hH2, Heap.size_push]
  have old : Keeps h₁ h₂ := fun b o e => hs₂.extBut b o (by rw [hC]; exact Nat.ne_of_lt (Nat.lt_succ_of_lt (Heap.lt_size e))) (Heap.get?_push_of_some _ (hH2 ▸ Heap.get?_push_of_some _ e))
  have hDat : h₂.get? h₁.objs.size = some (listOf ([] : List Value).toArray 0) := hs₂.extBut _ _ (by rw [hC]; exact Nat.ne_of_lt (Nat.lt_succ_self _)) (Heap.get?_push_of_some _ (hH2 ▸ Heap.get?_push_size _ rfl))
  have k2 : Keeps s.heap h₂ := Keeps.trans hk₁ old
  have F₂ := Fr.grown F k2
  have N₂ := News.keepsK N k2
  obtain ⟨oL, _, _, hoL, _⟩ := id F₂.ns
  have le0 : h₀.objs.size ≤ h₁.objs.size := Nat.le_trans Fb (Nat.le_trans (Nat.le_of_lt hLs) (Nat.le_of_lt sNs))
  have Fc : Fr h₀ H2.objs.size h₂ (fun y => ([] : List (Str × Value)).reverse.lookup y) := ⟨hn₂, fun b o e => F₂.keep b o e, by rw [hC]; exact Nat.le_succ_of_le le0⟩
  have hLN : L < H2.objs.size := by rw [hC]; exact Nat.lt_succ_of_lt (Nat.lt_trans hLs sNs)
  have hps : ∀ p ∈ news, p.1 < s.heap.objs.size := fun p hp => Heap.lt_size (N p hp).1
  have Nc : News h₀ H2.objs.size h₂ ((h₁.objs.size, listOf ([] : List Value).toArray 0) :: (L, oL) :: news) := fun p hp => by
    rcases List.mem_cons.mp hp with rfl | hp
    · exact ⟨hDat, by rw [hC]; exact Nat.ne_of_lt (Nat.lt_succ_self _), none_above le0⟩
    · rcases List.mem_cons.mp hp with rfl | hp
      · exact ⟨hoL, Nat.ne_of_lt hLN, none_above Fb⟩
      · exact ⟨(N₂ p hp).1, Nat.ne_of_lt (by rw [hC]; exact Nat.lt_succ_of_lt (Nat.lt_trans (hps p hp) sNs)), (N₂ p hp).2.2⟩
  have G₀ := GA A hh (H2.objs.size + 1) (by rw [hC]; exact Nat.lt_succ_of_lt (Nat.lt_succ_of_lt h1s)) h₂ (tk₁ + ([] : List (Str × Value)).length) old
  have loop : codeAny (model PP w) A (.compLoop (.ListComp elt [⟨.Tuple [.Name xi pi, .Name xv pv] kt pt, iter, [c], 0⟩] scope pos) 0 (.ref (s.heap.objs.size + 1)) (.ref h₁.objs.size) (compEnv scope H2.objs.size env))
      (fun r s' => ∃ m, s'.heap.Ns H2.objs.size m ∧ ∀ h', Heap.SameBut H2.objs.size s'.heap h' →
            match r with | .ok _ => Q (.ref h₁.objs.size) { s' with heap := h' } | .error x => wpAny (model PP w) A (passOn "comprehension.variables-let-go" x (compEnv scope H2.objs.size env)) Q E { s' with heap := h' })
      { s with heap := h₂, gens := gens₁, toks := tk₁ + ([] : List (Str × Value)).length } := by
    refine comp_loop (hb := h₀) (N := H2.objs.size + 1) (C := s.heap.objs.size) (g := s.gens.size) (ys := unitsAt 0 l) (s := s) hh hroom T.nolimit .refl (Nat.le_trans (unitsAt_length _ 0 l (Nat.le_refl _)) hz)
      (Nat.lt_succ_self _) (by rw [hC]; exact Nat.ne_of_gt (Nat.lt_succ_of_lt sNs)) (by rw [hC]; exact Nat.ne_of_gt (Nat.lt_succ_of_lt h1s)) (none_above (Nat.le_trans Fb (Nat.le_of_lt hLs))) (none_above (Nat.le_trans Fb (Nat.le_succ_of_le (Nat.le_of_lt hLs))))
      ⟨by rw [hC]; exact Nat.lt_succ_of_lt (Nat.lt_succ_self _), Nat.ne_of_gt sNs, Nat.ne_of_gt h1s⟩ ⟨Nat.lt_succ_of_lt hLN, Nat.ne_of_lt hLs, Nat.ne_of_lt (Nat.lt_succ_of_lt hLs)⟩ (Nat.ne_of_gt (Nat.lt_trans hLs sNs))
      (fun p hp => ⟨⟨by rw [hC]; exact Nat.lt_succ_of_lt (Nat.lt_succ_of_lt (Nat.lt_trans (hps p hp) sNs)), Nat.ne_of_lt (hps p hp), Nat.ne_of_lt (Nat.lt_succ_of_lt (hps p hp))⟩, Nat.ne_of_lt (Nat.lt_trans (hps p hp) sNs)⟩)
      hkind (by simp [compEnv, Env.kindOf, hl1]) (by simp [compEnv, Env.kindOf, hl2])
      (fun u led h tk gens' tp tu p m' hj F' N' => cond _ u led h tk gens' tp tu p m' hj F' N') (fun u led h tk gens' tp tu p m' F' N' => helt _ u led h tk gens' tp tu p m' F' N')
      (fun m' vs n h' tk gens' F' N' hsa hB => ?_) _
      ⟨0, Nat.zero_le _, rfl, G₀, fun _ => ?_, hb₁, _, [], 0, Fc, Nc, .nil, rfl, rfl⟩
    · refine ⟨m', F'.ns, fun h'' hs'' => ?_⟩
      have kp : ∀ p ∈ (h₁.objs.size, listOf (List.toArray vs) n) :: (L, oL) :: news, h''.get? p.1 = some p.2 := fun p hp => hs''.extBut _ _ (N' p hp).2.1 (N' p hp).1
      refine hQ h₁.objs.size vs n h'' tk gens' ⟨F.ns.at' fun o e => ?_, fun b o e => hs''.extBut b o (Nat.ne_of_lt (Nat.lt_of_lt_of_le (Heap.lt_size e) F'.above)) (F'.keep b o e), Fb⟩ (fun p hp => ?_) (fun p hp => Nat.ne_of_lt (Nat.lt_trans (hps p hp) sNs)) hsa hB
      · have e2 := k2 _ _ e
        rw [hoL] at e2
        cases e2
        exact kp _ (.tail _ (.head _))
      · rcases List.mem_cons.mp hp with rfl | hp
        · exact ⟨kp _ (.head _), Nat.ne_of_gt (Nat.lt_trans hLs sNs), none_above le0⟩
        · exact ⟨kp _ (.tail _ (.tail _ hp)), (N p hp).2⟩
    · obtain ⟨o, _, _, ho, _⟩ := hn₂
      exact ⟨o, ho⟩
  exact codeAny_compStart_list loop (wpAny_pyIter_gen G₀.1 loop)
end
end Mine
end
section -- P5
namespace Mine
/-- the length of the longest piece at the head -/
noncomputable def sizeL (r : List Nat) : Nat := if (tokF (r.take 3)).isSome then 3 else if (tokF (r.take 2)).isSome then 2 else 1
noncomputable def symL (r : List Nat) : Nat := (tokF (r.take (sizeL r))).getD (256 + r.headD 0)
noncomputable def lexF : Nat → List Nat → List Nat
  | 0, _ => []
  | _, [] => []
  | n + 1, c :: r => symL (c :: r) :: lexF n ((c :: r).drop (sizeL (c :: r)))
theorem sizeL_pos (r : List Nat) : 1 ≤ sizeL r ∧ sizeL r ≤ 3 := by
  unfold sizeL
  split
  · exact ⟨by lia, by lia⟩
  · split <;> exact ⟨by lia, by lia⟩
theorem tok_pos : ∀ r ∈ TOK, 7 ≤ r.2 ∧ r.2 < 55 := by decide +kernel
theorem tokF_pos {l : List Nat} {n : Nat} (h : tokF l = some n) : 7 ≤ n ∧ n < 55 := by
  unfold tokF at h
  cases e : TOK.find? (fun r => r.1 == l) with
  | none => rw [e] at h; simp at h
  | some r =>
    rw [e] at h
    simp only [Option.map_some, Option.some.injEq] at h
    subst h
    exact tok_pos r (List.mem_of_find?_eq_some e)
theorem symL_pos (r : List Nat) : 7 ≤ symL r := by
  unfold symL
  cases e : tokF (r.take (sizeL r)) with
  | none => simp only [Option.getD_none]; lia
  | some n => exact (tokF_pos e).1
theorem lexF_pos : ∀ (n : Nat) (r : List Nat), ∀ x ∈ lexF n r, 7 ≤ x
  | 0, _ => fun x hx => by simp [lexF] at hx
  | n + 1, [] => fun x hx => by simp [lexF] at hx
  | n + 1, c :: r => fun x hx => by
    rw [lexF] at hx
    rcases List.mem_cons.mp hx with rfl | hx
    · exact symL_pos _
    · exact lexF_pos n _ x hx
theorem lexF_length : ∀ (n : Nat) (r : List Nat), (lexF n r).length ≤ n
  | 0, _ => by simp [lexF]
  | n + 1, [] => by simp [lexF]
  | n + 1, c :: r => by
    rw [lexF, List.length_cons]
    have := lexF_length n ((c :: r).drop (sizeL (c :: r)))
    lia
/-- enough fuel is enough -/
theorem lexF_fuel : ∀ (n m : Nat) (r : List Nat), r.length ≤ n → r.length ≤ m → lexF n r = lexF m r
  | 0, 0, _, _, _ => rfl
  | 0, m + 1, [], _, _ => rfl
  | n + 1, 0, [], _, _ => rfl
  | n + 1, m + 1, [], _, _ => rfl
  | 0, m + 1, c :: r, h, _ => by simp at h
  | n + 1, 0, c :: r, _, h => by simp at h
  | n + 1, m + 1, c :: r, h1, h2 => by
    rw [lexF, lexF]
    have := (sizeL_pos (c :: r)).1
    have hd : ((c :: r).drop (sizeL (c :: r))).length ≤ r.length := by rw [List.length_drop, List.length_cons]; lia
    rw [List.length_cons] at h1 h2
    rw [lexF_fuel n m _ (by lia) (by lia)]
noncomputable def lex (r : List Nat) : List Nat := lexF r.length r
theorem lex_cons (c : Nat) (r : List Nat) : lex (c :: r) = symL (c :: r) :: lex ((c :: r).drop (sizeL (c :: r))) := by
  unfold lex
  rw [List.length_cons, lexF]
  have := (sizeL_pos (c :: r)).1
  have hd : ((c :: r).drop (sizeL (c :: r))).length ≤ r.length := by rw [List.length_drop, List.length_cons]; lia
  rw [lexF_fuel _ ((c :: r).drop (sizeL (c :: r))).length _ hd (Nat.le_refl _)]
theorem lex_nil : lex [] = [] := rfl
/-- what the second loop leaves -/
noncomputable def terms (xs : List Nat) : List Nat := xs.filter fun x => x < 256
theorem terms_snoc (xs : List Nat) (x : Nat) : terms (xs ++ [x]) = if x < 256 then terms xs ++ [x] else terms xs := by
  unfold terms
  rw [List.filter_append]
  by_cases h : x < 256
  · rw [if_pos h]; simp [h]
  · rw [if_neg h]; simp [h]
end Mine
end
section -- S6
open PySem PySem.W PyProof.Rows PySem.Calls
set_option maxRecDepth 100000
set_option maxHeartbeats 4000000
namespace Mine
local macro_rules | `(tactic| walk_at "go") => `(tactic| repeat' (walk_at "mine one"))
section
variable {w : World} {mean : ExcName → Option Value} {mg mb : Str → Option Value} {A : Around} {s : Shared} {h₀ : Heap} {L : Addr} {m : Str → Option Value} {news : List (Addr × Obj)} {Q : Value → Shared → Prop} {E : Value → Shared → Prop}
theorem iseof_spec (G : Gd w mean mg mb s.heap) (hroom : A.depth + 5 < recursionLimit) {x : Int} {t : Tok} {R : Result → Shared → Prop}
   (h : ∀ s', Grown s s' → R (.ok (.ret (.bool (x == 0)))) s') : codeAny (model PP w) A (.call (.ref 66) ⟨[.int x t], []⟩) R s := by
  refine spec_def G rfl rfl (by lia) (binds := [(nm "x", .int x t)]) (BindsTo.of_eq rfl) (locs rfl) ?_
  intro L h₁ F N
  obtain ⟨KX, T⟩ := G
  walk_at "go"
  exact h _ ⟨F.keep, rfl, rfl, rfl⟩
theorem isterm_spec (G : Gd w mean mg mb s.heap) (hroom : A.depth + 5 < recursionLimit) {x : Int} {t : Tok} {R : Result → Shared → Prop}
   (h : ∀ s', Grown s s' → R (.ok (.ret (.bool (decide (x < 256))))) s') : codeAny (model PP w) A (.call (.ref 59) ⟨[.int x t], []⟩) R s := by
  refine spec_def G rfl rfl (by lia) (binds := [(nm "x", .int x t)]) (BindsTo.of_eq rfl) (locs rfl) ?_
  intro L h₁ F N
  obtain ⟨KX, T⟩ := G
  walk_at "go"
  exact h _ ⟨F.keep, rfl, rfl, rfl⟩
theorem use_iseof (KX : (hq.heap_1 w.params).In h₀) (T : Top hd.view_39 (looseW hd.view_39 [Str.ofString "EXACT_TOKEN_TYPES"]) mean mg mb h₀) (F : Fr h₀ L s.heap m) (N : News h₀ L s.heap news) (hroom : A.depth + 5 < recursionLimit)
    {x : Int} {t : Tok} (h : ∀ h' k, Fr h₀ L h' m → News h₀ L h' news → Q (.bool (x == 0)) { s with heap := h', toks := k }) : wpAny (model PP w) A (call (.ref 66) [.int x t]) Q E s := by
  refine wpAny_call (iseof_spec (Gd.keeps ⟨KX, T⟩ F.keep) hroom fun s' g => ?_)
  rw [g.eq]
  exact h s'.heap s'.toks (Fr.grown F g.keep) (News.keepsK N g.keep)
theorem use_isterm (KX : (hq.heap_1 w.params).In h₀) (T : Top hd.view_39 (looseW hd.view_39 [Str.ofString "EXACT_TOKEN_TYPES"]) mean mg mb h₀) (F : Fr h₀ L s.heap m) (N : News h₀ L s.heap news) (hroom : A.depth + 5 < recursionLimit)
    {x : Int} {t : Tok} (h : ∀ h' k, Fr h₀ L h' m → News h₀ L h' news → Q (.bool (decide (x < 256))) { s with heap := h', toks := k }) : wpAny (model PP w) A (call (.ref 59) [.int x t]) Q E s := by
  refine wpAny_call (isterm_spec (Gd.keeps ⟨KX, T⟩ F.keep) hroom fun s' g => ?_)
  rw [g.eq]
  exact h s'.heap s'.toks (Fr.grown F g.keep) (News.keepsK N g.keep)
end
end Mine
end
section -- S5
open PySem PySem.W PyProof.Rows PySem.Calls
set_option maxRecDepth 100000
set_option maxHeartbeats 4000000
namespace Mine
local macro_rules | `(tactic| walk_at "go") => `(tactic| repeat' (walk_at "mine loop"; walk_at "mine ref"; (fail_if_success (with_reducible refine Mine.at8 ?_)); (fail_if_success (with_reducible refine Mine.at9 ?_)); (fail_if_success (with_reducible refine Mine.at10 ?_)); (fail_if_success (with_reducible refine Mine.at11 ?_)); walk_at "mine one plain"))
local macro_rules | `(tactic| walk_at "eval Name") => `(tactic| ((with_reducible show wpAny _ _ (eval (Expr.Name _ _) (compEnv _ _ _)) _ _ _); (with_reducible rename Fr _ _ _ _ => kF); first
  | (refine nameL_any kF rfl ?_ rfl rfl rfl (by decide))
  | (refine nameB_any kF (by assumption) (topRead_of (by assumption)) (by k_is) (by boot_by_name) (by decide) ?_ rfl rfl rfl rfl (by decide))))
/-- the frame of the pieces' loop -/
inductive NumI (s : Shared) (gens : Array GenState) (h₀ : Heap) (L D : Addr) (b : List Nat) (n : Nat) (s' : Shared) : Prop
  | mk (at' : Nat) (hn : n = b.length - at') (ta tb : Tok) (vs : List Value) (c : Nat) (pre : List Nat) (m : Str → Option Value) (F : Fr h₀ L s'.heap m) (hm : Has m [(nm "at", .int (at' : Int) ta), (nm "bare", .str (S b) tb), (nm "symbols", .ref D)])
    (N : News h₀ L s'.heap [(D, listOf vs.toArray c)]) (hI : IntsAre vs (pre.map Int.ofNat)) (hlex : lex b = pre ++ lex (b.drop at')) (g1 : s'.gens = gens) (g2 : s'.drawn = s.drawn) (g3 : s'.os = s.os)
/-- the same with the size of the piece -/
inductive SizI (s : Shared) (gens : Array GenState) (h₀ : Heap) (L D : Addr) (b : List Nat) (at' : Nat) (z : Nat) (s' : Shared) : Prop
  | mk (ta tb tz : Tok) (vs : List Value) (c : Nat) (pre : List Nat) (m : Str → Option Value) (F : Fr h₀ L s'.heap m) (hm : Has m [(nm "at", .int (at' : Int) ta), (nm "bare", .str (S b) tb), (nm "symbols", .ref D), (nm "size", .int (z : Int) tz)])
    (N : News h₀ L s'.heap [(D, listOf vs.toArray c)]) (hI : IntsAre vs (pre.map Int.ofNat)) (hlex : lex b = pre ++ lex (b.drop at')) (g1 : s'.gens = gens) (g2 : s'.drawn = s.drawn) (g3 : s'.os = s.os)
inductive SizJ (s : Shared) (gens : Array GenState) (h₀ : Heap) (L D : Addr) (b : List Nat) (at' : Nat) (z : Nat) (s' : Shared) : Prop
  | mk (hz : z = 3 ∨ (z = 2 ∧ tokF ((b.drop at').take 3) = none) ∨ (z = 1 ∧ tokF ((b.drop at').take 3) = none ∧ tokF ((b.drop at').take 2) = none)) (h : SizI s gens h₀ L D b at' z s')
/-- the frame of the numbers' loop -/
inductive FilI (s : Shared) (gens : Array GenState) (h₀ : Heap) (L D D2 : Addr) (oD : Obj) (pre : List Nat) (at' : Nat) (s' : Shared) : Prop
  | mk (ta : Tok) (vs : List Value) (c : Nat) (m : Str → Option Value) (F : Fr h₀ L s'.heap m) (hm : Has m [(nm "at", .int (at' : Int) ta), (nm "symbols", .ref D), (nm "numbers", .ref D2)])
    (N : News h₀ L s'.heap [(D2, listOf vs.toArray c), (D, oD)]) (hI : IntsAre vs ((terms (pre.take at')).map Int.ofNat)) (hal : at' ≤ pre.length) (g1 : s'.gens = gens) (g2 : s'.drawn = s.drawn) (g3 : s'.os = s.os)
inductive FilJ (s : Shared) (gens : Array GenState) (h₀ : Heap) (L D D2 : Addr) (oD : Obj) (pre : List Nat) (n : Nat) (s' : Shared) : Prop
  | mk (at' : Nat) (hn : n = pre.length - at') (h : FilI s gens h₀ L D D2 oD pre at' s')
theorem syms_at {pre : List Nat} {a : Nat} (h : a ≤ pre.length) (hp : ∀ x ∈ pre, 7 ≤ x) : (a = pre.length ∧ (pre.map Int.ofNat ++ [0]).getD (a : Int).toNat 0 = 0) ∨ ∃ x, pre[a]? = some x ∧ 7 ≤ x ∧ (pre.map Int.ofNat ++ [0]).getD (a : Int).toNat 0 = (x : Int) := by
  rw [Int.toNat_natCast, List.getD_eq_getElem?_getD]
  rcases Nat.lt_or_ge a pre.length with hlt | hge
  · refine .inr ⟨pre[a], List.getElem?_eq_getElem hlt, hp _ (List.getElem_mem _), ?_⟩
    rw [List.getElem?_append_left (by rw [List.length_map]; exact hlt), List.getElem?_map, List.getElem?_eq_getElem hlt]; rfl
  · have : a = pre.length := by lia
    subst this
    refine .inl ⟨rfl, ?_⟩
    rw [List.getElem?_append_right (by rw [List.length_map]; exact Nat.le_refl _), List.length_map, Nat.sub_self]; rfl
theorem sizeL_at {r : List Nat} {z : Nat} (hz : z = 3 ∨ (z = 2 ∧ tokF (r.take 3) = none) ∨ (z = 1 ∧ tokF (r.take 3) = none ∧ tokF (r.take 2) = none)) (h : z = 1 ∨ (tokF (r.take z)).isSome = true) : sizeL r = z := by
  unfold sizeL
  rcases hz with rfl | ⟨rfl, h3⟩ | ⟨rfl, h3, h2⟩
  · rcases h with h | h
    · cases h
    · rw [if_pos h]
  · rcases h with h | h
    · cases h
    · rw [h3, if_neg (by simp), if_pos h]
  · rw [h3, if_neg (by simp), h2, if_neg (by simp)]
theorem sizeL_next {r : List Nat} {z : Nat} (hz : z = 3 ∨ (z = 2 ∧ tokF (r.take 3) = none) ∨ (z = 1 ∧ tokF (r.take 3) = none ∧ tokF (r.take 2) = none)) (h1 : 1 < z) (h : (tokF (r.take z)).isSome = false) :
    z - 1 = 3 ∨ (z - 1 = 2 ∧ tokF (r.take 3) = none) ∨ (z - 1 = 1 ∧ tokF (r.take 3) = none ∧ tokF (r.take 2) = none) := by
  have hn : tokF (r.take z) = none := by simpa using h
  rcases hz with rfl | ⟨rfl, h3⟩ | ⟨rfl, h3, h2⟩
  · exact .inr (.inl ⟨rfl, hn⟩)
  · exact .inr (.inr ⟨rfl, h3, hn⟩)
  · exact absurd h1 (by lia)
theorem numbers_spec {w : World} {mean mg mb} {A : Around} {s : Shared} (G : Gd w mean mg mb s.heap) (hroom : A.depth + 20 < recursionLimit) (hh : A.handled = none)
   {l : List Nat} {t : Tok} {R : Result → Shared → Prop} (hl : ∀ c ∈ l, c < 128) (hz : l.length ≤ 1000) (hl' : ∀ c ∈ stripF l, c < 128) (hz' : (stripF l).length ≤ 1000)
   (h : ∀ D vs n s', GrownG s s' → s.heap.get? D = none → s'.heap.get? D = some (listOf (List.toArray vs) n) → IntsAre vs ((terms (lex (ones (unitsAt 0 (stripF l))).flatten)).map (Int.ofNat)) → R (.ok (.ret (.ref D))) s') :
   codeAny (model PP w) A (.call (.ref 92) ⟨[.str (S l) t], []⟩) R s := by
  obtain ⟨hd', dep, frs, gds, uns⟩ := A
  cases hh
  refine spec_def G rfl rfl (by dsimp only at hroom ⊢; lia) (binds := [(nm "text", .str (S l) t)]) (BindsTo.of_eq rfl) (locs rfl) ?_
  intro L h₁ F N
  obtain ⟨KX, T⟩ := G
  dsimp only at hroom
  walk_at "go"
  refine wpAny_ListComp (by decide) rfl (by decide) ?_
  walk_at "go"
  rename Fr _ _ _ _ => F1
  rename News _ _ _ _ => N1
  refine use_strip KX T F1 N1 (by simp only [depth_deeper]; lia) rfl hl hz fun tk1 h1 gens1 k1 hb1 F2 N2 => ?_
  try clear F1 N1
  generalize stripF l = l' at *
  walk_at "go"
  refine comp_esc KX T F2 N2 (by simp only [depth_deeper]; lia) rfl hl' (by lia) ?_ ?_ ?_ rfl (by decide) rfl rfl
  · intro C' u led h tk gens' tp tu p m' hj F3 N3
    obtain ⟨j, hj⟩ := hj
    have hu := unit_len hj
    walk_at "go"
    exact ⟨by rw [Bool.eq_iff_iff]; simp; lia, _, _, rfl, N3, by assumption⟩
  · intro C' u led h tk gens' tp tu p m' F3 N3
    walk_at "go"
    exact ⟨rfl, _, _, rfl, N3, by assumption⟩
  · intro D0 vs0 n0 h2 tk2 gens2 F3 N3 _ hsa hb2
    have hlen := Nat.le_trans (unitsAt_length _ 0 l' (Nat.le_refl _)) hz'
    have hb := ones_flat_length (unitsAt 0 l')
    have hs0 := ones_sizes (unitsAt 0 l')
    walk_at "go"
    refine join_call rfl N3 (.head _) hsa (by lia) fun t' k => ?_
    generalize (ones (unitsAt 0 l')).flatten = b at *
    have N4 : News s.heap L h2 [] := News.nil
    clear N3 N2 F2
    walk_at "go"
    rename Fr _ _ _ _ => F5
    rename News _ _ _ _ => N5
    rename_i h3 tk3 D h4 _ h5 h6
    refine while_cut (NumI s gens2 s.heap L D b) (NumI s gens2 s.heap L D b 0) (b.length - 0)
      ⟨0, rfl, _, _, [], 0, [], _, F5, ⟨rfl, rfl, rfl, trivial⟩, N5, .nil, by rw [List.drop_zero]; rfl, rfl, rfl, rfl⟩ ?_ ?_
    · rintro n s' ⟨a, hn, ta, tb, vs, c, pre, m, F7, hm, N7, hI, hlex, g1, g2, g3⟩ Nx Dn Rt hN hD hR
      have F8 := Fr.lays _ hm F7
      dsimp only [ov] at F8
      clear F5 N5 F7
      walk_at "go"
      · rename ((a : Int) < _) => hab
        rename Fr _ _ _ _ => F9
        rename News _ _ _ _ => N9
        refine while_cut (SizJ s gens2 s.heap L D b a) (SizI s gens2 s.heap L D b a (sizeL (b.drop a))) 3
          ⟨.inl rfl, _, _, _, vs, c, pre, _, F9, ⟨rfl, rfl, rfl, rfl, trivial⟩, N9, hI, hlex, g1, g2, g3⟩ ?_ ?_
        · clear F9 N9 hm hI hlex g1 g2 g3
          rintro n s' ⟨hz3, ta, tb, tz, vs, c, pre, m, F7, hm, N7, hI, hlex, g1, g2, g3⟩ Nx2 Dn2 Rt2 hN2 hD2 hR2
          have F8 := Fr.lays _ hm F7
          dsimp only [ov] at F8
          clear F7
          walk_at "go"
          · rename (1 < (n : Int)) => h1
            rename ((tokF _).isSome = true) => ht
            rename Fr _ _ _ _ => F9
            rename News _ _ _ _ => N9
            refine hD2 _ ?_
            rw [sizeL_at hz3 (.inr ht)]
            exact ⟨_, _, _, vs, c, pre, _, F9, ⟨rfl, rfl, rfl, rfl, trivial⟩, N9, hI, hlex, g1, g2, g3⟩
          · rename (1 < (n : Int)) => h1
            rename ((tokF _).isSome = false) => ht
            rename Fr _ _ _ _ => F9
            rename News _ _ _ _ => N9
            have e1 : ((n - 1 : Nat) : Int) = (n : Int) - 1 := by lia
            exact hN2 _ ⟨n - 1, by lia, sizeL_next hz3 (by lia) ht, _, _, _, vs, c, pre, _, F9, ⟨rfl, rfl, rfl, by rw [e1]; rfl, trivial⟩, N9, hI, hlex, g1, g2, g3⟩
          · rename (¬ 1 < (n : Int)) => h1
            refine hD2 _ ?_
            rw [sizeL_at hz3 (.inl (by lia))]
            exact ⟨_, _, _, vs, c, pre, _, F8, ⟨rfl, rfl, rfl, rfl, trivial⟩, N7, hI, hlex, g1, g2, g3⟩
        · clear F9 N9 hm hI hlex g1 g2 g3
          rintro s' ⟨ta, tb, tz, vs, c, pre, m, F7, hm, N7, hI, hlex, g1, g2, g3⟩
          have F8 := Fr.lays _ hm F7
          dsimp only [ov] at F8
          clear F7
          have ed : b.drop a = b[a] :: b.drop (a + 1) := List.drop_eq_getElem_cons (by lia)
          walk_at "go"
          rename Fr _ _ _ _ => F9
          rename News _ _ _ _ => N9
          have es : ((tokF ((b.drop a).take (sizeL (b.drop a)))).map Int.ofNat).getD (256 + (b[a] : Int)) = Int.ofNat (symL (b.drop a)) := by
            have e1 : (b.drop a).headD 0 = b[a] := by rw [ed]; rfl
            unfold symL
            rw [e1]
            cases tokF ((b.drop a).take (sizeL (b.drop a))) with
            | none => rfl
            | some q => rfl
          refine get_tok KX F9.keep fun tg => ?_
          walk_at "go"
          rw [es]
          have hpl : pre.length ≤ 1000 := by
            have e := congrArg List.length hlex
            rw [List.length_append] at e
            have := lexF_length b.length b
            unfold lex at e
            lia
          refine append_I F9 N9 (.head (fun _ h => nomatch h)) hI (by rw [List.length_map]; lia) fun h7 F10 N10 hI10 => ?_
          clear F9 N9
          walk_at "go"
          rename Fr _ _ _ _ => F11
          rename News _ _ _ _ => N11
          have hsp := sizeL_pos (b.drop a)
          have hlex' : lex b = (pre ++ [symL (b.drop a)]) ++ lex (b.drop (a + sizeL (b.drop a))) := by
            rw [hlex, ← List.drop_drop]
            conv => lhs; rw [ed, lex_cons, ← ed]
            simp
          refine hN _ ⟨b.length - (a + sizeL (b.drop a)), by lia, a + sizeL (b.drop a), rfl, _, _, vs ++ [_], c + 1, pre ++ [symL (b.drop a)], _, F11, ⟨rfl, rfl, rfl, trivial⟩, N11, ?_, hlex', g1, g2, g3⟩
          rw [List.map_append]; exact hI10
      · rename (¬ (a : Int) < _) => hab
        exact hD _ ⟨a, by lia, _, _, vs, c, pre, _, F8, ⟨rfl, rfl, rfl, trivial⟩, N7, hI, hlex, g1, g2, g3⟩
    · rintro s' ⟨a, hab, ta, tb, vs, c, pre, m, F7, hm, N7, hI, hlex, g1, g2, g3⟩
      replace hab : b.length ≤ a := by lia
      have F8 := Fr.lays _ hm F7
      dsimp only [ov] at F8
      clear F5 N5 F7
      rw [List.drop_eq_nil_of_le hab, lex_nil, List.append_nil] at hlex
      have hpos := lexF_pos b.length b
      have hpl := lexF_length b.length b
      rw [show lexF b.length b = pre from hlex] at hpos hpl
      rw [hlex] at h
      walk_at "go"
      rename Fr _ _ _ _ => F9
      rename News _ _ _ _ => N9
      refine append_I F9 N9 (.head (fun _ h => nomatch h)) hI (by rw [List.length_map]; lia) fun h7 F10 N10 hI10 => ?_
      clear F9 N9
      walk_at "go"
      rename Fr _ _ _ _ => F9
      rename News _ _ _ _ => N9
      rename_i D2 h8 hDD h9 h10
      have hns : (List.map Int.ofNat pre ++ [0]).length = pre.length + 1 := by simp
      generalize vs ++ [Value.int 0 259] = vA at *
      have hDD' : @Ne Nat D2 D := Nat.ne_of_gt hDD
      refine while_cut (FilJ s gens2 s.heap L D D2 (listOf vA.toArray (c + 1)) pre)
        (FilI s gens2 s.heap L D D2 (listOf vA.toArray (c + 1)) pre pre.length) (pre.length - 0)
        ⟨0, rfl, _, [], 0, _, F9, ⟨rfl, rfl, rfl, trivial⟩, N9, .nil, Nat.zero_le _, g1, g2, g3⟩ ?_ ?_
      · clear F9 N9 g1 g2 g3
        rintro n s' ⟨a, hn, ta, vs2, c2, m, F7, hm, N7, hI2, hal, g1, g2, g3⟩ Nx Dn Rt hN hD hR
        have F8 := Fr.lays _ hm F7
        dsimp only [ov] at F8
        clear F7
        rcases syms_at hal hpos with ⟨ha, hx⟩ | ⟨x, hxa, hx7, hx⟩
        · walk_at "go"
          rw [hx]
          rename Fr _ _ _ _ => F9
          rename News _ _ _ _ => N9
          refine use_iseof KX T F9 N9 (by simp only [depth_deeper]; lia) fun h11 k11 F10 N10 => ?_
          try clear F9 N9
          walk_at "go"
          subst ha
          exact hD _ ⟨_, vs2, c2, _, F10, ⟨rfl, rfl, rfl, trivial⟩, N10, hI2, Nat.le_refl _, g1, g2, g3⟩
        · walk_at "go"
          rw [hx]
          rename Fr _ _ _ _ => F9
          rename News _ _ _ _ => N9
          refine use_iseof KX T F9 N9 (by simp only [depth_deeper]; lia) fun h11 k11 F10 N10 => ?_
          try clear F9 N9
          walk_at "go"
          · exfalso
            rename ((x : Int) = 0) => hx0
            lia
          · rw [hx]
            rename Fr _ _ _ _ => F9
            rename News _ _ _ _ => N9
            refine use_isterm KX T F9 N9 (by simp only [depth_deeper]; lia) fun h12 k12 F11 N11 => ?_
            try clear F9 N9
            have et : terms (pre.take (a + 1)) = if x < 256 then terms (pre.take a) ++ [x] else terms (pre.take a) := by rw [take_one hxa, terms_snoc]
            have hal' : a < pre.length := (List.getElem?_eq_some_iff.mp hxa).1
            walk_at "go"
            · rename ((x : Int) < 256) => hx2
              rw [if_pos (by lia)] at et
              rw [hx]
              rename Fr _ _ _ _ => F9
              rename News _ _ _ _ => N9
              have htl : (terms (pre.take a)).length ≤ 1000 := by
                have h1 : (terms (pre.take a)).length ≤ (pre.take a).length := List.length_filter_le ..
                rw [List.length_take] at h1
                lia
              refine append_I F9 N9 (.head fun p hp => by rw [List.mem_singleton] at hp; subst hp; exact Ne.symm hDD') hI2 (by rw [List.length_map]; lia) fun h13 F12 N12 hI12 => ?_
              try clear F9 N9
              walk_at "go"
              rename Fr _ _ _ _ => F13
              rename News _ _ _ _ => N13
              refine hN _ ⟨pre.length - (a + 1), by rw [hn]; exact n_step hal', a + 1, rfl, _, _, _, _, F13, ⟨rfl, rfl, rfl, trivial⟩, N13, ?_, hal', g1, g2, g3⟩
              rw [et, List.map_append]; exact hI12
            · rename (¬ (x : Int) < 256) => hx2
              rw [if_neg (by lia)] at et
              rename Fr _ _ _ _ => F13
              rename News _ _ _ _ => N13
              refine hN _ ⟨pre.length - (a + 1), by rw [hn]; exact n_step hal', a + 1, rfl, _, vs2, c2, _, F13, ⟨rfl, rfl, rfl, trivial⟩, N13, ?_, hal', g1, g2, g3⟩
              rw [et]; exact hI2
      · rintro s' ⟨ta, vs2, c2, m, F7, hm, N7, hI2, hal, g1, g2, g3⟩
        have F8 := Fr.lays _ hm F7
        dsimp only [ov] at F8
        clear F7
        rw [List.take_length] at hI2
        walk_at "go"
        rename Fr _ _ _ _ => F9
        rename News _ _ _ _ => N9
        exact h D2 vs2 c2 _ ⟨F9.keep, fun q => by rw [show _ = gens2 from g1]; exact hb2 (hb1 q), g2, g3⟩ (N9 _ (.head _)).2.2 (N9 _ (.head _)).1 hI2
end Mine
end
section -- S7
open PySem PySem.W PyProof.Rows PySem.Calls
set_option maxRecDepth 100000
set_option maxHeartbeats 4000000
namespace Mine
noncomputable def clStep (z : Int × Int) (k : Int) : Int × Int :=
  (z.1 + (if k = 0 then 1 else 0) - (if k = 1 then 1 else 0), min z.2 (z.1 + (if k = 0 then 1 else 0) - (if k = 1 then 1 else 0)))
noncomputable def clAll (ks : List Int) : Int × Int := ks.foldl clStep (0, 0)
theorem clAll_snoc (ks : List Int) (k : Int) : clAll (ks ++ [k]) = clStep (clAll ks) k := by unfold clAll; rw [List.foldl_append]; rfl
noncomputable def closedF (ks : List Int) : Bool := (clAll ks).1 == 0 && (clAll ks).2 == 0
inductive ClP (ks : List Int) (j : Nat) (m : Str → Option Value) (news : List (Addr × Obj)) : Prop
  | mk (h lo : Int) (th tl : Tok) (f1 : clAll (ks.take j) = (h, lo)) (f2 : Has m [(nm "height", .int h th), (nm "lowest", .int lo tl)]) (f3 : news = []) (f4 : -(j : Int) ≤ h) (f5 : h ≤ j)
theorem closed_spec {w : World} {mean mg mb} {A : Around} {s : Shared} (G : Gd w mean mg mb s.heap) (hroom : A.depth + 20 < recursionLimit) (hh : A.handled = none)
   {l : Addr} {vs : List Value} {n : Nat} {ks : List Int} {R : Result → Shared → Prop} (hl : s.heap.get? l = some (listOf vs.toArray n)) (hI : IntsAre vs ks) (hz : ks.length ≤ 100)
   (h : ∀ s', Grown s s' → R (.ok (.ret (.bool (closedF ks)))) s') :
   codeAny (model PP w) A (.call (.ref 99) ⟨[.ref l], []⟩) R s := by
  obtain ⟨hd', dep, frs, gds, uns⟩ := A
  cases hh
  refine spec_def G rfl rfl (by dsimp only at hroom ⊢; lia) (binds := [(nm "row", .ref l)]) (BindsTo.of_eq rfl) (locs rfl) ?_
  intro L h₁ F N
  obtain ⟨KX, T⟩ := G
  walk_at "go 8"
  refine wpAny_For ?_
  walk_at "go 8"
  rename Fr _ _ _ _ => F1
  rename News _ _ _ _ => N1
  have hlen := hI.length
  refine loop_list rfl F1 N1 hl (ClP ks) ⟨0, 0, _, _, rfl, ⟨rfl, rfl, trivial⟩, rfl, by simp, by simp⟩ ?_ ?_
  · rintro i v m' news' I oI h2 tk2 hv ⟨ht, lo, th, tl, he, hm, rfl, b1, b2⟩ - hlt F2 N2 Nx Qn hN hQ
    rw [← ov_eq hm] at F2
    dsimp only [ov] at F2
    obtain ⟨k, t, hk, rfl⟩ := intsAre_get hI hv
    have ez : clAll (ks.take (i + 1)) = clStep (ht, lo) k := by rw [List.take_add_one, hk]; show clAll (ks.take i ++ [k]) = _; rw [clAll_snoc, he]
    have hi : i < ks.length := (List.getElem?_eq_some_iff.mp hk).1
    clear F1 N1
    walk_at "go 8"
    all_goals
      rename Fr _ _ _ _ => F5
      rename News _ _ _ _ => N5
      refine hN _ ⟨_, [], F5, N5, (fun _ h => nomatch h), ⟨_, _, _, _, ?e, ⟨rfl, rfl, trivial⟩, rfl, ?b1, ?b2⟩, rfl, rfl, rfl⟩
      case e =>
        rw [ez]
        unfold clStep
        simp only [Prod.mk.injEq]
        refine ⟨?_, ?_⟩ <;> (repeat' split) <;> lia
      case b1 => push_cast; lia
      case b2 => push_cast; lia
  · rintro m' news' h2 tk2 ⟨ht, lo, th, tl, he, hm, rfl, b1, b2⟩ - F2 N2
    rw [← ov_eq hm] at F2
    dsimp only [ov] at F2
    rw [hlen, List.take_length] at he
    clear F1 N1
    walk_at "go 8"
    · rename (ht = 0) => h0
      have e : closedF ks = (lo == 0) := by unfold closedF; rw [he, h0]; simp
      rw [e] at h
      exact h _ ⟨F2.keep, rfl, rfl, rfl⟩
    · rename (ht ≠ 0) => h0
      have e : closedF ks = (ht == 0) := by unfold closedF; rw [he]; simp [h0]
      rw [e] at h
      exact h _ ⟨F2.keep, rfl, rfl, rfl⟩
end Mine
end
section -- L1
open PySem PySem.W PyProof.Rows PySem.Calls
set_option maxRecDepth 100000
set_option maxHeartbeats 4000000
namespace Mine
theorem spec_cells {w : World} {mean mg mb} {A : Around} {s : Shared} {R : Result → Shared → Prop} {name qual : Str} {params : Arguments} {body : List Stmt} {scope : Scope} {dV kV doc pm cdv ct oc : Value} {an od : Option Addr} {osl : Array (Option Value)} {f : Addr} {args : Args} {binds : List (Str × Value)}
    (G : Gd w mean mg mb s.heap)
    (ho : (hq.heap_1 w.params).lookup f = some ⟨oc, od, .func (fnOf name qual params body scope dV kV doc pm an cdv ct), osl⟩) (hcd : codeIn (hq.heap_1 w.params) cdv qual = true) (hroom : A.depth < recursionLimit)
    (hbind : BindsTo s (fnOf name qual params body scope dV kV doc pm an cdv ct) args binds)
    (hkind : ∀ n, ∀ x ∈ binds, scope.names.lookup x.1 = some .local ∨ (scope.names.lookup x.1 = some .cell ∧ ((cellsFrom n scope.names []).lookup x.1).isSome = true))
    (hnd : ((cellsFrom 0 scope.names []).map (·.1)).Nodup)
    (h : ∀ h₁ tk cells, Fr s.heap s.heap.objs.size h₁ (bindL (envOfC qual scope s.heap.objs.size f cdv).kindOf binds fun _ => none) → News s.heap s.heap.objs.size h₁ cells →
      CellsAre (bindC (envOfC qual scope s.heap.objs.size f cdv).kindOf binds fun _ => none) (cellsFrom (s.heap.objs.size + 1) scope.names []) cells →
      wpAny (model PP w) (A.deeper (envOfC qual scope s.heap.objs.size f cdv)) (execs body (envOfC qual scope s.heap.objs.size f cdv))
        (fun fl s' => R (.ok (.ret (match fl with | .ret v => v | _ => .none))) s') (fun _ _ => False)
        { s with heap := h₁, toks := tk })
    (hco : scope.isCoroutine = false := by rfl) (hgen : scope.isGenerator = false := by rfl) (hk : scope.kind = .function := by rfl) : codeAny (model PP w) A (.call (.ref f) args) R s := by
  refine codeAny_call_function hroom (G.KX f _ ho) rfl hco hgen rfl (codeRec_of G.KX hcd) (hbind _ _ _ _ ?_)
  refine wpAny_newFunctionEnv_cells hk (hkind _) fun env' he s' x => ?_
  subst he
  refine ⟨(G.T.nolimit).keeps x.toInCall.keep, codeAny_func ?_⟩
  obtain ⟨h₁, tk, rfl, _⟩ := x.done
  have hk₁ := x.toInCall.keep
  obtain ⟨cells, NC, Y⟩ := Cl.news (h₀ := s.heap) (Nat.le_refl _) fun n c hm => ⟨x.cell n c (lookup_of_mem_nodup (cellsFrom_names scope.names 0 (s.heap.objs.size + 1) [] [] rfl ▸ hnd) hm), x.above n c hm⟩
  exact wpAny_mono (h h₁ tk cells ⟨x.toInCall.ns, hk₁, Nat.le_refl _⟩ NC Y) (fun fl s' hl => hl) fun _ _ y => y.elim
end Mine
end
section -- P8
set_option maxRecDepth 100000
namespace Mine
noncomputable def VEILS : List (List Nat) := [[], [92, 40], [92, 34], [34, 41, 34], [34, 92, 34, 40, 34]]
noncomputable def BVEILS : List (List Nat) := [[], [92, 40], [92, 34], [], []]
noncomputable def blk (r : Nat × Nat) : List Nat := OPS.getD r.1 [] ++ VEILS.getD r.2 [] ++ [32]
noncomputable def bblk (r : Nat × Nat) : List Nat := OPS.getD r.1 [] ++ BVEILS.getD r.2 [] ++ [32]
noncomputable def txt (rs : List (Nat × Nat)) : List Nat := (rs.map blk).flatten
noncomputable def btxt (rs : List (Nat × Nat)) : List Nat := (rs.map bblk).flatten
noncomputable def OkR (rs : List (Nat × Nat)) : Prop := ∀ r ∈ rs, r.1 < 48 ∧ r.2 < 5
theorem op_plain : ∀ p, p < 48 → ∀ c ∈ OPS.getD p [], c ≠ 92 ∧ c ≠ 34 ∧ c ≠ 32 ∧ c < 128 := by decide +kernel
theorem op_par : ∀ p, p < 48 → p ≠ 0 → p ≠ 1 → ∀ c ∈ OPS.getD p [], c ≠ 40 ∧ c ≠ 41 := by decide +kernel
theorem op_tok : ∀ p, p < 48 → tokF (OPS.getD p []) = some (p + 7) ∧ 1 ≤ (OPS.getD p []).length ∧ (OPS.getD p []).length ≤ 3 := by decide +kernel
theorem tok_blank : ∀ r ∈ TOK, 32 ∉ r.1 := by decide +kernel
theorem tokF_blank {u : List Nat} (h : 32 ∈ u) : tokF u = none := by
  unfold tokF
  rw [Option.map_eq_none_iff, List.find?_eq_none]
  intro r hr e
  rw [beq_iff_eq] at e
  exact tok_blank r hr (e ▸ h)
theorem unitsAt_plains (r : List Nat) : ∀ (u : List Nat) (i : Nat), (∀ c ∈ u, c ≠ 92) → ∃ ys, unitsAt i (u ++ r) = ys ++ unitsAt (i + u.length) r ∧ ys.map (·.2) = u.map fun c => [c]
  | [], i, _ => ⟨[], rfl, rfl⟩
  | c :: u, i, h => by
    obtain ⟨ys, e1, e2⟩ := unitsAt_plains r u (i + 1) fun x hx => h x (.tail _ hx)
    refine ⟨(i, [c]) :: ys, ?_, by rw [List.map_cons, List.map_cons, e2]⟩
    rw [List.cons_append, unitsAt_plain i c _ (h c (.head _)), e1, List.length_cons, List.cons_append]
    congr 3; lia
theorem slc_split {l : List Nat} {i j k : Nat} (h1 : i ≤ j) (h2 : j ≤ k) : slc l i k = slc l i j ++ slc l j k := by
  unfold slc
  have e : l.drop j = (l.drop i).drop (j - i) := by rw [List.drop_drop]; congr 1; lia
  rw [e, show k - i = (j - i) + (k - j) by rw [Nat.add_comm]; exact (Nat.sub_add_sub_cancel h2 h1).symm, List.take_add]
theorem slc_at {l a b : List Nat} {i : Nat} (h : l.drop i = a ++ b) : slc l i (i + a.length) = a ∧ l.drop (i + a.length) = b := by
  unfold slc
  rw [Nat.add_sub_cancel_left, ← List.drop_drop, h]
  exact ⟨List.take_left, List.drop_left⟩
theorem drop_lt {l b : List Nat} {i a : Nat} (h : l.drop i = a :: b) : i < l.length :=
  Nat.lt_of_not_le fun h' => by rw [List.drop_eq_nil_of_le h'] at h; cases h
theorem fold_id {l : List Nat} {z : Nat × Option Nat × List (List Nat)} : ∀ (ys : List (Nat × List Nat)), (∀ y ∈ ys, y.2 ≠ [34]) → ys.foldl (stStep l) z = z
  | [], _ => rfl
  | y :: ys, h => by
    rw [List.foldl_cons]
    have e : stStep l z y = z := by unfold stStep; rw [if_neg (h y (.head _))]
    rw [e]; exact fold_id ys fun y hy => h y (.tail _ hy)
theorem fold_plain {l : List Nat} {z : Nat × Option Nat × List (List Nat)} {ys : List (Nat × List Nat)} {u : List Nat} (e : ys.map (·.2) = u.map fun c => [c]) (h : ∀ c ∈ u, c ≠ 34) : ys.foldl (stStep l) z = z := by
  refine fold_id ys fun y hy e34 => ?_
  have : y.2 ∈ u.map fun c => [c] := e ▸ List.mem_map_of_mem hy
  obtain ⟨c, hc, ec⟩ := List.mem_map.mp this
  rw [e34] at ec
  exact h c hc (by injection ec)
theorem getD_lt5 {q : Nat} (h : q < 5) : q = 0 ∨ q = 1 ∨ q = 2 ∨ q = 3 ∨ q = 4 := by lia
/-- what the stripping holds at the place i -/
noncomputable def StAt (l : List Nat) (i start : Nat) (rl : List (List Nat)) (B : List Nat) : Prop := start ≤ i ∧ rl.flatten ++ slc l start i = B
theorem StAt.more {l B u : List Nat} {i j start : Nat} {rl : List (List Nat)} (h : StAt l i start rl B) (hj : i ≤ j) (e : slc l i j = u) : StAt l j start rl (B ++ u) :=
  ⟨Nat.le_trans h.1 hj, by rw [slc_split h.1 hj, ← List.append_assoc, h.2, e]⟩
theorem slc_none (l : List Nat) (j : Nat) : slc l j j = [] := by unfold slc; rw [Nat.sub_self]; rfl
theorem StAt.cut {l B : List Nat} {i start : Nat} {rl : List (List Nat)} (h : StAt l i start rl B) (j : Nat) : StAt l j j (if start = i then rl else rl ++ [slc l start i]) B := by
  refine ⟨Nat.le_refl _, ?_⟩
  rw [slc_none, List.append_nil, ← h.2]
  split
  · rename_i e
    rw [e, slc_none, List.append_nil]
  · rw [List.flatten_append, List.flatten_singleton]
theorem txt_cons (r : Nat × Nat) (rs : List (Nat × Nat)) : txt (r :: rs) = OPS.getD r.1 [] ++ (VEILS.getD r.2 [] ++ ([32] ++ txt rs)) := by
  unfold txt; rw [List.map_cons, List.flatten_cons]; unfold blk; rw [List.append_assoc, List.append_assoc]
theorem btxt_cons (r : Nat × Nat) (rs : List (Nat × Nat)) : btxt (r :: rs) = OPS.getD r.1 [] ++ (BVEILS.getD r.2 [] ++ ([32] ++ btxt rs)) := by
  unfold btxt; rw [List.map_cons, List.flatten_cons]; unfold bblk; rw [List.append_assoc, List.append_assoc]
/-- a veil either stays, or its marks are cut out -/
theorem veil_step (l r : List Nat) {q : Nat} (hq : q < 5) :
    (BVEILS.getD q [] = VEILS.getD q [] ∧ ∀ i z, (unitsAt i (VEILS.getD q [] ++ ([32] ++ r))).foldl (stStep l) z = (unitsAt (i + (VEILS.getD q []).length) ([32] ++ r)).foldl (stStep l) z) ∨
    (BVEILS.getD q [] = [] ∧ ∀ i a b, (unitsAt i (VEILS.getD q [] ++ ([32] ++ r))).foldl (stStep l) (a, none, b) = (unitsAt (i + (VEILS.getD q []).length) ([32] ++ r)).foldl (stStep l) (i + (VEILS.getD q []).length, none, if a = i then b else b ++ [slc l a i])) := by
  rcases getD_lt5 hq with rfl | rfl | rfl | rfl | rfl
  · exact .inl ⟨rfl, fun i z => rfl⟩
  · refine .inl ⟨rfl, fun i z => ?_⟩
    show (unitsAt i (92 :: 40 :: (32 :: r))).foldl _ _ = _
    rw [unitsAt_esc]; rfl
  · refine .inl ⟨rfl, fun i z => ?_⟩
    show (unitsAt i (92 :: 34 :: (32 :: r))).foldl _ _ = _
    rw [unitsAt_esc]; rfl
  · refine .inr ⟨rfl, fun i a b => ?_⟩
    show (unitsAt i (34 :: 41 :: 34 :: (32 :: r))).foldl _ _ = _
    rw [unitsAt_plain _ 34 _ (by decide), unitsAt_plain _ 41 _ (by decide), unitsAt_plain _ 34 _ (by decide)]
    rfl
  · refine .inr ⟨rfl, fun i a b => ?_⟩
    show (unitsAt i (34 :: 92 :: 34 :: 40 :: 34 :: (32 :: r))).foldl _ _ = _
    rw [unitsAt_plain _ 34 _ (by decide), unitsAt_esc, unitsAt_plain _ 40 _ (by decide), unitsAt_plain _ 34 _ (by decide)]
    rfl
theorem fold_32 {l r : List Nat} (i : Nat) (z : Nat × Option Nat × List (List Nat)) : (unitsAt i ([32] ++ r)).foldl (stStep l) z = (unitsAt (i + 1) r).foldl (stStep l) z := by
  show (unitsAt i (32 :: r)).foldl _ _ = _
  rw [unitsAt_plain i 32 _ (by decide), List.foldl_cons]
  rfl
/-- the stripping over the blocks -/
theorem st_blocks {l : List Nat} (rs : List (Nat × Nat)) : ∀ (i start : Nat) (rl : List (List Nat)) (B : List Nat), OkR rs → i ≤ l.length → l.drop i = txt rs → StAt l i start rl B →
    ∃ start' rl', (unitsAt i (txt rs)).foldl (stStep l) (start, none, rl) = (start', none, rl') ∧ StAt l l.length start' rl' (B ++ btxt rs) := by
  induction rs with
  | nil =>
    intro i start rl B _ hi hd hS
    have e : l.length = i := Nat.le_antisymm (List.drop_eq_nil_iff.mp hd) hi
    rw [e]
    exact ⟨start, rl, by show (unitsAt i []).foldl _ _ = _; rw [unitsAt_nil]; rfl, by show StAt l i start rl (B ++ []); rw [List.append_nil]; exact hS⟩
  | cons r rs ih =>
    intro i start rl B hok _ hd hS
    obtain ⟨hp, hq⟩ := hok r (.head _)
    rw [txt_cons] at hd ⊢
    obtain ⟨o1, o2⟩ := slc_at hd
    obtain ⟨v1, v2⟩ := slc_at o2
    obtain ⟨w1, w2⟩ := slc_at v2
    have hle := drop_lt v2
    obtain ⟨ys, e1, e2⟩ := unitsAt_plains (VEILS.getD r.2 [] ++ ([32] ++ txt rs)) (OPS.getD r.1 []) i fun c hc => (op_plain _ hp c hc).1
    rw [e1, List.foldl_append, fold_plain e2 fun c hc => (op_plain _ hp c hc).2.1, btxt_cons, ← List.append_assoc B, ← List.append_assoc _ (BVEILS.getD r.2 []), ← List.append_assoc _ [32] (btxt rs)]
    clear e1 e2 hd o2 v2
    have hS1 := hS.more (Nat.le_add_right _ _) o1
    rcases veil_step l (txt rs) hq with ⟨b, g⟩ | ⟨b, g⟩
    · rw [g, b, fold_32]
      exact ih _ _ _ _ (fun r hr => hok r (.tail _ hr)) hle w2 ((hS1.more (Nat.le_add_right _ _) v1).more (Nat.le_add_right _ _) w1)
    · rw [g, b, fold_32, List.append_nil]
      exact ih _ _ _ _ (fun r hr => hok r (.tail _ hr)) hle w2 ((hS1.cut _).more (Nat.le_add_right _ _) w1)
theorem strip_txt {rs : List (Nat × Nat)} (hok : OkR rs) : stripF (txt rs) = btxt rs := by
  unfold stripF
  split
  · obtain ⟨s', r', g1, g2, g3⟩ := st_blocks (l := txt rs) rs 0 0 [] [] hok (Nat.zero_le _) rfl ⟨Nat.le_refl _, rfl⟩
    have e : stAll (txt rs) (unitsAt 0 (txt rs)) = (s', none, r') := g1
    rw [e]
    dsimp only
    rw [List.nil_append] at g3
    rw [← g3, List.flatten_append]
    congr 1
    unfold slc
    rw [List.take_of_length_le (by rw [List.length_drop]; exact Nat.le_refl _)]
    split
    · simp
    · rw [List.drop_eq_nil_of_le (by lia)]; rfl
  · rename_i h34
    unfold txt btxt
    congr 1
    refine List.map_congr_left fun r hr => ?_
    obtain ⟨h1, h2⟩ := hok r hr
    have hno : 34 ∉ blk r := fun hm => h34 (List.mem_flatten.mpr ⟨_, List.mem_map_of_mem hr, hm⟩)
    unfold blk bblk at *
    rcases getD_lt5 h2 with e | e | e | e | e <;> rw [e] at hno ⊢
    · rfl
    · rfl
    · exact absurd (List.mem_append_left _ (List.mem_append_right _ (by decide))) hno
    · exact absurd (List.mem_append_left _ (List.mem_append_right _ (by decide))) hno
    · exact absurd (List.mem_append_left _ (List.mem_append_right _ (by decide))) hno
end Mine
end
section -- C1
open PySem PySem.W PyProof.Rows PySem.Calls
set_option maxRecDepth 100000
set_option maxHeartbeats 4000000
namespace Mine
theorem nameC_any {M : Model} {A : Around} {E : Value → Shared → Prop} {s : Shared} {h₀ : Heap} {C : Addr} {news : List (Addr × Obj)}
    {x : Str} {pos : Pos} {v : Value} {Q : Value → Shared → Prop} {env : Env} {c : Addr} {o : Obj} (N : News h₀ C s.heap news) (hc : env.cells.lookup x = some c) (hm : (c, o) ∈ news) (hd : o.data = .cell (some v)) (h : Q v s)
    (hk : env.scope.kind = .function) (hx : env.kindOf x = some .cell) (hb : (x == ("__debug__" : Str)) = false) :
    wpAny M A (eval (.Name x pos) env) Q E s := wpAny_Name (wpAny_loadName_cell hk hx hc ⟨o, N.get hm, hd⟩ h) hb
noncomputable def rowK (ks ns : List Int) (k : Int) : Int := ks.getD (ns.getD (k + 1).toNat 0 % 4).toNat 0
noncomputable def rowF (ks ns : List Int) (cnt : Nat) : List Int := (rangeInts 0 1 cnt).map (rowK ks ns)
noncomputable def blockK (ks ns : List Int) (k : Int) : List Nat := OPS.getD (rowK ks ns k).toNat [] ++ VEILS.getD (ns.getD (k + 1).toNat 0 / 4 % 5).toNat [] ++ [32]
theorem getD_S (l : List (List Nat)) (i : Nat) : (l.map S).getD i (S []) = S (l.getD i []) := by
  rw [List.getD_eq_getElem?_getD, List.getD_eq_getElem?_getD, List.getElem?_map]
  cases l[i]? <;> rfl
theorem row_length (ks ns : List Int) (cnt : Nat) : (rowF ks ns cnt).length = cnt := by unfold rowF; rw [List.length_map, rangeInts_length]
theorem row_getD {ks ns : List Int} {cnt : Nat} {a : Int} (h : 0 ≤ a ∧ a < cnt) : (rowF ks ns cnt).getD a.toNat 0 = rowK ks ns a := by
  have e : (rangeInts 0 1 cnt)[a.toNat]? = some a := by rw [rangeInts_get (by lia)]; congr 1; lia
  unfold rowF
  rw [List.getD_eq_getElem?_getD, List.getElem?_map, e]; rfl
theorem ops_len (i : Nat) : (OPS.getD i []).length ≤ 3 := by
  by_cases h : i < 48
  · have : ∀ i, i < 48 → (OPS.getD i []).length ≤ 3 := by decide +kernel
    exact this i h
  · rw [List.getD_eq_getElem?_getD, List.getElem?_eq_none (by show 48 ≤ i; lia)]; exact Nat.zero_le _
theorem veils_len (i : Nat) : (VEILS.getD i []).length ≤ 5 := by
  by_cases h : i < 5
  · have : ∀ i, i < 5 → (VEILS.getD i []).length ≤ 5 := by decide +kernel
    exact this i h
  · rw [List.getD_eq_getElem?_getD, List.getElem?_eq_none (by show 5 ≤ i; lia)]; exact Nat.zero_le _
noncomputable def blocksF (ks ns : List Int) (cnt : Nat) : List (List Nat) := (rangeInts 0 1 cnt).map (blockK ks ns)
theorem block_len (ks ns : List Int) (k : Int) : (blockK ks ns k).length ≤ 9 := by
  unfold blockK
  have a := ops_len (rowK ks ns k).toNat
  have b := veils_len (ns.getD (k + 1).toNat 0 / 4 % 5).toNat
  simp only [List.length_append, List.length_cons, List.length_nil]
  lia
theorem sum9_le : ∀ {ls : List (List Nat)}, (∀ x ∈ ls, x.length ≤ 9) → (ls.map List.length).sum ≤ 9 * ls.length
  | [], _ => Nat.le_refl _
  | x :: r, h => by
    have a := h x (.head _)
    have b := sum9_le (ls := r) fun y hy => h y (.tail _ hy)
    simp only [List.map_cons, List.sum_cons, List.length_cons]
    lia
theorem blocks_sum (ks ns : List Int) (cnt : Nat) : ((blocksF ks ns cnt).map List.length).sum ≤ 9 * cnt := by
  have := sum9_le (ls := blocksF ks ns cnt) fun x hx => by
    obtain ⟨k, _, rfl⟩ := List.mem_map.mp hx
    exact block_len ks ns k
  have e : (blocksF ks ns cnt).length = cnt := by unfold blocksF; rw [List.length_map, rangeInts_length]
  rwa [e] at this
/-- the hidden word -/
noncomputable def hid (ks : List Int) : List Nat := (ks.map fun k => [(k + 7).toNat]).flatten
theorem ints_areOf {vs : List Value} {ks : List Int} (h : IntsAre vs ks) : AreOf .int vs ks := by
  induction h with
  | nil => exact .nil
  | cons n t _ ih => exact .cons ⟨t, rfl⟩ ih
section
variable {w : World} {A : Around} {s : Shared} {h₀ : Heap} {L : Addr} {m : Str → Option Value} {news : List (Addr × Obj)} {E : Value → Shared → Prop} {env : Env} {scope : Scope} {x : Str} {px pos : Pos} {elt iter : Expr} {cl : List (Str × Addr)} {Q : Value → Shared → Prop} {d : Int → PyData}
theorem news_in {h h₂ : Heap} {C : Addr} (F : Fr h₀ L h m) (N : News h₀ L h news) (hC : h.objs.size ≤ C) (k : ∀ b o, h.get? b = some o → h₂.get? b = some o) : News h₀ C h₂ news := fun p hp =>
  ⟨k _ _ (N p hp).1, fun e => by have := Heap.lt_size (N p hp).1; rw [e] at this; exact absurd this (Nat.not_lt.mpr hC), (N p hp).2.2⟩
theorem fr_in {h h₂ : Heap} {C : Addr} {m₂ : Str → Option Value} (F : Fr h₀ L h m) (hC : h.objs.size ≤ C) (hn : h₂.Ns C m₂) (k : ∀ b o, h.get? b = some o → h₂.get? b = some o) : Fr h₀ C h₂ m₂ :=
  ⟨hn, fun b o e => k b o (F.keep b o e), Nat.le_trans F.above (Nat.le_trans (Nat.le_of_lt F.ns.lt) hC)⟩
theorem news_out {h' : Heap} {D : Addr} {ys : List Value} (F : Fr h₀ L h' m) (N : News h₀ L h' news) (h0 : h₀.get? D = none) (hP : NewPlain h' news D ys.toArray) : ∃ k, News h₀ L h' ((D, listOf ys.toArray k) :: news) := by
  have hL := hP.ne_locals F
  obtain ⟨⟨k, e⟩, _⟩ := hP
  exact ⟨k, fun p hp => by
    rcases List.mem_cons.mp hp with rfl | hp
    · exact ⟨e, hL, h0⟩
    · exact N p hp⟩
theorem comp_range {n : Nat} (_ : Fr h₀ L s.heap m) (_ : News h₀ L s.heap news) (hh : A.handled = none) (hclos : closureFor scope env = pure cl) (hcell : ∀ y ∈ scope.names, y.2 ≠ .cell) (hkind : scope.kind = .function)
    (hnames : ∀ y ∈ scope.names, y.2 = .local → scope.names.lookup y.1 = some .local) (hx : scope.names.lookup x = some .local) (hz : n ≤ 1000)
    (hit : ∀ It : Value → Shared → Prop, (∀ r t u v h tk, IsRange h r 0 (n : Int) 1 t u v → Fr h₀ L h m → News h₀ L h news → It (.ref r) { s with heap := h, toks := tk }) → wpAny (model PP w) A (eval iter env) It E s)
    (helt : ∀ C a ta hp gs dr tk os m₂ E' (El : Value → Shared → Prop), (0 ≤ a ∧ a < (n : Int)) → Fr h₀ C hp m₂ → m₂ x = some (.int a ta) → News h₀ C hp news → (∀ y tk', Carried y (d a) → El y ⟨hp, gs, dr, tk', os⟩) →
      wpAny (model PP w) A (eval elt (compEnvC scope cl C env)) El E' ⟨hp, gs, dr, tk, os⟩)
    (hQ : ∀ D ys k h' tk, Fr h₀ L h' m → News h₀ L h' ((D, listOf (List.toArray ys) k) :: news) → (∀ p ∈ news, p.1 ≠ D) → CarriedAll ys ((rangeInts 0 1 n).map d) → Q (.ref D) { s with heap := h', toks := tk })
    (hs : ∀ x, foldedSetIterable iter env x = pure x := by intro _; rfl) :
    wpAny (model PP w) A (eval (.ListComp elt [⟨.Name x px, iter, [], 0⟩] scope pos) env) Q E s := by
  refine ListComp_DCr (h₀ := h₀) (L := L) (m := m) (pz := fun _ => true) (d := d) hh hclos hcell hkind hnames hx (hit _ fun r t u v h tk hr F N => ?_) hs
  refine ⟨news, r, 0, n, 1, t, u, v, n, rfl, hr, small_one (by decide) (by decide) (by lia) (by lia), by rw [rangeSize_nat]; simp, by rw [sizeLine_eq]; lia, F, N, ?_, ?_, ?_⟩
  · intro C a v s₂ m₂ E' _ _ _ _ _ k
    exact wpAny_tests_nil ⟨rfl, s₂.heap, s₂.toks, rfl, fun _ _ e => e⟩
  · intro C a v s₂ m₂ E' hC ha hv _ hn hm k
    obtain ⟨ta, rfl⟩ := hv
    have := mem_rangeInts ha
    obtain ⟨hp2, gs2, dr2, tk2, os2⟩ := s₂
    exact helt C a ta hp2 gs2 dr2 tk2 os2 m₂ E' _ ⟨this.1, by lia⟩ (fr_in F hC hn k) hm (news_in F N hC k) fun y tk' hy => ⟨hy, hp2, tk', rfl, fun _ _ e => e⟩
  · intro D ys h' tk' F' N' h0 _ hP hc
    obtain ⟨k, N''⟩ := news_out F' N' h0 hP
    rw [List.filter_eq_self.mpr (fun _ _ => rfl)] at hc
    exact hQ D ys k h' tk' F' N'' hP.2 hc
theorem comp_ints {ks : List Int} (_ : Fr h₀ L s.heap m) (_ : News h₀ L s.heap news) (hh : A.handled = none) (hclos : closureFor scope env = pure cl) (hcell : ∀ y ∈ scope.names, y.2 ≠ .cell) (hkind : scope.kind = .function)
    (hnames : ∀ y ∈ scope.names, y.2 = .local → scope.names.lookup y.1 = some .local) (hx : scope.names.lookup x = some .local) (hz : ks.length ≤ 1000)
    (hit : ∀ It : Value → Shared → Prop, (∀ ax vs h tk, h.IsList ax (List.toArray vs) → IntsAre vs ks → Fr h₀ L h m → News h₀ L h news → It (.ref ax) { s with heap := h, toks := tk }) → wpAny (model PP w) A (eval iter env) It E s)
    (helt : ∀ C a ta hp gs dr tk os m₂ E' (El : Value → Shared → Prop), a ∈ ks → Fr h₀ C hp m₂ → m₂ x = some (.int a ta) → News h₀ C hp news → (∀ y tk', Carried y (d a) → El y ⟨hp, gs, dr, tk', os⟩) →
      wpAny (model PP w) A (eval elt (compEnvC scope cl C env)) El E' ⟨hp, gs, dr, tk, os⟩)
    (hQ : ∀ D ys k h' tk, Fr h₀ L h' m → News h₀ L h' ((D, listOf (List.toArray ys) k) :: news) → (∀ p ∈ news, p.1 ≠ D) → CarriedAll ys (ks.map d) → Q (.ref D) { s with heap := h', toks := tk })
    (hs : ∀ x, foldedSetIterable iter env x = pure x := by intro _; rfl) :
    wpAny (model PP w) A (eval (.ListComp elt [⟨.Name x px, iter, [], 0⟩] scope pos) env) Q E s := by
  refine ListComp_DCn (K := .int) (h₀ := h₀) (L := L) (m := m) (pz := fun _ => true) (d := d) hh hclos hcell hkind hnames hx (hit _ fun ax vs h tk hl hi F N => ?_) hs
  refine ⟨news, ax, vs, ks, rfl, hl, ints_areOf hi, by rw [sizeLine_eq]; lia, F, N, ?_, ?_, ?_⟩
  · intro C a v s₂ m₂ E' _ _ _ _ _ k
    exact wpAny_tests_nil ⟨rfl, s₂.heap, s₂.toks, rfl, fun _ _ e => e⟩
  · intro C a v s₂ m₂ E' hC ha hv _ hn hm k
    obtain ⟨ta, rfl⟩ := hv
    obtain ⟨hp2, gs2, dr2, tk2, os2⟩ := s₂
    exact helt C a ta hp2 gs2 dr2 tk2 os2 m₂ E' _ ha (fr_in F hC hn k) hm (news_in F N hC k) fun y tk' hy => ⟨hy, hp2, tk', rfl, fun _ _ e => e⟩
  · intro D ys h' tk' F' N' h0 _ hP hc
    obtain ⟨k, N''⟩ := news_out F' N' h0 hP
    rw [List.filter_eq_self.mpr (fun _ _ => rfl)] at hc
    exact hQ D ys k h' tk' F' N'' hP.2 hc
end
end Mine
end
section -- P8b
set_option maxRecDepth 100000
namespace Mine
/-- the units of one sign -/
noncomputable def uno (ys : List (Nat × List Nat)) : List Nat := ((ys.map (·.2)).filter fun u => u.length == 1).flatten
theorem uno_plain {ys : List (Nat × List Nat)} {u : List Nat} (r : List (Nat × List Nat)) (e : ys.map (·.2) = u.map fun c => [c]) : uno (ys ++ r) = u ++ uno r := by
  have hf : ∀ l : List Nat, ((l.map fun c => [c]).filter fun u => u.length == 1).flatten = l := by
    intro l
    induction l with
    | nil => rfl
    | cons c l ih => rw [List.map_cons, List.filter_cons_of_pos rfl, List.flatten_cons, ih]; rfl
  unfold uno
  rw [List.map_append, List.filter_append, List.flatten_append, e, hf]
theorem bveil_cases {q : Nat} (hq : q < 5) : BVEILS.getD q [] = [] ∨ BVEILS.getD q [] = [92, 40] ∨ BVEILS.getD q [] = [92, 34] := by
  rcases getD_lt5 hq with rfl | rfl | rfl | rfl | rfl
  · exact .inl rfl
  · exact .inr (.inl rfl)
  · exact .inr (.inr rfl)
  · exact .inl rfl
  · exact .inl rfl
theorem bveil_units {q : Nat} (hq : q < 5) (j : Nat) (r : List Nat) : ∃ zs j', unitsAt j (BVEILS.getD q [] ++ ([32] ++ r)) = zs ++ ((j', [32]) :: unitsAt (j' + 1) r) ∧ (zs = [] ∨ ∃ k d, d ≠ 92 ∧ zs = [(k, [92, d])]) := by
  rcases bveil_cases hq with e | e | e
  · exact ⟨[], j, by rw [e]; exact unitsAt_plain j 32 r (by decide), .inl rfl⟩
  · exact ⟨[(j + 1, [92, 40])], j + 2, by rw [e]; show unitsAt j (92 :: 40 :: 32 :: r) = _; rw [unitsAt_esc, unitsAt_plain _ 32 r (by decide)]; rfl, .inr ⟨_, 40, by decide, rfl⟩⟩
  · exact ⟨[(j + 1, [92, 34])], j + 2, by rw [e]; show unitsAt j (92 :: 34 :: 32 :: r) = _; rw [unitsAt_esc, unitsAt_plain _ 32 r (by decide)]; rfl, .inr ⟨_, 34, by decide, rfl⟩⟩
theorem units_btxt (rs : List (Nat × Nat)) : ∀ (i : Nat), OkR rs → uno (unitsAt i (btxt rs)) = (rs.map fun r => OPS.getD r.1 [] ++ [32]).flatten := by
  induction rs with
  | nil => intro i _; show uno (unitsAt i []) = _; rw [unitsAt_nil]; rfl
  | cons r rs ih =>
    intro i hok
    obtain ⟨hp, hq⟩ := hok r (.head _)
    obtain ⟨ys, e1, e2⟩ := unitsAt_plains (BVEILS.getD r.2 [] ++ ([32] ++ btxt rs)) (OPS.getD r.1 []) i fun c hc => (op_plain _ hp c hc).1
    obtain ⟨zs, j', e3, e4⟩ := bveil_units hq (i + (OPS.getD r.1 []).length) (btxt rs)
    have e5 : ∀ x, uno (zs ++ x) = uno x := fun x => by
      rcases e4 with rfl | ⟨k, d, _, rfl⟩
      · rfl
      · rfl
    rw [btxt_cons, e1, uno_plain _ e2, e3, e5, List.map_cons, List.flatten_cons, List.append_assoc, ← ih (j' + 1) fun r hr => hok r (.tail _ hr)]
    rfl
theorem sizeL_op {p : Nat} (hp : p < 48) (r : List Nat) : sizeL (OPS.getD p [] ++ 32 :: r) = (OPS.getD p []).length := by
  obtain ⟨ht, h1, h3⟩ := op_tok p hp
  revert ht h1 h3
  generalize OPS.getD p [] = op
  intro ht h1 h3
  unfold sizeL
  match op, h1, h3, ht with
  | [a], _, _, ht =>
    rw [tokF_blank (u := ([a] ++ 32 :: r).take 3) (by simp), tokF_blank (u := ([a] ++ 32 :: r).take 2) (by simp)]
    rfl
  | [a, b], _, _, ht =>
    rw [tokF_blank (u := ([a, b] ++ 32 :: r).take 3) (by simp)]
    have : ([a, b] ++ 32 :: r).take 2 = [a, b] := rfl
    rw [this, ht]; rfl
  | [a, b, c], _, _, ht =>
    have : ([a, b, c] ++ 32 :: r).take 3 = [a, b, c] := rfl
    rw [this, ht]; rfl
  | a :: b :: c :: d :: x, _, h3, _ => simp at h3
theorem lex_op {p : Nat} (hp : p < 48) (r : List Nat) : lex (OPS.getD p [] ++ 32 :: r) = (p + 7) :: lex (32 :: r) := by
  obtain ⟨ht, h1, h3⟩ := op_tok p hp
  have hs := sizeL_op hp r
  have hsym : symL (OPS.getD p [] ++ 32 :: r) = p + 7 := by
    unfold symL
    rw [hs, List.take_left, ht]; rfl
  have hne : OPS.getD p [] ++ 32 :: r ≠ [] := by simp
  obtain ⟨c, l, e⟩ := List.exists_cons_of_ne_nil hne
  rw [e] at hsym hs ⊢
  rw [lex_cons, hsym, hs, ← e, List.drop_left]
theorem lex_blank (r : List Nat) : lex (32 :: r) = 288 :: lex r := by
  have hs : sizeL (32 :: r) = 1 := by
    unfold sizeL
    rw [tokF_blank (u := (32 :: r).take 3) (by simp), tokF_blank (u := (32 :: r).take 2) (by simp)]
    rfl
  have hsym : symL (32 :: r) = 288 := by
    unfold symL
    rw [hs, tokF_blank (u := (32 :: r).take 1) (by simp)]; rfl
  rw [lex_cons, hsym, hs]; rfl
theorem terms_lex (rs : List (Nat × Nat)) : OkR rs → terms (lex (rs.map fun r => OPS.getD r.1 [] ++ [32]).flatten) = rs.map fun r => r.1 + 7 := by
  induction rs with
  | nil => exact fun _ => rfl
  | cons r rs ih =>
    intro hok
    obtain ⟨hp, hq⟩ := hok r (.head _)
    rw [List.map_cons, List.flatten_cons, List.append_assoc]
    show terms (lex (OPS.getD r.1 [] ++ 32 :: _)) = _
    rw [lex_op hp, lex_blank, List.map_cons, ← ih fun r hr => hok r (.tail _ hr)]
    unfold terms
    rw [List.filter_cons_of_pos (by simp; lia), List.filter_cons_of_neg (by decide)]
    rfl
/-- the brackets' count over the kinds -/
noncomputable def ckK : Int → List Nat → Bool
  | o, [] => o == 0
  | o, p :: r => if p = 0 then ckK (o + 1) r else if p = 1 then (if o - 1 < 0 then false else ckK (o - 1) r) else ckK o r
theorem ckK_cons (o : Int) (p : Nat) (r : List Nat) : ckK o (p :: r) = if p = 0 then ckK (o + 1) r else if p = 1 then (if o - 1 < 0 then false else ckK (o - 1) r) else ckK o r := rfl
end Mine
end
section -- P9
set_option maxRecDepth 100000
namespace Mine
theorem ckF_skip {o : Int} (ys r : List (Nat × List Nat)) : (∀ y ∈ ys, y.2 ≠ [40] ∧ y.2 ≠ [41]) → ckF o (ys ++ r) = ckF o r := by
  induction ys with
  | nil => exact fun _ => rfl
  | cons y ys ih =>
    intro h
    have := h y (.head _)
    rw [List.cons_append, ckF_cons, if_neg this.1, if_neg this.2]
    exact ih fun y hy => h y (.tail _ hy)
theorem ckF_btxt (rs : List (Nat × Nat)) : ∀ (i : Nat) (o : Int), OkR rs → ckF o (unitsAt i (btxt rs)) = ckK o (rs.map (·.1)) := by
  induction rs with
  | nil => intro i o _; show ckF o (unitsAt i []) = _; rw [unitsAt_nil]; rfl
  | cons r rs ih =>
    intro i o hok
    obtain ⟨hp, hq⟩ := hok r (.head _)
    have veil : ∀ j o, ckF o (unitsAt j (BVEILS.getD r.2 [] ++ ([32] ++ btxt rs))) = ckK o (rs.map (·.1)) := fun j o => by
      obtain ⟨zs, j', e3, e4⟩ := bveil_units hq j (btxt rs)
      rw [e3, ckF_skip, ckF_cons, if_neg (by decide), if_neg (by decide)]
      · exact ih _ _ fun r hr => hok r (.tail _ hr)
      · rcases e4 with rfl | ⟨k, d, _, rfl⟩
        · exact fun _ h => nomatch h
        · intro y hy
          rw [List.mem_singleton.mp hy]
          exact ⟨fun e => (nomatch (List.cons.inj e).2), fun e => (nomatch (List.cons.inj e).2)⟩
    rw [btxt_cons, List.map_cons, ckK_cons]
    by_cases h0 : r.1 = 0
    · rw [if_pos h0, h0]
      show ckF o (unitsAt i (40 :: (BVEILS.getD r.2 [] ++ ([32] ++ btxt rs)))) = _
      rw [unitsAt_plain i 40 _ (by decide), ckF_cons, if_pos rfl]; exact veil _ _
    · rw [if_neg h0]
      by_cases h1 : r.1 = 1
      · rw [if_pos h1, h1]
        show ckF o (unitsAt i (41 :: (BVEILS.getD r.2 [] ++ ([32] ++ btxt rs)))) = _
        rw [unitsAt_plain i 41 _ (by decide), ckF_cons, if_neg (by decide), if_pos rfl, veil]
      · rw [if_neg h1]
        obtain ⟨ys, e1, e2⟩ := unitsAt_plains (BVEILS.getD r.2 [] ++ ([32] ++ btxt rs)) (OPS.getD r.1 []) i fun c hc => (op_plain _ hp c hc).1
        rw [e1, ckF_skip, veil]
        intro y hy
        have : y.2 ∈ (OPS.getD r.1 []).map fun c => [c] := e2 ▸ List.mem_map_of_mem hy
        obtain ⟨c, hc, ec⟩ := List.mem_map.mp this
        rw [← ec]
        exact ⟨fun e => (op_par _ hp h0 h1 c hc).1 (by injection e), fun e => (op_par _ hp h0 h1 c hc).2 (by injection e)⟩
theorem cl_low (ks : List Int) : ∀ (z : Int × Int), (ks.foldl clStep z).2 ≤ z.2 := by
  induction ks with
  | nil => exact fun z => Int.le_refl _
  | cons k ks ih => exact fun z => Int.le_trans (ih (clStep z k)) (Int.min_le_left _ _)
theorem cl_0 {h : Int} (hh : 0 ≤ h) : clStep (h, 0) (Int.ofNat 0) = (h + 1, 0) := by
  show (h + 1 - 0, min 0 (h + 1 - 0)) = _
  rw [Int.sub_zero, Int.min_eq_left (Int.le_trans hh (Int.le_of_lt (Int.lt_succ h)))]
theorem cl_1 (h : Int) : clStep (h, 0) (Int.ofNat 1) = (h - 1, min 0 (h - 1)) := by
  show (h + 0 - 1, min 0 (h + 0 - 1)) = _
  rw [Int.add_zero]
theorem cl_2 {h : Int} {p : Nat} (h0 : p ≠ 0) (h1 : p ≠ 1) (hh : 0 ≤ h) : clStep (h, 0) (Int.ofNat p) = (h, 0) := by
  have a : Int.ofNat p ≠ 0 := fun e => h0 (Int.ofNat.inj e)
  have b : Int.ofNat p ≠ 1 := fun e => h1 (Int.ofNat.inj e)
  unfold clStep
  rw [if_neg a, if_neg b]
  show (h + 0 - 0, min 0 (h + 0 - 0)) = _
  rw [Int.add_zero, Int.sub_zero, Int.min_eq_left hh]
theorem ckK_closed (ps : List Nat) : ∀ (h : Int), 0 ≤ h → ckK h ps = (((ps.map Int.ofNat).foldl clStep (h, 0)).1 == 0 && ((ps.map Int.ofNat).foldl clStep (h, 0)).2 == 0) := by
  induction ps with
  | nil => exact fun h _ => (Bool.and_true _).symm
  | cons p ps ih =>
    intro h hh
    rw [List.map_cons, List.foldl_cons, ckK_cons]
    by_cases h0 : p = 0
    · rw [if_pos h0, h0, cl_0 hh]; exact ih _ (Int.le_trans hh (Int.le_of_lt (Int.lt_succ h)))
    · rw [if_neg h0]
      by_cases h1 : p = 1
      · rw [if_pos h1, h1, cl_1]
        rcases Decidable.em (h - 1 < 0) with q | q
        · rw [if_pos q, Int.min_eq_right (Int.le_of_lt q), beq_false_of_ne (Int.ne_of_lt (Int.lt_of_le_of_lt (cl_low (ps.map Int.ofNat) (h - 1, h - 1)) q)), Bool.and_false]
        · rw [if_neg q, Int.min_eq_left (Int.not_lt.mp q)]; exact ih _ (Int.not_lt.mp q)
      · rw [if_neg h1, cl_2 h0 h1 hh]; exact ih h hh
theorem veil_small : ∀ q, q < 5 → ((∀ c ∈ VEILS.getD q [], c < 128) ∧ (VEILS.getD q []).length ≤ 5) ∧ (∀ c ∈ BVEILS.getD q [], c < 128) ∧ (BVEILS.getD q []).length ≤ 5 := by decide +kernel
theorem three_small {a v : List Nat} (ha : ∀ c ∈ a, c < 128) (la : a.length ≤ 3) (hv : (∀ c ∈ v, c < 128) ∧ v.length ≤ 5) : (∀ c ∈ a ++ v ++ [32], c < 128) ∧ (a ++ v ++ [32]).length ≤ 9 := by
  refine ⟨fun c hc => ?_, by rw [List.length_append, List.length_append]; exact Nat.add_le_add (Nat.add_le_add la hv.2) (Nat.le_refl 1)⟩
  rcases List.mem_append.mp hc with hc | hc
  · exact (List.mem_append.mp hc).elim (ha c) (hv.1 c)
  · rw [List.mem_singleton.mp hc]; decide
theorem blk_small {r : Nat × Nat} (h : r.1 < 48 ∧ r.2 < 5) : ((∀ c ∈ blk r, c < 128) ∧ (blk r).length ≤ 9) ∧ (∀ c ∈ bblk r, c < 128) ∧ (bblk r).length ≤ 9 :=
  ⟨three_small (fun c hc => (op_plain r.1 h.1 c hc).2.2.2) (op_tok r.1 h.1).2.2 (veil_small r.2 h.2).1, three_small (fun c hc => (op_plain r.1 h.1 c hc).2.2.2) (op_tok r.1 h.1).2.2 (veil_small r.2 h.2).2⟩
theorem flat_small {f : Nat × Nat → List Nat} (rs : List (Nat × Nat)) : (∀ r ∈ rs, (∀ c ∈ f r, c < 128) ∧ (f r).length ≤ 9) → (∀ c ∈ (rs.map f).flatten, c < 128) ∧ (rs.map f).flatten.length ≤ 9 * rs.length := by
  induction rs with
  | nil => exact fun _ => ⟨fun _ hc => (nomatch hc), Nat.le_refl _⟩
  | cons r rs ih =>
    intro h
    obtain ⟨a1, a2⟩ := h r (.head _)
    obtain ⟨b1, b2⟩ := ih fun x hx => h x (.tail _ hx)
    rw [List.map_cons, List.flatten_cons, List.length_append, List.length_cons]
    exact ⟨fun c hc => (List.mem_append.mp hc).elim (a1 c) (b1 c), by rw [Nat.mul_add, Nat.add_comm]; exact Nat.add_le_add b2 a2⟩
/-- the plain law of the text -/
theorem law_text {rs : List (Nat × Nat)} (hok : OkR rs) (hz : rs.length ≤ 6) :
    (∀ c ∈ txt rs, c < 128) ∧ (txt rs).length ≤ 1000 ∧ (∀ c ∈ stripF (txt rs), c < 128) ∧ (stripF (txt rs)).length ≤ 1000 ∧
    terms (lex (ones (unitsAt 0 (stripF (txt rs)))).flatten) = (rs.map fun r => r.1 + 7) ∧ ckF 0 (unitsAt 0 (stripF (txt rs))) = closedF ((rs.map (·.1)).map Int.ofNat) := by
  have a := flat_small (f := blk) rs fun r hr => (blk_small (hok r hr)).1
  have b := flat_small (f := bblk) rs fun r hr => (blk_small (hok r hr)).2
  rw [strip_txt hok]
  refine ⟨a.1, by show (rs.map blk).flatten.length ≤ 1000; lia, b.1, by show (rs.map bblk).flatten.length ≤ 1000; lia, ?_, ?_⟩
  · show terms (lex (uno (unitsAt 0 (btxt rs)))) = _
    rw [units_btxt rs 0 hok]
    exact terms_lex rs hok
  · rw [ckF_btxt rs 0 0 hok, ckK_closed _ 0 (Int.le_refl _)]; rfl
end Mine
end
section -- C2
open PySem PySem.W PyProof.Rows PySem.Calls
set_option maxRecDepth 100000
set_option maxHeartbeats 4000000
namespace Mine
noncomputable def KsOk (ks : List Int) : Prop := ks.length = 4 ∧ (∀ x ∈ ks, 0 ≤ x ∧ x < 48) ∧ ks.Nodup
theorem ks_ok {one two : Int} {turn : Nat} {ks : List Int} (g1 : 0 ≤ one ∧ one < 46) (g2 : 0 ≤ two ∧ two < 46) (g3 : one ≠ two) (g4 : turn < 4)
    (hk : ks = [0, 1, one + 2, two + 2].drop turn ++ [0, 1, one + 2, two + 2].take turn) : KsOk ks := by
  have base : ∀ x ∈ [0, 1, one + 2, two + 2], 0 ≤ x ∧ x < 48 := by
    intro x hx
    simp only [List.mem_cons, List.not_mem_nil, or_false] at hx
    rcases hx with rfl | rfl | rfl | rfl
    · decide
    · decide
    · clear hk g2 g3 g4; lia
    · clear hk g1 g3 g4; lia
  have nd : [0, 1, one + 2, two + 2].Nodup := by
    simp only [List.nodup_cons, List.mem_cons, List.not_mem_nil, or_false, not_false_eq_true, List.nodup_nil, and_true]
    clear base hk g4
    lia
  rw [hk]
  refine ⟨?_, fun x hx => ?_, (List.perm_append_comm.nodup_iff).mpr (by rw [List.take_append_drop]; exact nd)⟩
  · rw [List.length_append, Nat.add_comm, ← List.length_append, List.take_append_drop]; rfl
  · rcases List.mem_append.mp hx with hx | hx
    · exact base x (List.mem_of_mem_drop hx)
    · exact base x (List.mem_of_mem_take hx)
theorem row_mem {ks ns : List Int} (hk : KsOk ks) (a : Int) : rowK ks ns a ∈ ks := by
  unfold rowK
  refine getD_mem0 ?_
  rw [hk.1]; lia
where
  getD_mem0 {l : List Int} {i : Nat} (h : i < l.length) : l.getD i 0 ∈ l := by
    rw [List.getD_eq_getElem?_getD, List.getElem?_eq_getElem h]
    exact List.getElem_mem _
theorem row_bound {ks ns : List Int} (hk : KsOk ks) (a : Int) : 0 ≤ rowK ks ns a ∧ rowK ks ns a < 48 := hk.2.1 _ (row_mem hk a)
noncomputable def rsF (ks ns : List Int) (cnt : Nat) : List (Nat × Nat) := (rangeInts 0 1 cnt).map fun a => ((rowK ks ns a).toNat, (ns.getD (a + 1).toNat 0 / 4 % 5).toNat)
theorem blocks_txt (ks ns : List Int) (cnt : Nat) : (blocksF ks ns cnt).flatten = txt (rsF ks ns cnt) := by
  unfold blocksF txt rsF
  rw [List.map_map]; rfl
theorem rs_ok {ks ns : List Int} (hk : KsOk ks) (cnt : Nat) : OkR (rsF ks ns cnt) := by
  intro r hr
  obtain ⟨a, _, rfl⟩ := List.mem_map.mp hr
  have := row_bound (ns := ns) hk a
  dsimp only
  lia
theorem text_facts {ks ns : List Int} (hk : KsOk ks) {cnt : Nat} (hc : cnt ≤ 6) : (∀ c ∈ (blocksF ks ns cnt).flatten, c < 128) ∧ (blocksF ks ns cnt).flatten.length ≤ 1000 ∧ (∀ c ∈ stripF (blocksF ks ns cnt).flatten, c < 128) ∧ (stripF (blocksF ks ns cnt).flatten).length ≤ 1000 ∧
    (terms (lex (ones (unitsAt 0 (stripF (blocksF ks ns cnt).flatten))).flatten)).map (Int.ofNat) = (rowF ks ns cnt).map (fun k => k + 7) ∧ ckF 0 (unitsAt 0 (stripF (blocksF ks ns cnt).flatten)) = closedF (rowF ks ns cnt) := by
  have hl : (rsF ks ns cnt).length = cnt := by unfold rsF; rw [List.length_map, rangeInts_length]
  obtain ⟨h1, h2, h3, h4, h5, h6⟩ := law_text (rs_ok (ns := ns) hk cnt) (by rw [hl]; exact hc)
  rw [blocks_txt]
  refine ⟨h1, h2, h3, h4, ?_, ?_⟩
  · rw [h5]
    unfold rsF rowF
    rw [List.map_map, List.map_map, List.map_map]
    refine List.map_congr_left fun a _ => ?_
    have := row_bound (ns := ns) hk a
    show (((rowK ks ns a).toNat + 7 : Nat) : Int) = rowK ks ns a + 7
    lia
  · rw [h6]
    congr 1
    unfold rsF rowF
    rw [List.map_map, List.map_map]
    refine List.map_congr_left fun a _ => ?_
    have := row_bound (ns := ns) hk a
    show (((rowK ks ns a).toNat : Nat) : Int) = rowK ks ns a
    lia
noncomputable def sgn (ks : List Int) : List Nat := ks.map fun k => (k + 7).toNat
theorem sgn_facts {ks : List Int} (hk : KsOk ks) : (sgn ks).length ≤ 100 ∧ (sgn ks).Nodup ∧ (∀ x ∈ sgn ks, x < 65) := by
  obtain ⟨h1, h2, h3⟩ := hk
  refine ⟨by unfold sgn; rw [List.length_map, h1]; decide, ?_, ?_⟩
  · unfold sgn
    rw [List.Nodup, List.pairwise_map]
    refine List.Pairwise.imp_of_mem ?_ h3
    intro a b ha hb hne e
    have := h2 a ha
    have := h2 b hb
    lia
  · intro x hx
    obtain ⟨k, hk, rfl⟩ := List.mem_map.mp hx
    have := h2 k hk
    lia
theorem hid_eq (ks : List Int) : hid ks = ks.map fun k => (k + 7).toNat := by
  unfold hid
  induction ks with
  | nil => rfl
  | cons k ks ih => rw [List.map_cons, List.flatten_cons, ih]; rfl
theorem hid_facts {ks ns : List Int} (hk : KsOk ks) {cnt : Nat} (hc : cnt ≤ 6) : (∀ x ∈ hid (rowF ks ns cnt), x ∈ sgn ks) ∧ (hid (rowF ks ns cnt)).length ≤ 20 := by
  rw [hid_eq]
  refine ⟨fun x hx => ?_, by rw [List.length_map, row_length]; lia⟩
  obtain ⟨k, hk', rfl⟩ := List.mem_map.mp hx
  obtain ⟨a, _, rfl⟩ := List.mem_map.mp hk'
  exact List.mem_map.mpr ⟨_, row_mem hk a, rfl⟩
end Mine
end
section -- L2d
open PySem PySem.W PyProof.Rows PySem.Calls
set_option maxRecDepth 100000
set_option maxHeartbeats 4000000
namespace Mine
section
variable {w : World} {mean : ExcName → Option Value} {mg mb : Str → Option Value} {A : Around} {s : Shared} {h₀ : Heap} {L : Addr} {m : Str → Option Value} {news : List (Addr × Obj)} {Q : Value → Shared → Prop} {E : Value → Shared → Prop}
theorem News.fresh {h h' : Heap} {D : Addr} {o : Obj} (F : Fr h₀ L h m) (N : News h₀ L h news) (k : PySem.Heap → Prop) (kk : Mine.Keeps h h') (hD : h.get? D = none) (hD' : h'.get? D = some o) : News h₀ L h' ((D, o) :: news) := by
  intro p hp
  rcases List.mem_cons.mp hp with rfl | hp
  · refine ⟨hD', fun e => ?_, ?_⟩
    · obtain ⟨o', _, _, q, _⟩ := F.ns
      have : h.get? D = some o' := by rw [show D = L from e]; exact q
      rw [hD] at this; cases this
    · cases q : h₀.get? D with
      | none => rfl
      | some o' => have := F.keep _ _ q; rw [hD] at this; cases this
  · exact ⟨kk _ _ (N p hp).1, (N p hp).2⟩
theorem ne_fresh {h : Heap} {D : Addr} (N : News h₀ L h news) (hD : h.get? D = none) : ∀ p ∈ news, p.1 ≠ D := by
  intro p hp e
  have := (N p hp).1
  rw [e, hD] at this; cases this
variable (KX : (hq.heap_1 w.params).In h₀) (T : Top hd.view_39 (looseW hd.view_39 [Str.ofString "EXACT_TOKEN_TYPES"]) mean mg mb h₀) (F : Fr h₀ L s.heap m) (N : News h₀ L s.heap news) (hroom : A.depth + 20 < recursionLimit) (hh : A.handled = none)
include KX T F N hroom hh
theorem use_drawn {l : Addr} {vs : List Value} {ks : List Int} (hL : h₀.IsList l vs.toArray) (hI : IntsAre vs ks) (hz : ks.length ≤ 100)
    (h : ∀ D vs n ns h' k, Fr h₀ L h' m → News h₀ L h' ((D, listOf (List.toArray vs) n) :: news) → (∀ p ∈ news, p.1 ≠ D) → IntsAre vs ns → ns.length = 7 → (∀ x ∈ ns, 0 ≤ x ∧ x < 100000000) → Q (.ref D) { s with heap := h', toks := k }) :
    wpAny (model PP w) A (call (.ref 80) [.ref l]) Q E s := by
  refine wpAny_call (drawn_spec (Gd.keeps ⟨KX, T⟩ F.keep) hroom hh (hL.at fun o e => F.keep _ _ e) hI hz fun D vs n ns s' g h1 h2 h3 h4 h5 => ?_)
  rw [g.eq]
  exact h D vs n ns s'.heap s'.toks (Fr.grown F g.keep) (News.fresh F N (fun _ => True) g.keep h1 h2) (ne_fresh N h1) h3 h4 h5
theorem use_operators
    (h : ∀ D vs n h' k, Fr h₀ L h' m → News h₀ L h' ((D, listOf (List.toArray vs) n) :: news) → (∀ p ∈ news, p.1 ≠ D) → StrsAre vs (OPS.map S) → Q (.ref D) { s with heap := h', toks := k }) :
    wpAny (model PP w) A (call (.ref 73) []) Q E s := by
  refine wpAny_call (operators_spec (Gd.keeps ⟨KX, T⟩ F.keep) hroom hh fun D vs n s' g h1 h2 h3 => ?_)
  rw [g.eq]
  exact h D vs n s'.heap s'.toks (Fr.grown F g.keep) (News.fresh F N (fun _ => True) g.keep h1 h2) (ne_fresh N h1) h3
theorem use_kinds {x : Int} {t : Tok} (hx : 0 ≤ x ∧ x < 100000000)
    (h : ∀ D vs n one two turn h' k, Fr h₀ L h' m → News h₀ L h' ((D, listOf (List.toArray vs) n) :: news) → (∀ p ∈ news, p.1 ≠ D) → (0 ≤ one ∧ one < 46) → (0 ≤ two ∧ two < 46) → one ≠ two → turn < 4 →
     IntsAre vs ([0, 1, one + 2, two + 2].drop turn ++ [0, 1, one + 2, two + 2].take turn) → Q (.ref D) { s with heap := h', toks := k }) :
    wpAny (model PP w) A (call (.ref 87) [.int x t]) Q E s := by
  refine wpAny_call (kinds_spec (Gd.keeps ⟨KX, T⟩ F.keep) hroom hh hx fun D vs n one two turn s' g h1 h2 h3 h4 h5 h6 h7 => ?_)
  rw [g.eq]
  exact h D vs n one two turn s'.heap s'.toks (Fr.grown F g.keep) (News.fresh F N (fun _ => True) g.keep h1 h2) (ne_fresh N h1) h3 h4 h5 h6 h7
theorem use_numbers {l : List Nat} {t : Tok} (hl : ∀ c ∈ l, c < 128) (hz : l.length ≤ 1000) (hl' : ∀ c ∈ stripF l, c < 128) (hz' : (stripF l).length ≤ 1000)
    (h : ∀ D vs n h' gens' k, (AllBare s.gens → AllBare gens') → Fr h₀ L h' m → News h₀ L h' ((D, listOf (List.toArray vs) n) :: news) → (∀ p ∈ news, p.1 ≠ D) → IntsAre vs ((terms (lex (ones (unitsAt 0 (stripF l))).flatten)).map (Int.ofNat)) → Q (.ref D) { s with heap := h', gens := gens', toks := k }) :
    wpAny (model PP w) A (call (.ref 92) [.str (S l) t]) Q E s := by
  refine wpAny_call (numbers_spec (Gd.keeps ⟨KX, T⟩ F.keep) hroom hh hl hz hl' hz' fun D vs n s' g h1 h2 h3 => ?_)
  rw [g.eq]
  exact h D vs n s'.heap s'.gens s'.toks g.bare (Fr.grown F g.keep) (News.fresh F N (fun _ => True) g.keep h1 h2) (ne_fresh N h1) h3
theorem use_check {l : List Nat} {t : Tok} (hl : ∀ c ∈ l, c < 128) (hz : l.length ≤ 1000) (hl' : ∀ c ∈ stripF l, c < 128) (hz' : (stripF l).length ≤ 1000)
    (h : ∀ h' gens' k, (AllBare s.gens → AllBare gens') → Fr h₀ L h' m → News h₀ L h' news → Q (.bool (ckF 0 (unitsAt 0 (stripF l)))) { s with heap := h', gens := gens', toks := k }) :
    wpAny (model PP w) A (call (.ref 49) [.str (S l) t]) Q E s := by
  refine wpAny_call (check_spec (Gd.keeps ⟨KX, T⟩ F.keep) hroom hh hl hz hl' hz' fun s' g => ?_)
  rw [g.eq]
  exact h s'.heap s'.gens s'.toks g.bare (Fr.grown F g.keep) (News.keepsK N g.keep)
theorem use_closed {l : Addr} {vs : List Value} {n : Nat} {ks : List Int} (hm : (l, listOf vs.toArray n) ∈ news) (hI : IntsAre vs ks) (hz : ks.length ≤ 100)
    (h : ∀ h' k, Fr h₀ L h' m → News h₀ L h' news → Q (.bool (closedF ks)) { s with heap := h', toks := k }) :
    wpAny (model PP w) A (call (.ref 99) [.ref l]) Q E s := by
  refine wpAny_call (closed_spec (Gd.keeps ⟨KX, T⟩ F.keep) hroom hh (N _ hm).1 hI hz fun s' g => ?_)
  rw [g.eq]
  exact h s'.heap s'.toks (Fr.grown F g.keep) (News.keepsK N g.keep)
theorem use_found {l : Addr} {vs : List Value} {n : Nat} {x ks : List Nat} {t : Tok} (hm : (l, listOf vs.toArray n) ∈ news) (hI : StrsAre vs ((ks.map fun c => [c]).map S)) (hz : ks.length ≤ 100)
    (hnd : ks.Nodup) (hhk : ∀ c ∈ x, c ∈ ks) (hk65 : ∀ c ∈ ks, c < 65) (hhz : x.length ≤ 20)
    (h : ∀ tk h' k, Fr h₀ L h' m → News h₀ L h' news → Q (.str (S x) tk) { s with heap := h', toks := k }) :
    wpAny (model PP w) A (call (.ref 106) [.str (S x) t, .ref l]) Q E s := by
  refine wpAny_call (found_spec (Gd.keeps ⟨KX, T⟩ F.keep) hroom hh (N _ hm).1 hI hz hnd hhk hk65 hhz fun tk s' g => ?_)
  rw [g.eq]
  exact h tk s'.heap s'.toks (Fr.grown F g.keep) (News.keepsK N g.keep)
end
theorem getD_mem {l : List Int} {i : Nat} (h : i < l.length) : l.getD i 0 ∈ l := by
  rw [List.getD_eq_getElem?_getD, List.getElem?_eq_getElem h]
  exact List.getElem_mem _
noncomputable def isCellD : Data → Bool
  | .cell _ => true
  | _ => false
noncomputable def OffC (c : Addr) : List (Addr × Obj) → Prop
  | [] => True
  | p :: r => (@Ne Nat p.1 c ∨ isCellD p.2.data = false) ∧ OffC c r
theorem OffC.mem {c : Addr} {o : Obj} {v : Option Value} {h : Heap} {h₀ : Heap} {L : Addr} (e : h.get? c = some o) (d : o.data = .cell v) : ∀ {l : List (Addr × Obj)}, OffC c l → (∀ p ∈ l, h.get? p.1 = some p.2) → ∀ p ∈ l, p.1 ≠ c
  | [], _, _, p, hp => nomatch hp
  | q :: r, x, n, p, hp => by
    rcases List.mem_cons.mp hp with rfl | hp
    · rcases x.1 with x | x
      · exact x
      · intro q
        have := n _ (.head _)
        rw [q, e] at this; cases this
        rw [d] at x; cases x
    · exact OffC.mem (h₀ := h₀) (L := L) e d x.2 (fun p hp => n p (.tail _ hp)) p hp
theorem store_C {M : Model} {A : Around} {E : Value → Shared → Prop} {s : Shared} {h₀ : Heap} {L a : Addr} {m : Str → Option Value} {cn : Str} {cs : Scope} {ccd : Value} {cl : List (Str × Addr)}
  {x : Str} {v : Value} {Q : Unit → Shared → Prop} {own rest : List (Addr × Obj)} {c : Addr} {o : Obj} {v₀ : Option Value} (F : Fr h₀ L s.heap m) (N : News h₀ L s.heap (own ++ (c, o) :: rest)) (hc : cl.lookup x = some c) (hd : o.data = .cell v₀)
    (h1 : OffC c own) (h2 : OffC c rest)
    (h : ∀ h' o', Fr h₀ L h' m → News h₀ L h' (own ++ (c, o') :: rest) → o'.data = .cell (some v) → Q () { s with heap := h' })
    (hk : cs.kind = .function) (hx : (envX cn cs L a ccd cl).kindOf x = some .cell) : wpAny M A (storeName (envX cn cs L a ccd cl) x v) Q E s := by
  have hmem := N (c, o) (List.mem_append_right _ (.head _))
  refine wpAny_storeName_cell hk hx hc ⟨o, hmem.1, hd⟩ fun h' hv hs => ?_
  obtain ⟨o', ho', hd'⟩ := hv
  refine h h' o' ⟨F.ns.sameBut hs (Ne.symm hmem.2.1), fun b ob e => (hs.2 b (fun q => ?_)).trans (F.keep b ob e), F.above⟩ (N.setAt ?_ ?_ hs ho') hd'
  · rw [q, hmem.2.2] at e; cases e
  · exact OffC.mem (h₀ := h₀) (L := L) hmem.1 hd h1 fun p hp => (N p (List.mem_append_left _ hp)).1
  · exact OffC.mem (h₀ := h₀) (L := L) hmem.1 hd h2 fun p hp => (N p (List.mem_append_right _ (.tail _ hp))).1
noncomputable abbrev Q5 (L : Addr) (o1 o2 o3 o4 o5 : Obj) : List (Addr × Obj) := [(L + 1 + 4, o1), (L + 1 + 3, o2), (L + 1 + 2, o3), (L + 1 + 1, o4), (L + 1, o5)]
/-- the frame behind the first four lines -/
inductive LawA (s : Shared) (h₀ : Heap) (L : Addr) (cnt0 : Int) (s' : Shared) : Prop
  | mk (D1 D2 D3 : Addr) (vs1 vs2 vs3 : List Value) (n1 n2 n3 : Nat) (ns : List Int) (one two : Int) (turn : Nat) (ks : List Int) (tc : Tok) (m : Str → Option Value) (o1 o2 o3 o4 o5 : Obj) (f1 : Fr h₀ L s'.heap m) (f2 : Has m [(nm "count", .int cnt0 tc)]) (f3 : News h₀ L s'.heap ((D3, listOf vs3.toArray n3) :: (D2, listOf vs2.toArray n2) :: (D1, listOf vs1.toArray n1) :: Q5 L o1 o2 o3 o4 o5)) (f4 : o1.data = .cell none) (f5 : o2.data = .cell none) (f6 : o3.data = .cell (some (.ref D3))) (f7 : o4.data = .cell (some (.ref D2))) (f8 : o5.data = .cell (some (.ref D1))) (f9 : IntsAre vs1 ns) (f10 : ns.length = 7) (f11 : (∀ x ∈ ns, 0 ≤ x ∧ x < 100000000)) (f12 : StrsAre vs2 (OPS.map S)) (f13 : IntsAre vs3 ks) (f14 : (0 ≤ one ∧ one < 46)) (f15 : (0 ≤ two ∧ two < 46)) (f16 : one ≠ two) (f17 : turn < 4) (f18 : ks = [0, 1, one + 2, two + 2].drop turn ++ [0, 1, one + 2, two + 2].take turn) (f19 : s'.gens = s.gens) (f20 : s'.drawn = s.drawn) (f21 : s'.os = s.os)
/-- the frame behind the first seven lines -/
inductive LawB (s : Shared) (h₀ : Heap) (L : Addr) (s' : Shared) : Prop
  | mk (D3 D4 : Addr) (vs3 vs4 : List Value) (n3 n4 : Nat) (ks ns : List Int) (cnt : Nat) (tt : Tok) (m : Str → Option Value) (o2 o3 : Obj) (f1 : Fr h₀ L s'.heap m) (f2 : Has m [(nm "text", .str (S (blocksF ks ns cnt).flatten) tt)]) (f3 : News h₀ L s'.heap [(D4, listOf vs4.toArray n4), (D3, listOf vs3.toArray n3), (L + 1 + 3, o2), (L + 1 + 2, o3)]) (f4 : o2.data = .cell (some (.ref D4))) (f5 : o3.data = .cell (some (.ref D3))) (f6 : IntsAre vs3 ks) (f7 : IntsAre vs4 (rowF ks ns cnt)) (f8 : KsOk ks) (f9 : cnt ≤ 6) (f10 : s'.gens = s.gens) (f11 : s'.drawn = s.drawn) (f12 : s'.os = s.os)
end Mine
end
section -- L3
open PySem PySem.W PyProof.Rows PySem.Calls
set_option maxRecDepth 100000
set_option maxHeartbeats 4000000
namespace Mine
local macro_rules | `(tactic| walk_at "go") => `(tactic| repeat' ((fail_if_success (with_reducible refine Mine.at12 ?_)); (fail_if_success (with_reducible refine Mine.at8 ?_)); walk_at "mine loop"; (fail_if_success (with_reducible refine Mine.at9 ?_)); (fail_if_success (with_reducible refine Mine.at7 ?_)); walk_at "mine ref"; walk_at "mine one"))
local macro_rules | `(tactic| walk_at "offc") => `(tactic| (repeat' (first | exact trivial | refine ⟨?_, ?_⟩ | exact Or.inr rfl | exact Or.inl (by dsimp only; lia))))
local macro_rules | `(tactic| walk_at "mem any") => `(tactic| (repeat (first | exact List.Mem.head _ | apply List.Mem.tail)))
local macro_rules | `(tactic| walk_at "eval Name") => `(tactic| ((with_reducible show wpAny _ _ (eval (Expr.Name _ _) (compEnvC _ _ _ _)) _ _ _); (with_reducible rename Fr _ _ _ _ => kF); (with_reducible rename News _ _ _ _ => kN); first
  | (refine nameL_any kF (by assumption) ?_ rfl rfl rfl (by decide))
  | (refine nameC_any kN rfl (by walk_at "mem any") (by assumption) ?_ rfl rfl (by decide))
  | (refine nameB_any kF (by assumption) (topRead_of (by assumption)) (by k_is) (by boot_by_name) (by decide) ?_ rfl rfl rfl rfl (by decide))))
local macro_rules | `(tactic| walk_at "binaryOp Mod int int") => `(tactic| (refine mod_e (by decide) ?_))
local macro_rules | `(tactic| walk_at "binaryOp FloorDiv int int") => `(tactic| (refine floordiv_e (by decide) (PyProof.noPylong_small (by lia)) ?_))
theorem law_spec {w : World} {mean mg mb} {A : Around} {s : Shared} (G : Gd w mean mg mb s.heap) (hroom : A.depth + 30 < recursionLimit) (hh : A.handled = none) (hun : A.units + 100 < cLine)
   {l : Addr} {vs : List Value} {ks : List Int} {R : Result → Shared → Prop} (hL : s.heap.IsList l vs.toArray) (hI : IntsAre vs ks) (hz : ks.length ≤ 100)
   (h : ∀ s', GrownG s s' → R (.ok (.ret (.bool true))) s') :
   codeAny (model PP w) A (.call (.ref 111) ⟨[.ref l], []⟩) R s := by
  obtain ⟨hd', dep, frs, gds, uns⟩ := A
  cases hh
  have hun2 : uns + 100 < cLine := hun
  have hroom2 : dep + 30 < recursionLimit := hroom
  refine spec_cells G rfl rfl (by dsimp only at hroom ⊢; lia) (binds := [(nm "script", .ref l)]) (BindsTo.of_eq rfl) (fun n => kinds_of (k := n) (by kinds_ok)) (by decide +kernel) ?_
  intro h₁ tk₁ cells F N Y
  obtain ⟨KX, T⟩ := G
  obtain ⟨o1, o2, o3, o4, o5, rfl, d1, d2, d3, d4, d5⟩ := kc_five Y
  clear Y
  replace d1 : o1.data = .cell none := d1
  replace d2 : o2.data = .cell none := d2
  replace d3 : o3.data = .cell none := d3
  replace d4 : o4.data = .cell none := d4
  replace d5 : o5.data = .cell none := d5
  generalize hL : s.heap.objs.size = L at *
  clear hL
  show wpAny _ _ (execs _ _) _ _ _
  refine execs_cut 4 (LawA s s.heap L (if 4 < ks.length then 6 else 4)) ?_ ?_
  · intro Dn Qn hD hQ
    dsimp only [List.take]
    walk_at "go"
    refine use_drawn KX T F N (by show dep + 1 + 20 < _; lia) rfl hL hI hz ?_
    intro D1 vs1 n1 ns h2 tk2 F2 N2 ap1 hI1 hl1 hb1
    clear F N
    walk_at "go"
    refine store_C (own := [_, _, _, _, _]) F2 N2 rfl d5 (by walk_at "offc") (by walk_at "offc") ?_ rfl rfl
    intro h3 q5 F3 N3 d5'
    clear F2 N2 d5
    walk_at "go"
    refine use_operators KX T F3 N3 (by show dep + 1 + 20 < _; lia) rfl ?_
    intro D2 vs2 n2 h4 tk4 F4 N4 ap2 hI2
    clear F3 N3
    walk_at "go"
    refine store_C (own := [_, _, _, _, _]) F4 N4 rfl d4 (by walk_at "offc") (by walk_at "offc") ?_ rfl rfl
    intro h5 q4 F5 N5 d4'
    clear F4 N4 d4
    walk_at "go"
    refine use_kinds KX T F5 N5 (by show dep + 1 + 20 < _; lia) rfl (hb1 _ (getD_mem (by lia))) ?_
    intro D3 vs3 n3 one two turn h6 tk6 F6 N6 ap3 g1 g2 g3 g4 hI3
    clear F5 N5
    walk_at "go"
    refine store_C (own := [_, _, _, _, _]) F6 N6 rfl d3 (by walk_at "offc") (by walk_at "offc") ?_ rfl rfl
    intro h7 q3 F7 N7 d3'
    clear F6 N6 d3
    walk_at "go"
    all_goals
      rename Fr _ _ _ _ => F8
      rename News _ _ _ _ => N8
      first
        | (have ee : (if 4 < ks.length then (6 : Int) else 4) = 6 := if_pos (by lia))
        | (have ee : (if 4 < ks.length then (6 : Int) else 4) = 4 := if_neg (by lia))
      refine hD _ ?_
      rw [ee]
      exact ⟨D1, D2, D3, vs1, vs2, vs3, n1, n2, n3, ns, one, two, turn, _, _, _, o1, o2, q3, q4, q5, F8, ⟨rfl, trivial⟩, N8, d1, d2, d3', d4', d5', hI1, hl1, hb1, hI2, hI3, g1, g2, g3, g4, rfl, rfl, rfl, rfl⟩
  · dsimp only [List.drop]
    rintro s' ⟨D1, D2, D3, vs1, vs2, vs3, n1, n2, n3, ns, one, two, turn, ks3, tc, m, o1, o2, o3, o4, o5, F1, hm, N1, d1, d2, d3, d4, d5, hI1, hl1, hb1, hI2, hI3, g1, g2, g3, g4, hk3, e1, e2, e3⟩
    obtain ⟨cnt, hcn, hcz⟩ : ∃ n : Nat, (if 4 < ks.length then (6 : Int) else 4) = (n : Int) ∧ (n = 4 ∨ n = 6) := by
      split
      · exact ⟨6, rfl, .inr rfl⟩
      · exact ⟨4, rfl, .inl rfl⟩
    rw [hcn] at hm
    have F2 := Fr.lays _ hm F1
    dsimp only [ov] at F2
    clear F1 hm hcn F N
    obtain ⟨hp1, gs1, dr1, tk1, os1⟩ := s'
    dsimp only at e1 e2 e3 N1 F2
    subst e1 e2 e3
    have hks := ks_ok g1 g2 g3 g4 hk3
    have hl3 : ks3.length = 4 := hks.1
    clear hk3 g1 g2 g3 g4 one two turn
    refine execs_cut 3 (LawB s s.heap L) ?_ ?_
    · intro Dn Qn hD hQ
      dsimp only [List.take]
      walk_at "go"
      refine wpAny_Assign_Name ?_
      have hkb : ∀ a : Int, (0 ≤ a ∧ a < (cnt : Int)) → 0 ≤ rowK ks3 ns a ∧ rowK ks3 ns a < 48 := fun a _ => row_bound hks a
      refine comp_range (n := cnt) (d := fun k => .int (rowK ks3 ns k)) F2 N1 rfl (by rfl) (by decide) rfl (by decide) rfl (by lia) ?_ ?_ ?_ (by intro _; rfl)
      · intro It hIt
        walk_at "go"
        rename IsRange _ _ _ _ _ _ _ _ => R'
        rename Fr _ _ _ _ => F'
        rename News _ _ _ _ => N'
        exact hIt _ _ _ _ _ _ R' F' N'
      · intro C a ta hp2 gs2 dr2 tk2 os2 m2 E' El ha F3 hma N3 hEl
        have hbb := hb1 _ (getD_mem (l := ns) (i := (a + 1).toNat) (by lia))
        clear F2 N1
        walk_at "go"
        rename Fr _ _ _ _ => F'
        exact hEl _ _ (.int _ _)
      · intro D4 vs4 n4 h4 tk4 F4 N4 ap4 hc4
        have hI4 : IntsAre vs4 (rowF ks3 ns cnt) := IntsAre.ofCarried (by unfold rowF; rw [List.map_map]; exact hc4)
        clear F2 N1 hc4
        walk_at "go"
        refine store_C (own := [_, _, _, _, _]) F4 N4 rfl d2 (by walk_at "offc") (by walk_at "offc") ?_ rfl rfl
        intro h5 q2 F5 N5 d2'
        clear F4 N4 d2
        walk_at "go"
        rename Fr _ _ _ _ => F6
        rename News _ _ _ _ => N6
        obtain ⟨vs5, n5, N7, hS5⟩ : ∃ vs5 n5, News s.heap L _ ((_, listOf (List.toArray vs5) n5) :: ([(D4, listOf vs4.toArray n4), _, _, _] ++ [_, _, _, _, _])) ∧ StrsAre vs5 (VEILS.map S) :=
          ⟨_, _, N6, .cons _ _ (.cons _ _ (.cons _ _ (.cons _ _ (.cons _ _ .nil))))⟩
        clear N6
        refine store_C (own := [_, _, _, _, _]) F6 N7 rfl d1 (by walk_at "offc") (by walk_at "offc") ?_ rfl rfl
        intro h8 q1 F8 N8 d1'
        clear F6 N7 d1
        walk_at "go"
        have hlr := row_length ks3 ns cnt
        have hlo : (OPS.map S).length = 48 := rfl
        have hlv : (VEILS.map S).length = 5 := rfl
        have hlo' : OPS.length = 48 := rfl
        have hlv' : VEILS.length = 5 := rfl
        refine comp_range (n := cnt) (d := fun k => .str (S (blockK ks3 ns k))) F8 N8 rfl (by rfl) (by decide) rfl (by decide) rfl (by lia) ?_ ?_ ?_ (by intro _; rfl)
        · intro It hIt
          walk_at "go"
          rename IsRange _ _ _ _ _ _ _ _ => R'
          rename Fr _ _ _ _ => F'
          rename News _ _ _ _ => N'
          exact hIt _ _ _ _ _ _ R' F' N'
        · intro C a ta hp2 gs2 dr2 tk2 os2 m2 E' El ha F3 hma N3 hEl
          have hbb := hb1 _ (getD_mem (l := ns) (i := (a + 1).toNat) (by lia))
          have hrb : 0 ≤ (rowF ks3 ns cnt).getD a.toNat 0 ∧ (rowF ks3 ns cnt).getD a.toNat 0 < 48 := by
            rw [row_getD ha]; exact hkb a ha
          clear F8 N8
          walk_at "go"
          refine add_S (a := OPS.getD (rowK ks3 ns a).toNat []) (b := VEILS.getD (ns.getD (a + 1).toNat 0 / 4 % 5).toNat []) (by rw [row_getD ha]; exact getD_S _ _) (getD_S _ _) ?_ ?_
          · have a1 := ops_len (rowK ks3 ns a).toNat
            have a2 := veils_len (ns.getD (a + 1).toNat 0 / 4 % 5).toNat
            lia
          intro t6 k6
          walk_at "go"
          refine add_S (a := OPS.getD (rowK ks3 ns a).toNat [] ++ VEILS.getD (ns.getD (a + 1).toNat 0 / 4 % 5).toNat []) (b := [32]) rfl rfl ?_ ?_
          · have a1 := ops_len (rowK ks3 ns a).toNat
            have a2 := veils_len (ns.getD (a + 1).toNat 0 / 4 % 5).toNat
            simp only [List.length_append, List.length_cons, List.length_nil]
            lia
          intro t7 k7
          walk_at "go"
          exact hEl _ _ (.str _ _)
        · intro D6 vs6 n6 h9 tk9 F9 N9 ap6 hc6
          have hI6 : StrsAre vs6 ((blocksF ks3 ns cnt).map S) := StrsAre.ofCarried (by unfold blocksF; rw [List.map_map, List.map_map]; exact hc6)
          clear F8 N8 hc6
          walk_at "go"
          have hbs := blocks_sum ks3 ns cnt
          refine join_call (ls := blocksF ks3 ns cnt) rfl N9 (.head _) hI6 (by lia) ?_
          intro t10 k10
          walk_at "go"
          rename Fr _ _ _ _ => F11
          rename News _ _ _ _ => N11
          exact hD _ ⟨D3, D4, vs3, vs4, n3, n4, ks3, ns, cnt, _, _, q2, o3, F11, ⟨rfl, trivial⟩, News.sub N11 (by intro p hp; simp only [List.mem_cons, List.not_mem_nil, or_false] at hp; rcases hp with rfl | rfl | rfl | rfl <;> walk_at "mem any"), d2', d3, hI3, hI4, hks, by lia, rfl, rfl, rfl⟩
    · clear F2 N1 d1 d2 d3 d4 d5 hI1 hI2 hI3 hb1 hl1 hcz hks hl3 D1 D2 D3 vs1 vs2 vs3 n1 n2 n3 ns ks3 cnt
      dsimp only [List.drop]
      rintro s' ⟨D3, D4, vs3, vs4, n3, n4, ks3, ns, cnt, tt, m, o2, o3, F1, hm, N1, d2, d3, hI3, hI4, hks, hcz, e1, e2, e3⟩
      have F2 := Fr.lays _ hm F1
      dsimp only [ov] at F2
      clear F1 hm
      obtain ⟨hp1, gs1, dr1, tk1, os1⟩ := s'
      dsimp only at e1 e2 e3 N1 F2
      subst e1 e2 e3
      obtain ⟨hp1', hp2', hp3', hp4', hp5, hp6⟩ := text_facts (ns := ns) hks hcz
      have hrl := row_length ks3 ns cnt
      have hrb : ∀ x ∈ rowF ks3 ns cnt, 0 ≤ x ∧ x < 48 := by
        intro x hx
        obtain ⟨a, _, rfl⟩ := List.mem_map.mp hx
        exact row_bound hks a
      walk_at "go"
      refine use_numbers KX T F2 N1 (by show dep + 1 + 20 < _; lia) rfl hp1' hp2' hp3' hp4' ?_
      intro D7 vs7 n7 h12 gens12 k12 hg12 F12 N12 ap7 hI7
      rw [hp5] at hI7
      clear F2 N1
      walk_at "go"
      rename Fr _ _ _ _ => F13
      rename News _ _ _ _ => N13
      refine comp_ints (ks := rowF ks3 ns cnt) (d := fun k => .int (k + 7)) F13 N13 rfl (by rfl) (by decide) rfl (by decide) rfl (by lia) ?_ ?_ ?_ (by intro _; rfl)
      · intro It hIt
        walk_at "go"
        rename Fr _ _ _ _ => F'
        rename News _ _ _ _ => N'
        exact hIt _ _ _ _ ⟨_, (N' _ (.tail _ (.head _))).1, rfl, _, rfl⟩ hI4 F' N'
      · intro C a ta hp2 gs2 dr2 tk2 os2 m2 E' El ha F3 hma N3 hEl
        have hab := hrb a ha
        clear F13 N13
        walk_at "go"
        exact hEl _ _ (.int _ _)
      · intro D8 vs8 n8 h14 tk14 F14 N14 ap8 hc8
        have hI8 : IntsAre vs8 ((rowF ks3 ns cnt).map fun k => k + 7) := IntsAre.ofCarried (by rw [List.map_map]; exact hc8)
        clear F13 N13 hc8
        refine ke_ne_ints ⟨_, (N14 _ (.tail _ (.head _))).1, rfl, _, rfl⟩ ⟨_, (N14 _ (.head _)).1, rfl, _, rfl⟩ hI7 hI8 (by show uns + 3 + 64 < cLine; lia) ?_
        rw [decide_eq_true rfl, Bool.not_true]
        have N15 := News.sub N14 (news' := [(D7, listOf vs7.toArray n7), (D4, listOf vs4.toArray n4), (D3, listOf vs3.toArray n3), (L + 1 + 3, o2), (L + 1 + 2, o3)]) (fun p hp => .tail _ hp)
        clear N14
        walk_at "go"
        rename Fr _ _ _ _ => F15
        refine use_check KX T F15 N15 (by show dep + 1 + 20 < _; lia) rfl hp1' hp2' hp3' hp4' ?_
        intro h16 gens16 k16 hg16 F16 N16
        clear F15 N15
        walk_at "go"
        refine use_closed KX T F16 N16 (by show dep + 1 + 20 < _; lia) rfl (.tail _ (.head _)) hI4 (by lia) ?_
        intro h17 k17 F17 N17
        clear F16 N16
        rw [hp6]
        walk_at "go"
        · rename ((_ != _) = true) => hbad
          simp at hbad
        rename Fr _ _ _ _ => F18
        rename News _ _ _ _ => N18
        have hX : ∀ a ∈ (rowF ks3 ns cnt).map (fun k => k + 7), 0 ≤ a ∧ a < 55 := by
          intro a ha
          obtain ⟨k, hk, rfl⟩ := List.mem_map.mp ha
          have := hrb k hk
          lia
        refine comp_ints (ks := (rowF ks3 ns cnt).map fun k => k + 7) (d := fun k => .str (S [k.toNat])) F18 N18 rfl (by rfl) (by decide) rfl (by decide) rfl (by rw [List.length_map]; lia) ?_ ?_ ?_ (by intro _; rfl)
        · intro It hIt
          walk_at "go"
          rename Fr _ _ _ _ => F'
          rename News _ _ _ _ => N'
          exact hIt _ _ _ _ ⟨_, (N' (D7, listOf vs7.toArray n7) (by walk_at "mem any")).1, rfl, _, rfl⟩ hI7 F' N'
        · intro C a ta hp2 gs2 dr2 tk2 os2 m2 E' El ha F3 hma N3 hEl
          have hab := hX a ha
          clear F18 N18
          walk_at "go"
          exact hEl _ _ (.str _ _)
        intro D9 vs9 n9 h19 tk19 F19 N19 ap9 hc9
        have hI9 : StrsAre vs9 ((((rowF ks3 ns cnt).map fun k => k + 7).map fun k => [k.toNat]).map S) := StrsAre.ofCarried (by rw [List.map_map, List.map_map]; exact hc9)
        clear F18 N18 hc9
        walk_at "go"
        have hs9 := sum9_le (ls := ((rowF ks3 ns cnt).map fun k => k + 7).map fun k => [k.toNat]) (by intro x hx; obtain ⟨k, _, rfl⟩ := List.mem_map.mp hx; exact Nat.le_of_ble_eq_true rfl)
        rw [List.length_map, List.length_map, hrl] at hs9
        refine join_call (ls := ((rowF ks3 ns cnt).map fun k => k + 7).map fun k => [k.toNat]) rfl N19 (.head _) hI9 (by lia) ?_
        have hhid : (((rowF ks3 ns cnt).map fun k => k + 7).map fun k => [k.toNat]).flatten = hid (rowF ks3 ns cnt) := by unfold hid; rw [List.map_map]; rfl
        rw [hhid]
        intro t20 k20
        have N20 := News.sub N19 (news' := [(D7, listOf vs7.toArray n7), (D4, listOf vs4.toArray n4), (D3, listOf vs3.toArray n3), (L + 1 + 3, o2), (L + 1 + 2, o3)]) (fun p hp => .tail _ hp)
        clear N19
        walk_at "go"
        rename Fr _ _ _ _ => F21
        rename News _ _ _ _ => N21
        refine comp_ints (ks := ks3) (d := fun k => .str (S [(k + 7).toNat])) F21 N21 rfl (by rfl) (by decide) rfl (by decide) rfl (by rw [hks.1]; decide) ?_ ?_ ?_ (by intro _; rfl)
        · intro It hIt
          walk_at "go"
          rename Fr _ _ _ _ => F'
          rename News _ _ _ _ => N'
          exact hIt _ _ _ _ ⟨_, (N' (D3, listOf vs3.toArray n3) (by walk_at "mem any")).1, rfl, _, rfl⟩ hI3 F' N'
        · intro C a ta hp2 gs2 dr2 tk2 os2 m2 E' El ha F3 hma N3 hEl
          have hab := hks.2.1 a ha
          clear F21 N21
          walk_at "go"
          exact hEl _ _ (.str _ _)
        intro D10 vs10 n10 h22 tk22 F22 N22 ap10 hc10
        have hI10 : StrsAre vs10 (((sgn ks3).map fun c => [c]).map S) := StrsAre.ofCarried (by unfold sgn; rw [List.map_map, List.map_map, List.map_map]; exact hc10)
        clear F21 N21 hc10
        walk_at "go"
        obtain ⟨sf1, sf2, sf3⟩ := sgn_facts hks
        obtain ⟨hf1, hf2⟩ := hid_facts (ns := ns) hks hcz
        refine use_found KX T F22 N22 (by show dep + 1 + 20 < _; lia) rfl (.head _) hI10 sf1 sf2 hf1 sf3 hf2 ?_
        intro t23 h23 k23 F23 N23
        have N24 := News.sub N23 (news' := [(D7, listOf vs7.toArray n7), (D4, listOf vs4.toArray n4), (D3, listOf vs3.toArray n3), (L + 1 + 3, o2), (L + 1 + 2, o3)]) (fun p hp => .tail _ hp)
        clear F22 N22 N23
        walk_at "go"
        rename Fr _ _ _ _ => F25
        rename News _ _ _ _ => N25
        refine comp_ints (ks := rowF ks3 ns cnt) (d := fun k => .str (S [(k + 7).toNat])) F25 N25 rfl (by rfl) (by decide) rfl (by decide) rfl (by lia) ?_ ?_ ?_ (by intro _; rfl)
        · intro It hIt
          walk_at "go"
          rename Fr _ _ _ _ => F'
          rename News _ _ _ _ => N'
          exact hIt _ _ _ _ ⟨_, (N' (D4, listOf vs4.toArray n4) (by walk_at "mem any")).1, rfl, _, rfl⟩ hI4 F' N'
        · intro C a ta hp2 gs2 dr2 tk2 os2 m2 E' El ha F3 hma N3 hEl
          have hab := hrb a ha
          clear F25 N25
          walk_at "go"
          exact hEl _ _ (.str _ _)
        intro D11 vs11 n11 h26 tk26 F26 N26 ap11 hc11
        have hI11 : StrsAre vs11 (((rowF ks3 ns cnt).map fun k => [(k + 7).toNat]).map S) := StrsAre.ofCarried (by rw [List.map_map, List.map_map]; exact hc11)
        clear F25 N25 hc11
        walk_at "go"
        have hs11 := sum9_le (ls := (rowF ks3 ns cnt).map fun k => [(k + 7).toNat]) (by intro x hx; obtain ⟨k, _, rfl⟩ := List.mem_map.mp hx; exact Nat.le_of_ble_eq_true rfl)
        rw [List.length_map, hrl] at hs11
        refine join_call (ls := (rowF ks3 ns cnt).map fun k => [(k + 7).toNat]) rfl N26 (.head _) hI11 (by lia) ?_
        intro t27 k27
        show wpAny _ _ (compareOp _ _ (.str (S (hid (rowF ks3 ns cnt))) _)) _ _ _
        walk_at "go"
        have eb : ∀ z : Str, (z == z) = true := fun z => beq_self_eq_true z
        erw [eb]
        exact h _ ⟨F26.keep, fun hb => hg16 (hg12 hb), rfl, rfl⟩
end Mine
end
section -- L9
open PySem PySem.W PyProof.Rows PySem.Calls
set_option maxRecDepth 100000
set_option maxHeartbeats 8000000
namespace Mine
theorem lawL : PySem.Challenge.rw_rs0158_01.Holds := hd (by
  k_fill
  intro w s₀ s₁ mg mb G Y fa o pm cd doc dV kV ho hd hcd hD hmg hg args vals as hpre hlay hrd hwl hlo
  have KX : (hq.heap_1 w.params).In _ := kIn_of Y
  refine Ground.open G ?_
  intro T B D TE TW
  try (refine guard_noD D (by decide +kernel) ?_; clear D)
  wrow_args hpre hlay hrd hwl hlo
  have e : mg (Str.ofString "law") = some (.ref 111) := mg_of KX T.g (by k_is)
  have hfa : fa = 111 := Value.ref.inj (Option.some.inj (hmg.symm.trans e))
  rw [hfa]
  refine enter_call ?_
  rename Heap.IsList _ _ _ => hL
  rename IntsAre _ _ => hI
  refine law_spec (w := w) ⟨KX, T⟩ (by decide) rfl (by decide) hL hI (by lia) ?_
  intro s' g
  refine ⟨.inl ⟨.bool true, _, _, rfl, fun _ => rfl, .bool _, ?_, ?_⟩, ?_, g.os, g.bare ?_⟩
  · wrow_post
  · exact fun _ => ⟨List.nodup_nil, fun _ h => nomatch h⟩
  · exact OldK.of_keep g.keep
  · exact AllBare.of_eq hg)
end Mine
end
set_option maxRecDepth 100000 in
set_option maxHeartbeats 8000000 in
theorem PySem.Challenge.cw_rs0158_01_holds : PySem.Challenge.rw_rs0158_01.Holds := by
  exact Mine.lawL
