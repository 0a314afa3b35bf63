import PyProof.Rows.All
import Wide.All
import OpenK.AllK
import Wide.FinOn
import PySem.Challenge.RW_ny0065_01
open PySem PySem.W PyProof.Rows
set_option Elab.async false
set_option maxRecDepth 100000
set_option maxHeartbeats 8000000
set_option linter.unusedVariables false
set_option linter.unusedSimpArgs false
namespace Mine
open_top hd for PySem.Challenge.rw_ny0065_01
end Mine
-- part Base
namespace Mine

abbrev PP : Program := PySem.Challenge.rw_ny0065_01.row.prog
abbrev Tp (mean : ExcName → Option Value) (mg mb : PySem.Str → Option Value) (h : Heap) : Prop := Top hd.view_39 (looseW hd.view_39 []) mean mg mb h

/-- what a call leaves as it was -/
structure Gs (s s' : Shared) : Prop where
  keep : ∀ b o, s.heap.get? b = some o → s'.heap.get? b = some o
  gens : s'.gens = s.gens
  os : s'.os = s.os

theorem enterF {w : World} {A : Around} {s : Shared} {K : Frag} {Q E : Value → Shared → Prop} {name qual : PySem.Str} {params : Arguments} {body : List Stmt} {scope : Scope} {dV kV doc pm cdv ct oc : Value} {an od : Option Addr} {osl : Array (Option Value)} {f : Addr} {vals : List Value} {binds : List (PySem.Str × Value)}
    (X : K.In s.heap) (hlim : s.heap.NoLimit)
    (ho : K.lookup f = some ⟨oc, od, .func (fnOf name qual params body scope dV kV doc pm an cdv ct), osl⟩) (hcd : codeIn K cdv qual = true) (hroom : A.depth < recursionLimit)
    (hbind : BindsTo s (fnOf name qual params body scope dV kV doc pm an cdv ct) ⟨vals, []⟩ binds) (hloc : ∀ y ∈ binds, scope.names.lookup y.1 = some .local)
    (hcell : ∀ x ∈ scope.names, x.2 ≠ .cell)
    (hco : scope.isCoroutine = false) (hgen : scope.isGenerator = false) (hk : scope.kind = .function)
    (h : ∀ L h₁, Fr s.heap L h₁ (fun y => binds.reverse.lookup y) → News s.heap L h₁ [] →
      wpAny (model PP w) (A.deeper (envOf qual scope L f cdv)) (execs body (envOf qual scope L f cdv))
        (fun fl s' => Q (match fl with | .ret v => v | _ => .none) s') (fun _ _ => False)
        { s with heap := h₁, toks := s.toks + binds.length }) :
    wpAny (model PP w) A (call (.ref f) vals) Q E s := by
  refine wpAny_call ?_
  refine codeAny_call_def (fd := fnOf name qual params body scope dV kV doc pm an cdv ct) (body := body) (binds := binds) hroom (X _ _ ho) rfl hlim (codeRec_of X hcd) rfl hbind hcell hloc (fun h₁ hns hk₁ => ?_) hco hgen hk
  exact wpAny_mono (h _ h₁ ⟨hns, hk₁, Nat.le_refl _⟩ News.nil) (fun _ _ q => q) (fun _ _ q => q.elim)
end Mine
namespace Mine
theorem Gs.refl (s : Shared) : Gs s s := ⟨fun _ _ e => e, rfl, rfl⟩
theorem Gs.trans {a b c : Shared} (h : Gs a b) (k : Gs b c) : Gs a c := ⟨fun x o e => k.keep x o (h.keep x o e), k.gens.trans h.gens, k.os.trans h.os⟩
theorem Gs.of_fr {s s' : Shared} {L : Addr} {m : PySem.Str → Option Value} (F : Fr s.heap L s'.heap m) (hg : s'.gens = s.gens) (ho : s'.os = s.os) : Gs s s' := ⟨F.keep, hg, ho⟩
theorem frGs {s s' : Shared} {h₀ : Heap} {L : Addr} {m : PySem.Str → Option Value} (F : Fr h₀ L s.heap m) (g : Gs s s') : Fr h₀ L s'.heap m := F.keeps g.keep
theorem newsGs {s s' : Shared} {h₀ : Heap} {L : Addr} {news : List (Addr × Obj)} (N : News h₀ L s.heap news) (g : Gs s s') : News h₀ L s'.heap news := N.grown g.keep
theorem fin_int {s s' : Shared} {Q : Value → Shared → Prop} {v v' : Int} {t : Tok} {L : Addr} {m : PySem.Str → Option Value} (h : ∀ t s', Gs s s' → Q (.int v t) s') (e : v' = v) (F : Fr s.heap L s'.heap m) (hg : s'.gens = s.gens) (ho : s'.os = s.os) : Q (.int v' t) s' := e ▸ h t s' (.of_fr F hg ho)
theorem fin_str {s s' : Shared} {Q : Value → Shared → Prop} {v v' : PySem.Str} {t : Tok} {L : Addr} {m : PySem.Str → Option Value} (h : ∀ t s', Gs s s' → Q (.str v t) s') (e : v' = v) (F : Fr s.heap L s'.heap m) (hg : s'.gens = s.gens) (ho : s'.os = s.os) : Q (.str v' t) s' := e ▸ h t s' (.of_fr F hg ho)
end Mine
namespace Mine
def Stop (P : Prop) : Prop := P
theorem stop_intro {P : Prop} (h : Stop P) : P := h
theorem stop_elim {P : Prop} (h : P) : Stop P := h
end Mine
-- part C1
namespace Mine
def strLt (a b : PySem.Str) : Bool := decide (a.cps.toList < b.cps.toList)
def collOf (a b : PySem.Str) : Int := (if strLt b a then 1 else 0) - (if strLt a b then 1 else 0)
theorem coll_c {w : World} {mean mg mb} {A : Around} {s : Shared} {Q E : Value → Shared → Prop} {a b : PySem.Str} {ta tb : Tok}
    (hh : A.handled = none) (hdp : A.depth + 5 < recursionLimit) (hu : A.units + 40 < cLine)
    (X : (hd.heap_39 w.params).In s.heap) (T : Tp mean mg mb s.heap)
    (h : ∀ t s', Gs s s' → Q (.int (collOf a b) t) s') :
    wpAny (model PySem.Challenge.rw_ny0065_01.row.prog w) A (call (.ref 28) [.str a ta, .str b tb]) Q E s := by
  revert X; k_fill; intro X
  obtain ⟨_, dp, fr, gd, un⟩ := A
  dsimp only at hh hdp hu
  subst hh
  refine enterF X T.nolimit (f := 28) (binds := [(Str.ofString "a", .str a ta), (Str.ofString "b", .str b tb)]) rfl (by k_is) (by dsimp only; omega) (BindsTo.of_eq rfl) (locs rfl) (by decide) rfl rfl rfl (fun L h₁ F N => ?_)
  k_steps
  dsimp only
  refine fin_int h ?_ F rfl rfl
  unfold collOf strLt b2i
  by_cases h1 : b.cps.toList < a.cps.toList <;> by_cases h2 : a.cps.toList < b.cps.toList <;> simp [h1, h2]

def pick3 (k : Int) : Int := if k = 0 then 1 else if k = 1 then 3 else 4
def codeOf (x : Int) : Int :=
  if x % 3 = 0 then 25 * (1 + x / 3 % 4) else if x % 3 = 1 then 25 * (1 + x / 3 % 4) + 5 * pick3 (x / 12 % 3) else 25 * (1 + x / 3 % 4) + 5 * pick3 (x / 12 % 3) + pick3 (x / 36 % 3)

theorem tup3_at {prog : Program} {w : World} {A : Around} {E : Value → Shared → Prop} {s : Shared} {D : Addr} {a b c : Int} {ta tb tc : Tok} {k : Int} {u : Tok} {value slice : PySem.Expr} {Q : Value → Shared → Prop}
    (ht : IsTup s.heap D #[.int a ta, .int b tb, .int c tc]) (h0 : 0 ≤ k) (h1 : k < 3) (h : ∀ t, Q (.int (if k = 0 then a else if k = 1 then b else c) t) s)
    (hs : subscripted slice false (.ref D) (.int k u) = operate [.ref D, .int k u] (getItem (.ref D) (.int k u)) := by with_unfolding_all rfl) :
    wpAny (model prog w) A (subscriptTail value slice (.ref D) (.int k u)) Q E s := by
  have hk : k = 0 ∨ k = 1 ∨ k = 2 := by omega
  rcases hk with rfl | rfl | rfl
  · exact item_tupleT ht (by decide) (by decide) (j := 0) rfl (x := .int a ta) rfl (h ta) hs
  · exact item_tupleT ht (by decide) (by decide) (j := 1) rfl (x := .int b tb) rfl (h tb) hs
  · exact item_tupleT ht (by decide) (by decide) (j := 2) rfl (x := .int c tc) rfl (h tc) hs
local macro_rules | `(tactic| walk_at "subscriptTail") => `(tactic| (k_here; (with_reducible show wpAny _ _ (subscriptTail _ _ (Value.ref _) (Value.int _ _)) _ _ _); (with_unfolding_all refine' tup3_at ?t ?a ?b ?_ ?hs; (case t => exact News.isTup (by k_asm) (by k_mem)); (case a => omega); (case b => omega); (case hs => with_unfolding_all rfl); intro _)))
theorem code_c {w : World} {mean mg mb} {A : Around} {s : Shared} {Q E : Value → Shared → Prop} {x : Int} {t : Tok}
    (hh : A.handled = none) (hdp : A.depth + 5 < recursionLimit) (hu : A.units + 40 < cLine)
    (X : (hd.heap_39 w.params).In s.heap) (T : Tp mean mg mb s.heap)
    (h : ∀ t s', Gs s s' → Q (.int (codeOf x) t) s') :
    wpAny (model PySem.Challenge.rw_ny0065_01.row.prog w) A (call (.ref 104) [.int x t]) Q E s := by
  revert X; k_fill; intro X
  obtain ⟨_, dp, fr, gd, un⟩ := A
  dsimp only at hh hdp hu
  subst hh
  have m3 : ∀ y : Int, 0 ≤ y.fmod 3 ∧ y.fmod 3 < 3 := fun y => ⟨Int.fmod_nonneg_of_pos _ (by decide), Int.fmod_lt_of_pos _ (by decide)⟩
  have b1 := m3 (x.fdiv 12)
  have b2 := m3 (x.fdiv 36)
  have b3 := m3 x
  refine enterF X T.nolimit (f := 104) (binds := [(Str.ofString "x", .int x t)]) rfl (by k_is) (by dsimp only; omega) (BindsTo.of_eq rfl) (locs rfl) (by decide) rfl rfl rfl (fun L h₁ F N => ?_)
  k_steps
  all_goals (dsimp only; refine fin_int h ?_ (by assumption) rfl rfl)
  all_goals (simp only [Int.fdiv_eq_ediv_of_nonneg _ (show (0:Int) ≤ 3 by decide), Int.fdiv_eq_ediv_of_nonneg _ (show (0:Int) ≤ 12 by decide), Int.fdiv_eq_ediv_of_nonneg _ (show (0:Int) ≤ 36 by decide), Int.fmod_eq_emod_of_nonneg _ (show (0:Int) ≤ 3 by decide), Int.fmod_eq_emod_of_nonneg _ (show (0:Int) ≤ 4 by decide)])
  all_goals rfl
end Mine
-- part C2
namespace Mine
inductive OptV : Value → Option PySem.Str → Prop where
  | none : OptV .none none
  | str (x : PySem.Str) (t : Tok) : OptV (.str x t) (some x)
def locName (l e : Option PySem.Str) : PySem.Str := match e with
  | none => l.getD (Str.ofString "C")
  | some e => l.getD (Str.ofString "C") ++ Str.ofString "." ++ e
theorem len_dot : (Str.ofString ".").length = 1 := by decide +kernel
theorem len_C : (Str.ofString "C").length = 1 := by decide +kernel
local macro_rules | `(tactic| walk_at "binaryOp Add str str") => `(tactic| ((refine PyProof.Rows.add_str (hsz := ?hsz) ?_); (case hsz => (simp only [Str.length_append, sizeLine_eq, len_dot, len_C]; omega)); intro _ _))
theorem loc_tup {w : World} {mean mg mb} {A : Around} {s : Shared} {Q E : Value → Shared → Prop} {a : Addr} {v1 v2 : Value} {l e : Option PySem.Str}
    (hh : A.handled = none) (hdp : A.depth + 5 < recursionLimit) (hu : A.units + 40 < cLine)
    (X : (hd.heap_39 w.params).In s.heap) (T : Tp mean mg mb s.heap)
    (ht : IsTup s.heap a #[v1, v2]) (o1 : OptV v1 l) (o2 : OptV v2 e) (hl : (l.getD (Str.ofString "C")).length ≤ 1000) (he : (e.getD (Str.ofString "C")).length ≤ 1000)
    (h : ∀ t s', Gs s s' → Q (.str (locName l e) t) s') :
    wpAny (model PySem.Challenge.rw_ny0065_01.row.prog w) A (call (.ref 35) [.ref a]) Q E s := by
  revert X; k_fill; intro X
  obtain ⟨_, dp, fr, gd, un⟩ := A
  dsimp only at hh hdp hu
  subst hh
  cases o1 <;> cases o2
  all_goals (
    dsimp only [Option.getD] at hl he
    refine enterF X T.nolimit (f := 35) (binds := [(Str.ofString "localetuple", .ref a)]) rfl (by k_is) (by dsimp only; omega) (BindsTo.of_eq rfl) (locs rfl) (by decide) rfl rfl rfl (fun L h₁ F N => ?_)
    have ht' : IsTup h₁ a _ := ht.keeps F.keep
    k_steps
    dsimp only
    exact fin_str h rfl (by assumption) rfl rfl)
theorem loc_list {w : World} {mean mg mb} {A : Around} {s : Shared} {Q E : Value → Shared → Prop} {a : Addr} {v1 v2 : Value} {l e : Option PySem.Str}
    (hh : A.handled = none) (hdp : A.depth + 5 < recursionLimit) (hu : A.units + 40 < cLine)
    (X : (hd.heap_39 w.params).In s.heap) (T : Tp mean mg mb s.heap)
    (ht : s.heap.IsList a #[v1, v2]) (o1 : OptV v1 l) (o2 : OptV v2 e) (hl : (l.getD (Str.ofString "C")).length ≤ 1000) (he : (e.getD (Str.ofString "C")).length ≤ 1000)
    (h : ∀ t s', Gs s s' → Q (.str (locName l e) t) s') :
    wpAny (model PySem.Challenge.rw_ny0065_01.row.prog w) A (call (.ref 35) [.ref a]) Q E s := by
  revert X; k_fill; intro X
  obtain ⟨_, dp, fr, gd, un⟩ := A
  dsimp only at hh hdp hu
  subst hh
  cases o1 <;> cases o2
  all_goals (
    dsimp only [Option.getD] at hl he
    refine enterF X T.nolimit (f := 35) (binds := [(Str.ofString "localetuple", .ref a)]) rfl (by k_is) (by dsimp only; omega) (BindsTo.of_eq rfl) (locs rfl) (by decide) rfl rfl rfl (fun L h₁ F N => ?_)
    have ht' : h₁.IsList a _ := ht.at fun o e => F.keep _ o e
    k_steps
    dsimp only
    exact fin_str h rfl (by assumption) rfl rfl)
end Mine
-- part C3
namespace Mine
def lab (k : Int) : Option PySem.Str := if k = 1 then some (Str.ofString "0") else if k = 3 then some (Str.ofString "a") else if k = 4 then some (Str.ofString "a0") else none
def nameOf (c : Int) : PySem.Str := locName (some (locName (lab (c / 25)) (lab (c / 5 % 5)))) (lab (c % 5))
theorem lab_len (k : Int) : ((lab k).getD (Str.ofString "C")).length ≤ 2 := by
  unfold lab
  (repeat' split) <;> decide +kernel
theorem loc_len (k j : Int) : (locName (lab k) (lab j)).length ≤ 5 := by
  have h1 := lab_len k
  have h2 := lab_len j
  unfold locName
  split
  · omega
  · rename_i e he
    rw [he] at h2
    simp only [Str.length_append, len_dot, Option.getD] at *
    omega
theorem opt_at {t0 t1 t2 : Tok} {k : Int} (h0 : 0 ≤ k) (h1 : k < 5) : OptV (([.none, .str (Str.ofString "0") t0, .none, .str (Str.ofString "a") t1, .str (Str.ofString "a0") t2] : List Value).getD k.toNat .none) (lab k) := by
  have : k = 0 ∨ k = 1 ∨ k = 2 ∨ k = 3 ∨ k = 4 := by omega
  rcases this with rfl | rfl | rfl | rfl | rfl
  · exact .none
  · exact .str _ _
  · exact .none
  · exact .str _ _
  · exact .str _ _
theorem tup_at {prog : Program} {w : World} {A : Around} {E : Value → Shared → Prop} {s : Shared} {D : Addr} {vs : List Value} {k : Int} {u : Tok} {value slice : PySem.Expr} {Q : Value → Shared → Prop}
    (ht : IsTup s.heap D vs.toArray) (h0 : 0 ≤ k) (h1 : k < vs.length) (h2 : k < 2 ^ 63) (h : Q (vs.getD k.toNat .none) s)
    (hs : subscripted slice false (.ref D) (.int k u) = operate [.ref D, .int k u] (getItem (.ref D) (.int k u)) := by with_unfolding_all rfl) :
    wpAny (model prog w) A (subscriptTail value slice (.ref D) (.int k u)) Q E s := by
  have hj : seqIndex? k vs.length = some k.toNat := by
    unfold seqIndex?
    simp only [show ¬ k < 0 by omega, if_false]
    simp [h0, show k < vs.length from h1]
  have hx : vs[k.toNat]? = some (vs.getD k.toNat .none) := by
    have : k.toNat < vs.length := by omega
    simp [List.getD, this]
  exact item_tupleT ht (by omega) h2 hj hx h hs
local macro_rules | `(tactic| walk_at "my room") => `(tactic| (dsimp only [Around.deeper]; omega))
local macro_rules | `(tactic| walk_at "subscriptTail") => `(tactic| (k_here; (with_reducible show wpAny _ _ (subscriptTail _ _ (Value.ref _) (Value.int _ _)) _ _ _); (with_unfolding_all refine' tup_at (vs := [_, _, _, _, _]) ?t ?a ?b ?c ?_ ?hs; (case t => exact News.isTup (by k_asm) (by k_mem)); (case a => omega); (case b => (simp only [List.length_cons, List.length_nil]; omega)); (case c => omega); (case hs => with_unfolding_all rfl); k_whole)))
local macro_rules | `(tactic| walk_at "call ref") => `(tactic| ((with_reducible show wpAny _ _ (call (Value.ref 35) [Value.ref _]) _ _ _); (refine' loc_tup rfl ?a ?b ?X ?T ?ht ?o1 ?o2 ?hl ?he ?_; (case a => walk_at "my room"); (case b => walk_at "my room"); (case X => exact Frag.In.keeps (by assumption) (Fr.keep (by assumption))); (case T => exact Top.keeps (by assumption) (Fr.keep (by assumption))); (case ht => exact News.isTup (by k_asm) (by k_mem)); (case o1 => exact opt_at (by omega) (by omega)); (case o2 => exact opt_at (by omega) (by omega)); (case hl => exact Nat.le_trans (lab_len _) (by decide)); (case he => exact Nat.le_trans (lab_len _) (by decide)); intro t' s' g'; (have F' := frGs (by assumption) g'); (have N' := newsGs (by assumption) g')))) 
theorem name_c {w : World} {mean mg mb} {A : Around} {s : Shared} {Q E : Value → Shared → Prop} {c : Int} {t : Tok}
    (hh : A.handled = none) (hdp : A.depth + 8 < recursionLimit) (hu : A.units + 50 < cLine)
    (X : (hd.heap_39 w.params).In s.heap) (T : Tp mean mg mb s.heap)
    (hc : 25 ≤ c ∧ c < 125)
    (h : ∀ t s', Gs s s' → Q (.str (nameOf c) t) s') :
    wpAny (model PySem.Challenge.rw_ny0065_01.row.prog w) A (call (.ref 111) [.int c t]) Q E s := by
  revert X; k_fill; intro X
  obtain ⟨_, dp, fr, gd, un⟩ := A
  dsimp only at hh hdp hu
  subst hh
  have h25 : c.fdiv 25 = c / 25 := Int.fdiv_eq_ediv_of_nonneg _ (by decide)
  have h5 : (c.fdiv 5).fmod 5 = c / 5 % 5 := by rw [Int.fdiv_eq_ediv_of_nonneg _ (by decide), Int.fmod_eq_emod_of_nonneg _ (by decide)]
  have h55 : c.fmod 5 = c % 5 := Int.fmod_eq_emod_of_nonneg _ (by decide)
  refine enterF X T.nolimit (f := 111) (binds := [(Str.ofString "code", .int c t)]) rfl (by k_is) (by dsimp only; omega) (BindsTo.of_eq rfl) (locs rfl) (by decide) rfl rfl rfl (fun L h₁ F N => ?_)
  k_steps
  rename Gs _ _ => g1
  refine loc_list rfl (by walk_at "my room") (by walk_at "my room") (X.keeps (Fr.keep (by assumption))) (T.keeps (Fr.keep (by assumption))) (News.isList (by assumption) (by k_mem)) (.str _ _) (opt_at (by omega) (by omega)) ?_ ?_ (fun t' s' g' => ?_)
  · exact Nat.le_trans (loc_len _ _) (by decide)
  · exact Nat.le_trans (lab_len _) (by decide)
  · rw [h25, h5, h55]
    exact h _ _ ⟨fun b o e => g'.keep b o (Fr.keep (by assumption) b o e), g'.gens.trans g1.gens, g'.os.trans g1.os⟩
end Mine
-- part C4
namespace Mine
def aboveOf (c : Int) (cs : List Int) : Int := if c - c % 5 ≠ c ∧ c - c % 5 ∈ cs then c - c % 5 else if c - c % 25 ≠ c ∧ c - c % 25 ∈ cs then c - c % 25 else 0
theorem above_c {w : World} {mean mg mb} {A : Around} {s : Shared} {Q E : Value → Shared → Prop} {c : Int} {t : Tok} {a : Addr} {vs : List Value} {ns : List Int}
    (hh : A.handled = none) (hdp : A.depth + 8 < recursionLimit) (hu : A.units + 100 < cLine)
    (X : (hd.heap_39 w.params).In s.heap) (T : Tp mean mg mb s.heap)
    (hl : s.heap.IsList a vs.toArray) (hi : IntsAre vs ns) (hn : ns.length ≤ 1000)
    (h : ∀ t s', Gs s s' → Q (.int (aboveOf c ns) t) s') :
    wpAny (model PySem.Challenge.rw_ny0065_01.row.prog w) A (call (.ref 118) [.int c t, .ref a]) Q E s := by
  revert X; k_fill; intro X
  obtain ⟨_, dp, fr, gd, un⟩ := A
  dsimp only at hh hdp hu
  subst hh
  refine enterF X T.nolimit (f := 118) (binds := [(Str.ofString "code", .int c t), (Str.ofString "codes", .ref a)]) rfl (by k_is) (by dsimp only; omega) (BindsTo.of_eq rfl) (locs rfl) (by decide) rfl rfl rfl (fun L h₁ F N => ?_)
  have e5 : c.fmod 5 = c % 5 := Int.fmod_eq_emod_of_nonneg _ (by decide)
  have e25 : c.fmod 25 = c % 25 := Int.fmod_eq_emod_of_nonneg _ (by decide)
  k_steps
  all_goals ((try dsimp only); refine fin_int h ?_ (by assumption) rfl rfl)
  all_goals (unfold aboveOf; rw [← e5, ← e25]; (repeat' split) <;> first | rfl | (simp_all; done) | (exfalso; simp_all; first | exact (‹∀ (x : Int), x ∈ ns → ¬ x = c - c % 5› _ (by assumption) rfl) | exact (‹∀ (x : Int), x ∈ ns → ¬ x = c - c % 25› _ (by assumption) rfl)))
end Mine
-- part S1
namespace Mine
/-- strictly rising -/
def Ris (xs : Array Nat) : Prop := ∀ i j, (hi : i < xs.size) → (hj : j < xs.size) → i < j → xs[i] < xs[j]
theorem below_go (xs : Array Nat) (j : Nat) (hr : Ris xs) : ∀ (fuel lo hi : Nat), hi - lo ≤ fuel → lo ≤ hi → hi ≤ xs.size → (∀ i, (h : i < xs.size) → i < lo → xs[i] < j) → (∀ i, (h : i < xs.size) → hi ≤ i → j ≤ xs[i]) →
    SetTable.below.go xs j fuel lo hi ≤ xs.size ∧ (∀ i, (h : i < xs.size) → i < SetTable.below.go xs j fuel lo hi → xs[i] < j) ∧ (∀ i, (h : i < xs.size) → SetTable.below.go xs j fuel lo hi ≤ i → j ≤ xs[i])
  | 0, lo, hi, hf, hl, hh, h1, h2 => by
    unfold SetTable.below.go
    have : lo = hi := by omega
    subst this
    exact ⟨hh, h1, h2⟩
  | fuel + 1, lo, hi, hf, hl, hh, h1, h2 => by
    unfold SetTable.below.go
    by_cases hlt : lo < hi
    · simp only [hlt, if_true]
      have hm : (lo + hi) / 2 < xs.size := by omega
      have hg : xs.getD ((lo + hi) / 2) j = xs[(lo + hi) / 2] := by simp [Array.getD, hm]
      rw [hg]
      by_cases hc : xs[(lo + hi) / 2] < j
      · simp only [hc, if_true]
        refine below_go xs j hr fuel ((lo + hi) / 2 + 1) hi (by omega) (by omega) hh (fun i h hi' => ?_) h2
        by_cases he : i = (lo + hi) / 2
        · subst he; exact hc
        · have := hr i ((lo + hi) / 2) h hm (by omega); omega
      · simp only [hc, if_false]
        refine below_go xs j hr fuel lo ((lo + hi) / 2) (by omega) (by omega) (by omega) h1 (fun i h hi' => ?_)
        by_cases he : i = (lo + hi) / 2
        · subst he; omega
        · have := hr ((lo + hi) / 2) i hm h (by omega); omega
    · simp only [hlt, if_false]
      have : lo = hi := by omega
      subst this
      exact ⟨hh, h1, h2⟩
theorem below_spec {xs : Array Nat} (hr : Ris xs) (j : Nat) : SetTable.below xs j ≤ xs.size ∧ (∀ i, (h : i < xs.size) → i < SetTable.below xs j → xs[i] < j) ∧ (∀ i, (h : i < xs.size) → SetTable.below xs j ≤ i → j ≤ xs[i]) :=
  below_go xs j hr xs.size 0 xs.size (by omega) (by omega) (Nat.le_refl _) (fun i _ h => absurd h (Nat.not_lt_zero _)) (fun i h h' => absurd h (by omega))
/-- at the i-th one's place plus one stands the (i+1)-th -/
theorem below_next {xs : Array Nat} (hr : Ris xs) {i : Nat} (h : i < xs.size) : SetTable.below xs (xs[i] + 1) = i + 1 := by
  obtain ⟨h1, h2, h3⟩ := below_spec hr (xs[i] + 1)
  have a : i < SetTable.below xs (xs[i] + 1) := by
    refine Nat.lt_of_not_le fun hc => ?_
    have := h3 i h hc; omega
  have b : ¬ i + 1 < SetTable.below xs (xs[i] + 1) := fun hc => by
    have hs : i + 1 < xs.size := by omega
    have := h2 (i + 1) hs hc
    have := hr i (i + 1) h hs (by omega); omega
  omega
theorem below_zero {xs : Array Nat} (hr : Ris xs) : SetTable.below xs 0 = 0 := by
  obtain ⟨h1, h2, h3⟩ := below_spec hr 0
  by_cases h : SetTable.below xs 0 = 0
  · exact h
  · have := h2 0 (by omega) (by omega); omega
theorem ris_insert {xs : Array Nat} (hr : Ris xs) {j : Nat} (hn : xs[SetTable.below xs j]? ≠ some j) : Ris (SetTable.insertAt xs (SetTable.below xs j) j) := by
  obtain ⟨h1, h2, h3⟩ := below_spec hr j
  generalize SetTable.below xs j = p at *
  have hsz : (SetTable.insertAt xs p j).size = xs.size + 1 := by
    unfold SetTable.insertAt; simp; omega
  have hget : ∀ k, (hk : k < (SetTable.insertAt xs p j).size) → (SetTable.insertAt xs p j)[k]? = if k < p then xs[k]? else if k = p then some j else xs[k - 1]? := by
    intro k hk
    unfold SetTable.insertAt
    rw [Array.getElem?_append]
    simp only [Array.size_push, Array.size_extract, Nat.sub_zero, Nat.min_eq_left h1, Array.getElem?_push]
    by_cases a : k < p
    · simp [a, show k < p + 1 by omega, show ¬ k = p by omega, Array.getElem?_extract, Nat.min_eq_left h1]
    · by_cases b : k = p
      · simp [b]
      · simp only [a, b, show ¬ k < p + 1 by omega, if_false]
        rw [Array.getElem?_extract]
        simp only [Nat.min_self]
        rw [if_pos (by omega)]
        congr 1; omega
  have hgt : ∀ k, (hk : k < xs.size) → p ≤ k → j < xs[k] := by
    intro k hk hp
    have ge := h3 k hk hp
    by_cases e : k = p
    · subst e
      have : xs[k] ≠ j := fun q => hn (by rw [Array.getElem?_eq_getElem hk, q])
      omega
    · have hp' : p < xs.size := by omega
      have := hr p k hp' hk (by omega)
      have := h3 p hp' (Nat.le_refl _)
      omega
  intro a b ha hb hab
  have ea := hget a ha
  have eb := hget b hb
  rw [Array.getElem?_eq_getElem ha] at ea
  rw [Array.getElem?_eq_getElem hb] at eb
  rw [hsz] at ha hb
  by_cases a1 : a < p
  · rw [if_pos a1, Array.getElem?_eq_getElem (show a < xs.size by omega)] at ea
    have ea' := Option.some.inj ea
    rw [ea']
    by_cases b1 : b < p
    · rw [if_pos b1, Array.getElem?_eq_getElem (show b < xs.size by omega)] at eb
      rw [Option.some.inj eb]; exact hr a b _ _ hab
    · rw [if_neg b1] at eb
      by_cases b2 : b = p
      · rw [if_pos b2] at eb; rw [Option.some.inj eb]; exact h2 a (by omega) a1
      · rw [if_neg b2, Array.getElem?_eq_getElem (show b - 1 < xs.size by omega)] at eb
        rw [Option.some.inj eb]
        have := h2 a (by omega) a1
        have := hgt (b - 1) (by omega) (by omega)
        omega
  · rw [if_neg a1] at ea
    rw [if_neg (show ¬ b < p by omega), if_neg (show ¬ b = p by omega), Array.getElem?_eq_getElem (show b - 1 < xs.size by omega)] at eb
    rw [Option.some.inj eb]
    by_cases a2 : a = p
    · rw [if_pos a2] at ea; rw [Option.some.inj ea]; exact hgt (b - 1) (by omega) (by omega)
    · rw [if_neg a2, Array.getElem?_eq_getElem (show a - 1 < xs.size by omega)] at ea
      rw [Option.some.inj ea]
      exact hr (a - 1) (b - 1) _ _ (by omega)
end Mine
-- part S2
namespace Mine
structure Tab (w : World) (t : SetTable) : Prop where
  dum : t.dummies = #[]
  led : t.led = !w.params.followText "set-order"
  ris : t.plain = true → Ris t.place
theorem has_nil (j : Nat) : SetTable.has #[] j = false := by
  unfold SetTable.has; simp
theorem slot_nodum {t : SetTable} (h : t.dummies = #[]) (j : Nat) : t.slot j ≠ .dummy := by
  unfold SetTable.slot
  dsimp only
  rw [h, has_nil]
  split <;> simp
theorem slot_empty {t : SetTable} {j : Nat} (h : t.slot j = .empty) : t.place[SetTable.below t.place j]? ≠ some j := by
  intro q
  unfold SetTable.slot at h
  dsimp only at h
  rw [q] at h
  simp at h
theorem adv_dummy (t : SetTable) (p : SetTable.Probe) : (t.advance p).dummy = p.dummy := by
  unfold SetTable.advance
  split <;> rfl
theorem probe_empty {t : SetTable} (hd : t.dummies = #[]) {hashAt : Nat → Int} {h : Int} {j : Nat} {d : Option Nat} : ∀ (fuel : Nat) (p : SetTable.Probe), p.dummy = none →
    SetTable.probe.go t hashAt h fuel p = some (.empty j d) → t.slot j = .empty ∧ d = none
  | 0, p, _, e => by unfold SetTable.probe.go at e; cases e
  | fuel + 1, p, hp, e => by
    unfold SetTable.probe.go at e
    split at e
    · rename_i hs
      injection e with e; injection e with e1 e2
      subst e1; subst e2
      exact ⟨hs, hp⟩
    · rename_i hs
      exact absurd hs (slot_nodum hd _)
    · split at e
      · injection e with e; injection e
      · exact probe_empty hd fuel _ (by rw [adv_dummy]; exact hp) e
theorem freeSlot_spec {t : SetTable} (hd : t.dummies = #[]) {h : Int} {slot : Nat} {wd : Bool} (e : t.freeSlot h = some (slot, wd)) : t.slot slot = .empty := by
  unfold SetTable.freeSlot at e
  split at e
  · rename_i j dummy hm
    injection e with e; injection e with e1 e2
    obtain ⟨h1, h2⟩ := probe_empty hd _ _ (by unfold SetTable.probeStart; rfl) hm
    subst h2
    subst e1
    exact h1
  · cases e
theorem Tab.standIn {w : World} {t : SetTable} (h : Tab w t) (n : Nat) : Tab w (t.standIn n) := ⟨rfl, h.led, fun q => by cases q⟩
theorem Tab.orStandIn {w : World} {t : SetTable} (h : Tab w t) (n : Nat) : Tab w (t.orStandIn n) := by
  unfold SetTable.orStandIn
  split
  · exact h
  · exact h.standIn n
theorem Tab.put {w : World} {t : SetTable} (h : Tab w t) {j : Nat} (hs : t.slot j = .empty) : Tab w (t.put j).1 := by
  refine ⟨?_, h.led, fun hp => ris_insert (h.ris hp) (slot_empty hs)⟩
  show (if SetTable.has t.dummies j = true then _ else t.dummies) = #[]
  rw [h.dum, has_nil]; rfl
theorem Tab.off {w : World} {t : SetTable} (h : Tab w t) : Tab w { t with plain := false } := ⟨h.dum, h.led, fun q => by cases q⟩
theorem Tab.layNew {w : World} {t : SetTable} (h : Tab w t) (es : Array (Int × Value)) (k : Int) (x : Value) : Tab w (layNew t es k x).2.1 := by
  unfold PySem.layNew
  split
  · rename_i slot wd e
    exact (h.put (freeSlot_spec h.dum e)).orStandIn _
  · exact h.standIn _
theorem ris_of_pairwise {l : List Nat} (h : l.Pairwise (· < ·)) : Ris l.toArray := by
  intro i j hi hj hij
  simp only [List.getElem_toArray]
  exact List.pairwise_iff_getElem.mp h i j (by simpa using hi) (by simpa using hj) hij
theorem Tab.relaid {w : World} {t t' : SetTable} {order : Array Nat} {hs : Array Int} {wanted : Nat} (h : Tab w t) (e : t.relaid hs wanted = some (t', order)) : Tab w t' := by
  unfold SetTable.relaid SetTable.laid at e
  cases ho : SetTable.layClean (SetTable.sizeAbove wanted - 1) hs with
  | none => rw [ho] at e; cases e
  | some owner =>
    rw [ho] at e
    injection e with e; injection e with e1 e2
    subst e1
    refine ⟨rfl, h.led, fun _ => ris_of_pairwise ?_⟩
    rw [List.map_filterMap]
    have hp : (List.range (SetTable.sizeAbove wanted - 1 + 1)).Pairwise (· < ·) := List.pairwise_lt_range
    refine List.Pairwise.filterMap _ (fun a a' haa b hb b' hb' => ?_) hp
    simp only [Option.mem_def, Option.map_eq_some_iff] at hb hb'
    obtain ⟨q, ⟨_, _, rfl⟩, rfl⟩ := hb
    obtain ⟨q', ⟨_, _, rfl⟩, rfl⟩ := hb'
    exact haa
theorem Tab.relayAll {w : World} {t : SetTable} (h : Tab w t) (es : Array (Int × Value)) (wanted : Nat) : Tab w (relayAll t es wanted).2.1 := by
  unfold PySem.relayAll
  split
  · rename_i t' order e
    dsimp only
    split
    · exact h.relaid e
    · exact h.standIn _
  · exact h.standIn _
theorem Tab.fresh {w : World} (f m : Nat) : Tab w (.fresh f m (!w.params.followText "set-order")) := ⟨rfl, rfl, fun _ i j hi => by
  exact absurd hi (by simp [SetTable.fresh])⟩
end Mine
-- part S3
namespace Mine
abbrev setO (es : Array (Int × Value)) (ep : Nat) (t : SetTable) : Obj := { cls := .type "set", dict := none, data := .set es ep t, slots := #[] }
section
variable {prog : Program} {w : World} {K : Type} [DecidableEq K] (knd : KeyKind prog w K)
def Apart (e e' : Int × Value) : Prop := ∀ k, knd.is k e.2 = true → knd.is k e'.2 = true → False
structure SetT (es : Array (Int × Value)) (t : SetTable) (S : K → Bool) : Prop where
  el : ElemsOf knd es.toList
  mem : ∀ k, S k = true ↔ ∃ e ∈ es.toList, knd.is k e.2 = true
  nd : es.toList.Pairwise (Apart knd)
  sz : es.size < scanBound
  fit : t.fits es.size = true
  tab : Tab w t
variable {knd}
theorem apart_symm {e e' : Int × Value} (h : Apart knd e e') : Apart knd e' e := fun k a b => h k b a
theorem SetT.setOf {h : Heap} {a : Addr} {es : Array (Int × Value)} {ep : Nat} {t : SetTable} {S : K → Bool} (H : SetT knd es t S) (ho : h.get? a = some (setO es ep t)) : h.SetOf knd a S es.size :=
  ⟨_, es, ep, t, ho, ⟨rfl, rfl, rfl⟩, rfl, H.el, H.mem, H.sz, H.fit, rfl⟩
theorem SetT.empty : SetT knd #[] (.fresh 0 0 (!w.params.followText "set-order")) (fun _ => false) where
  el := fun e he => by simp at he
  mem := fun k => by simp
  nd := by simp
  sz := by decide
  fit := by rfl
  tab := Tab.fresh 0 0
variable {A : Around} {E : Value → Shared → Prop} {s : Shared}
theorem set_stored {h : Heap} {a : Addr} {es es' : Array (Int × Value)} {ep : Nat} {t t' : SetTable} (ho : h.get? a = some (setO es ep t)) : (h.update a (Obj.putSet es' t')).get? a = some (setO es' (ep + 1) t') := by
  have := Heap.get?_update_self (Obj.putSet es' t') ho (by rfl)
  exact this
theorem relay_T {es1 : Array (Int × Value)} {t2 : SetTable} {S' : K → Bool} (H : SetT knd es1 t2 S') : SetT knd (relayAll t2 es1 (SetTable.grown es1.size)).1 (relayAll t2 es1 (SetTable.grown es1.size)).2.1 S' := by
  have hp := relayAll_perm t2 es1 (SetTable.grown es1.size)
  have hsz : (relayAll t2 es1 (SetTable.grown es1.size)).1.size = es1.size := by rw [← Array.length_toList, hp.length_eq, Array.length_toList]
  exact ⟨H.el.perm hp, fun k => (H.mem k).trans ⟨fun ⟨e, he, q⟩ => ⟨e, hp.mem_iff.mpr he, q⟩, fun ⟨e, he, q⟩ => ⟨e, hp.mem_iff.mp he, q⟩⟩,
    (hp.pairwise_iff (fun h => apart_symm h)).mpr H.nd, by rw [hsz]; exact H.sz, relayAll_fits _ _ _, H.tab.relayAll _ _⟩
theorem relay_sz (es1 : Array (Int × Value)) (t2 : SetTable) : (relayAll t2 es1 (SetTable.grown es1.size)).1.size = es1.size := by
  rw [← Array.length_toList, (relayAll_perm t2 es1 (SetTable.grown es1.size)).length_eq, Array.length_toList]
theorem setAdd_T {a : Addr} {es : Array (Int × Value)} {ep : Nat} {t : SetTable} {S : K → Bool} {k : K} {x : Value} {Q : Bool → Shared → Prop} (hkey : knd.is k x = true) (hsc : x.scannable = true)
    (ho : s.heap.get? a = some (setO es ep t)) (H : SetT knd es t S) (hroom : es.size + 1 < scanBound)
    (h : ∀ b h' es' ep' t', Heap.SameBut a s.heap h' → h'.get? a = some (setO es' ep' t') → SetT knd es' t' (fun k' => S k' || decide (k' = k)) → es'.size ≤ es.size + 1 → Q b { s with heap := h' }) :
    wpAny (model prog w) A (setAddHashed a x (knd.hash k)) Q E s := by
  unfold setAddHashed setAddHashedIn
  refine wpAny_holding (wpAny_bind (wpAny_setState_of ho rfl H.fit ?_))
  dsimp only
  rw [byScan_of hsc H.sz H.el]
  simp only [↓reduceIte]
  unfold setAddByScan
  refine wpAny_bind ?_
  refine wpAny_bind (wpAny_rule ?_)
  refine wpAny_bind (wpAny_setScan_of hkey ho rfl H.fit H.el ?_)
  cases hr : List.findIdx? (fun e => knd.is k e.2) es.toList with
  | some j =>
    dsimp only
    obtain ⟨hj, hpj, _⟩ := List.findIdx?_eq_some_iff_getElem.mp hr
    have hSk : S k = true := (H.mem k).mpr ⟨es.toList[j], List.getElem_mem hj, hpj⟩
    refine wpAny_pure (wpAny_pure ?_)
    have e : s = { s with heap := s.heap } := by cases s; rfl
    rw [e]
    refine h _ s.heap es ep t (Heap.SameBut.refl a s.heap) ho ⟨H.el, fun k' => ?_, H.nd, H.sz, H.fit, H.tab⟩ (Nat.le_succ _)
    rw [Bool.or_eq_true, decide_eq_true_eq, ← H.mem k']
    exact ⟨fun hk => hk.elim id (fun e => e ▸ hSk), .inl⟩
  | none =>
    dsimp only
    have hno : ∀ e ∈ es.toList, knd.is k e.2 = false := fun e he => by simpa using List.findIdx?_eq_none_iff.mp hr e he
    have hgw : ∀ (b : Bool) {s₁ : Shared} {Q' : Unit → Shared → Prop}, Q' () s₁ → wpAny (model prog w) A (match b with | true => rule "set.scan.the-table-gave-way" | false => pure ()) Q' E s₁ :=
      fun b s₁ Q' hq => by cases b <;> first | exact wpAny_pure hq | exact wpAny_rule hq
    have hperm := layNew_perm t es (knd.hash k) x
    have hfits := layNew_fits t es (knd.hash k) x
    have htab := H.tab.layNew es (knd.hash k) x
    generalize hL : layNew t es (knd.hash k) x = L at hperm hfits htab ⊢
    obtain ⟨es1, t1, wasDummy, gave⟩ := L
    dsimp only at hperm hfits htab ⊢
    rw [Array.toList_push] at hperm
    have hsz1 : es1.size = es.size + 1 := by rw [← Array.length_toList, hperm.length_eq, List.length_append, Array.length_toList]; rfl
    have hnd : (es.toList ++ [(knd.hash k, x)]).Pairwise (Apart knd) := by
      rw [List.pairwise_append]
      refine ⟨H.nd, by simp, fun e he e' he' k' h1 h2 => ?_⟩
      rw [List.mem_singleton] at he'; subst he'
      have := knd.inj x k' k h2 hkey
      subst this
      rw [hno e he] at h1; cases h1
    have mk : ∀ t2 : SetTable, t2.fits es1.size = true → Tab w t2 → SetT knd es1 t2 (fun k' => S k' || decide (k' = k)) := fun t2 hf ht =>
      ⟨(H.el.push hkey hsc).perm hperm, mem_push_iff hkey H.mem hperm, (hperm.pairwise_iff (fun h => apart_symm h)).mpr hnd, by rw [hsz1]; exact hroom, hf, ht⟩
    have gw : ∀ (b : Bool) (s₁ : Shared) (Q' : Unit → Shared → Prop), Q' () s₁ → wpAny (model prog w) A (match b with | true => rule "set.scan.the-table-gave-way" | false => pure ()) Q' E s₁ := fun b s₁ Q' hq => hgw b hq
    have fit1 := fits_of_scanBound (show es1.size < scanBound by rw [hsz1]; exact hroom)
    refine wpAny_bind (hgw _ ?_)
    split
    · refine wpAny_bind ?_
      rw [hashByValue_scannable 8 hsc]
      refine wpAny_pure ?_
      split
      · have H1 := mk _ hfits htab
        refine wpAny_bind (wpAny_storeSet_of ho rfl ?_ fit1)
        split
        · refine wpAny_bind (gw _ _ _ ?_)
          have H2 := relay_T H1
          refine wpAny_bind (wpAny_storeSet_of (set_stored ho) rfl ?_ (fits_of_scanBound H2.sz))
          refine wpAny_pure ?_
          dsimp only
          exact wpAny_pure (h _ _ _ _ _ ((Heap.SameBut.update _ a _).trans (Heap.SameBut.update _ a _)) (set_stored (set_stored ho)) H2 (by rw [relay_sz]; omega))
        · refine wpAny_pure ?_
          dsimp only
          exact wpAny_pure (h _ _ _ _ _ (Heap.SameBut.update _ a _) (set_stored ho) H1 (by omega))
      · have H1 := mk _ (SetTable.fits_plain_off hfits) htab.off
        refine wpAny_bind (wpAny_storeSet_of ho rfl ?_ fit1)
        split
        · refine wpAny_bind (gw _ _ _ ?_)
          have H2 := relay_T H1
          refine wpAny_bind (wpAny_storeSet_of (set_stored ho) rfl ?_ (fits_of_scanBound H2.sz))
          refine wpAny_pure ?_
          dsimp only
          exact wpAny_pure (h _ _ _ _ _ ((Heap.SameBut.update _ a _).trans (Heap.SameBut.update _ a _)) (set_stored (set_stored ho)) H2 (by rw [relay_sz]; omega))
        · refine wpAny_pure ?_
          dsimp only
          exact wpAny_pure (h _ _ _ _ _ (Heap.SameBut.update _ a _) (set_stored ho) H1 (by omega))
    · refine wpAny_bind (wpAny_pure ?_)
      simp only [↓reduceIte]
      have H1 := mk _ hfits htab
      refine wpAny_bind (wpAny_storeSet_of ho rfl ?_ fit1)
      split
      · refine wpAny_bind (gw _ _ _ ?_)
        have H2 := relay_T H1
        refine wpAny_bind (wpAny_storeSet_of (set_stored ho) rfl ?_ (fits_of_scanBound H2.sz))
        refine wpAny_pure ?_
        dsimp only
        exact wpAny_pure (h _ _ _ _ _ ((Heap.SameBut.update _ a _).trans (Heap.SameBut.update _ a _)) (set_stored (set_stored ho)) H2 (by rw [relay_sz]; omega))
      · refine wpAny_pure ?_
        dsimp only
        exact wpAny_pure (h _ _ _ _ _ (Heap.SameBut.update _ a _) (set_stored ho) H1 (by omega))
end
end Mine
-- part S4
namespace Mine
section
variable {prog : Program} {w : World} {K : Type} [DecidableEq K] {knd : KeyKind prog w K} {A : Around} {E : Value → Shared → Prop} {s : Shared} {R : Result → Shared → Prop} {I : Addr} {fp wr : List Addr} {n : Nat} {P : Nat → Value → Prop} {St : Nat → Heap → Prop}
theorem update_loop_T (W : Walks prog w A.in1 I fp wr n P St) (Sa : Addr) (hSf : Sa ∉ fp) (val : Nat → K) (hval : ∀ i v, P i v → knd.is (val i) v = true ∧ v.scannable = true) (hb : n + 1 < scanBound) :
    ∀ (k i : Nat) (s : Shared) (es : Array (Int × Value)) (ep : Nat) (t : SetTable) (S : K → Bool), n - i = k → i ≤ n → St i s.heap → s.heap.get? Sa = some (setO es ep t) → SetT knd es t S → es.size ≤ i →
      (∀ h' tk es' ep' t' S', (∀ b o, b ∉ Sa :: wr → s.heap.get? b = some o → h'.get? b = some o) → h'.get? Sa = some (setO es' ep' t') → SetT knd es' t' S' → (∀ k, S' k = true ↔ S k = true ∨ ∃ j, i ≤ j ∧ j < n ∧ val j = k) → es'.size ≤ n → R (.ok (.ret .none)) { s with heap := h', toks := tk }) →
      codeAny (model prog w) A (.builtin "set.update.loop" ⟨[.ref Sa, .ref I], []⟩) R s := by
  have hSw : Sa ∉ wr := fun h => hSf (W.sub _ h)
  intro k
  induction k with
  | zero =>
    intro i s es ep t S hk hi hst ho H hle hR
    have hin : i = n := by omega
    subst hin
    refine codeAny_builtin F.entry_set_update_loop ?_
    rw [Around.under_plainId F.plain_set_update_loop _]
    show wpAny _ A.in1 (pyNext (.ref I) >>= _) _ _ s
    refine wpAny_bind (W.done s _ _ hst fun h' tk hm => ?_)
    show wpAny _ A.in1 (ret Value.none) _ _ _
    refine wpAny_pure (hR h' tk es ep t S (fun b o hb e => hm b o (fun q => hb (List.mem_cons_of_mem _ q)) e) (hm _ _ hSw ho) H (fun k => ?_) hle)
    exact ⟨.inl, fun q => q.elim id fun ⟨j, h1, h2, _⟩ => absurd h2 (by omega)⟩
  | succ k ih =>
    intro i s es ep t S hk hi hst ho H hle hR
    have hlt : i < n := by omega
    refine codeAny_builtin F.entry_set_update_loop ?_
    rw [Around.under_plainId F.plain_set_update_loop _]
    show wpAny _ A.in1 (pyNext (.ref I) >>= _) _ _ s
    refine wpAny_bind (W.item i s _ _ hlt hst fun v h1 tk1 hP hst1 hm => ?_)
    obtain ⟨hkey, hsc⟩ := hval i v hP
    have ho1 : h1.get? Sa = some (setO es ep t) := hm _ _ hSw ho
    show wpAny _ A.in1 (holding [v] (setAdd Sa v) >>= _) _ _ _
    refine wpAny_bind (wpAny_holding ?_)
    unfold setAdd
    refine wpAny_holding ?_
    refine wpAny_bind (knd.pyHash hkey ?_)
    refine setAdd_T (s := { s with heap := h1, toks := tk1 + 1 }) hkey hsc ho1 H (by omega) fun b h2 es2 ep2 t2 hsb ho2 H2 hle2 => ?_
    refine wpAny_pure ⟨plainId_quiet F.plain_set_update_loop _, ih (i + 1) _ es2 ep2 t2 _ (by omega) hlt (W.frame _ h1 _ hst1 fun b hb o e => ?_) ho2 H2 (by omega) fun h3 tk3 es3 ep3 t3 S3 hk3 ho3 H3 hS3 hle3 => ?_⟩
    · exact hsb.extBut b o (fun h : b = Sa => hSf (by rw [← h]; exact hb)) e
    · refine hR h3 tk3 es3 ep3 t3 S3 (fun b o hb e => ?_) ho3 H3 (fun k' => ?_) hle3
      · have hb' : b ≠ Sa := fun q => hb (by rw [q]; exact List.mem_cons_self)
        exact hk3 b o hb (hsb.extBut b o hb' (hm b o (fun q => hb (List.mem_cons_of_mem _ q)) e))
      · rw [hS3 k', Bool.or_eq_true, decide_eq_true_eq]
        constructor
        · rintro ((q | q) | ⟨j, a, b, c⟩)
          · exact .inl q
          · exact .inr ⟨i, Nat.le_refl _, hlt, q.symm⟩
          · exact .inr ⟨j, by omega, b, c⟩
        · rintro (q | ⟨j, a, b, c⟩)
          · exact .inl (.inl q)
          · by_cases e : j = i
            · subst e; exact .inl (.inr c.symm)
            · exact .inr ⟨j, by omega, b, c⟩

theorem set_new_T (a : Value) {Q₁ : Value → Shared → Prop}
    (h : Q₁ (.ref s.heap.objs.size) { s with heap := s.heap.push (setO #[] 0 (.fresh 0 0 (!w.params.followText "set-order"))) }) :
    codeAny (model prog w) A (.call (.builtin "set.__new__") ⟨[.type "set", a], []⟩) (wants Q₁ E) s := by
  refine codeAny_of_tree ?_
  show wpAny _ A.in1 (do checkBuiltinCall "set.__new__" ⟨[.type "set", a], []⟩; again (.builtin "set.__new__" ⟨[.type "set", a], []⟩)) _ _ s
  refine wpAny_bind (wpAny_of_eq (PySem.F.newCall_set_1 a) (wpAny_pure ⟨plainId_quiet PySem.F.plain_set_new _, codeAny_builtin PySem.F.entry_set_new ?_⟩))
  rw [Around.under_plainId PySem.F.plain_set_new _]
  unfold Builtin.«set.__new__» Builtin.Frozenset.newClass
  have hsub := sub_set_self
  obtain ⟨hp, g, d, tk, os⟩ := s
  dsimp only
  wp_walk
  refine wpAny_askSetting (wpAny_pure ?_)
  dsimp only
  simp only [newObj]
  refine wpAny_bind (wpAny_alloc (wpAny_pure ?_))
  exact wpAny_pure h
end
end Mine
-- part S5
namespace Mine
section
variable {prog : Program} {w : World} {K : Type} [DecidableEq K] {knd : KeyKind prog w K} {A : Around} {E : Value → Shared → Prop} {s : Shared}
theorem set_of_list {l : Addr} {items : Array Value} {Q : Value → Shared → Prop} (val : Nat → K)
    (hh : A.handled = none) (hl : s.heap.IsList l items) (hval : ∀ i v, items[i]? = some v → knd.is (val i) v = true ∧ v.scannable = true) (hb : items.size + 1 < scanBound)
    (h : ∀ (h' : Heap) (tk : Nat) es ep t S, h'.get? s.heap.objs.size = some (setO es ep t) → SetT knd es t S → (∀ k, S k = true ↔ ∃ j, j < items.size ∧ val j = k) → es.size ≤ items.size →
      (∀ b o, b < s.heap.objs.size → s.heap.get? b = some o → h'.get? b = some o) → Q (.ref s.heap.objs.size) { s with heap := h', toks := tk }) :
    wpAny (model prog w) A (call (.type "set") [.ref l]) Q E s := by
  obtain ⟨c, tl, hmro⟩ := PySem.F.called_set.mro
  have hmade := PySem.F.called_set.made
  have hsub := PySem.F.called_set.sub
  refine wpAny_call (codeAny_of_tree ?_)
  show wpAny _ _ (callAny (.type "set") _) _ _ _
  refine wpAny_pure ⟨Code.quiet_builtin _ (by decide +kernel), codeAny_builtin PySem.F.entry_type_call ?_⟩
  rw [Around.under_plain (weight_type_call_type "set" [.ref l] []) rfl]
  have h1 := PySem.F.called_set.notType
  have h2 := PySem.F.called_set.canCreate
  have hct := PySem.F.typeCall_set_1 (.ref l)
  repeat (any_goals (first | assumption | wp_step))
  have hE0 : SetT knd #[] (.fresh 0 0 (!w.params.followText "set-order")) (fun _ => false) := SetT.empty
  have hN0 := @set_new_T prog w A.in1 E s (.ref l)
  generalize (!w.params.followText "set-order") = led at hE0 hN0
  refine codeAny_mono (hN0 (Q₁ := fun obj s₁ => obj = .ref s.heap.objs.size ∧ s₁ = { s with heap := s.heap.push { cls := .type "set", dict := none, data := .set #[] 0 (.fresh 0 0 led) } }) ⟨rfl, rfl⟩) fun r s₁ hr => ?_
  cases r with
  | error e => exact hr
  | ok fl =>
    cases fl with
    | ret obj =>
      obtain ⟨rfl, rfl⟩ := hr
      have hS : (s.heap.push { cls := .type "set", dict := none, data := .set #[] 0 (.fresh 0 0 led) }).get? s.heap.objs.size = some { cls := .type "set", dict := none, data := .set #[] 0 (.fresh 0 0 led) } := Heap.get?_push_size _ rfl
      have hT : Shared.TypeIs { s with heap := s.heap.push { cls := .type "set", dict := none, data := .set #[] 0 (.fresh 0 0 led) } } (.ref s.heap.objs.size) "set" := ⟨_, hS, rfl⟩
      have hli := PySem.F.called_set.init.lookup
      have hbi := PySem.F.called_set.init.bind (.ref s.heap.objs.size)
      repeat (any_goals (first | assumption | wp_step))
      refine codeAny_mono (codeAny_call_builtin (R := wants (fun r s₂ => r = .none ∧ Q (.ref s.heap.objs.size) s₂) E) PySem.F.called_set.init.plain PySem.F.entry_set_init (check_set_init_1 hT ?_)) fun r₂ s₂ hr₂ => ?_
      · obtain ⟨ol, hol, hcl, nl, hdl⟩ := hl
        obtain ⟨ocls, odict, odata, oslots⟩ := ol
        simp only at hcl hdl
        subst hcl; subst hdl
        have hol' : (s.heap.push { cls := .type "set", dict := none, data := .set #[] 0 (.fresh 0 0 led) }).get? l = some { cls := .type "list", dict := odict, data := .seq items nl, slots := oslots } := Heap.get?_push_of_some _ hol
        have hsls := PySem.F.sub_list_set
        have hslf := PySem.F.sub_list_frozenset
        have hne : (Value.type "list" == Value.type "dict") = false := by decide
        have hl1 : (s.heap.push { cls := .type "set", dict := none, data := .set #[] 0 (.fresh 0 0 led) }).IsList l items := ⟨_, hol', rfl, nl, rfl⟩
        unfold Builtin.«set.__init__» noKeywords Builtin.Frozenset.updateFrom
        generalize hPI : pyIter = PI
        wp_walk
        subst hPI
        refine wpAny_pyIter_list hl1 ?_
        refine wpAny_bind (wpAny_runValue ?_)
        have hlS : l < s.heap.objs.size := Heap.lt_size hol
        have hh3 : A.in1.in1.in1.handled = none := by simp [hh]
        have hneI : l ≠ (s.heap.push { cls := .type "set", dict := none, data := .set #[] 0 (.fresh 0 0 led) }).objs.size := by
          rw [Heap.size_push]; exact Nat.ne_of_lt (Nat.lt_succ_of_lt hlS)
        have hSf : s.heap.objs.size ∉ [(s.heap.push { cls := .type "set", dict := none, data := .set #[] 0 (.fresh 0 0 led) }).objs.size, l] := by
          rw [Heap.size_push]; simp only [List.mem_cons, List.not_mem_nil, or_false, not_or]
          exact ⟨Nat.ne_of_lt (Nat.lt_succ_self _), Nat.ne_of_gt hlS⟩
        refine update_loop_T (knd := knd) (Walks.list hh3 _ l hneI items) s.heap.objs.size hSf val (fun i v hP => hval i v hP) hb (items.size - 0) 0 _ #[] 0 (.fresh 0 0 led) (fun _ => false) (by omega) (Nat.zero_le _)
          ⟨⟨_, Heap.get?_push_size _ rfl, rfl, rfl⟩, (hl1.push _)⟩ (Heap.get?_push_of_some _ hS) hE0 (Nat.le_refl _) ?hR
        case hR =>
          intro h' tk es ep t S hk ho' HS hmem hle
          show wpAny _ _ _ _ _ _
          refine wpAny_pure ?_
          show wpAny _ _ (ret Value.none) _ _ _
          refine wpAny_pure ⟨rfl, h h' tk es ep t S ho' HS (fun k => ?_) hle fun b o hb e => ?_⟩
          · rw [hmem k]
            simp
          · have hb1 : b ≠ s.heap.objs.size := Nat.ne_of_lt hb
            have hb2 : b ≠ (s.heap.push { cls := .type "set", dict := none, data := .set #[] 0 (.fresh 0 0 led) }).objs.size := by
              rw [Heap.size_push]; exact Nat.ne_of_lt (Nat.lt_succ_of_lt hb)
            exact hk b o (by simp only [List.mem_cons, List.not_mem_nil, or_false, not_or]; exact ⟨hb1, hb2⟩) (Heap.get?_push_of_some _ (Heap.get?_push_of_some _ e))
      · cases r₂ with
        | error e => exact hr₂
        | ok fl₂ =>
          cases fl₂ with
          | ret r =>
            obtain ⟨rfl, hq⟩ := hr₂
            repeat (any_goals (first | assumption | wp_step))
          | _ => exact hr₂.elim
    | _ => exact hr.elim
end
end Mine
-- part S6
namespace Mine
theorem slot_setiter_next : Slot "set_iterator" "__next__" "set_iterator.__next__" :=
  .of (owner := "set_iterator") (n := "__next__") (by rw [typeLookup_type, builtinLookup_eq_fast]; kernel_rfl) (by decide +kernel) (by decide +kernel) (by decide +kernel)
    (by first | exact .inl (by decide +kernel) | exact .inr (by decide +kernel)) (by rw [isSubtype_type]; kernel_rfl)
theorem entry_setiter_next : entryFor table "set_iterator.__next__" = some Builtin.«set_iterator.__next__» := entryFor_of_tree (by kernel_rfl)
theorem owner_setiter : Manifest.owners.lookup (String.ofList ['r', 'o', 't', 'a', 'r', 'e', 't', 'i', '_', 't', 'e', 's'].reverse) = some Manifest.sig_set_iterator := by kernel_rfl
theorem args_setiter_next (a : Value) : argsOk "set_iterator.__next__" ⟨[a], []⟩ := by
  unfold argsOk; rw [signature?_of (id := "set_iterator.__next__") (n := ['_', '_', 't', 'x', 'e', 'n', '_', '_']) (o := ['r', 'o', 't', 'a', 'r', 'e', 't', 'i', '_', 't', 'e', 's']) (by kernel_rfl) owner_setiter]; kernel_rfl
theorem entry_set_iter : entryFor table "set.__iter__" = some Builtin.«frozenset.__iter__» :=
  entryFor_alias (id' := "frozenset.__iter__") (by kernel_rfl) rfl (by decide +kernel) (by kernel_rfl)
/-- an iterator's walk -/
structure Wk (prog : Program) (w : World) (A : Around) (I : Addr) (fp wr : List Addr) (n : Nat) (P : Nat → Value → Prop) (St : Nat → Heap → Prop) : Prop where
  sub : ∀ b ∈ wr, b ∈ fp
  frame : ∀ i h h', St i h → (∀ b ∈ fp, ∀ o, h.get? b = some o → h'.get? b = some o) → St i h'
  item : ∀ i (s : Shared) (Q : Option Value → Shared → Prop) (E : Value → Shared → Prop), i < n → St i s.heap →
    (∀ v h' tk, P i v → St (i + 1) h' → (∀ b o, b ∉ wr → s.heap.get? b = some o → h'.get? b = some o) → Q (some v) { s with heap := h', toks := tk }) → wpAny (model prog w) A (pyNext (.ref I)) Q E s
  done : ∀ (s : Shared) (Q : Option Value → Shared → Prop) (E : Value → Shared → Prop), St n s.heap →
    (∀ h' tk, (∀ b o, b ∉ wr → s.heap.get? b = some o → h'.get? b = some o) → Q none { s with heap := h', toks := tk }) → wpAny (model prog w) A (pyNext (.ref I)) Q E s
theorem Wk.of {prog : Program} {w : World} {A : Around} {I : Addr} {fp wr : List Addr} {n : Nat} {P : Nat → Value → Prop} {St : Nat → Heap → Prop} (W : Walks prog w A I fp wr n P St) : Wk prog w A I fp wr n P St := ⟨W.sub, W.frame, W.item, W.done⟩
abbrev sitO (first : Value) (i : Nat) (a : Addr) (n ep : Nat) : Obj := { cls := .type "set_iterator", data := .fields #[first, .int i 0, .ref a, .int n 0, .int ep 0] }
section
variable {prog : Program} {w : World} {A : Around} {E : Value → Shared → Prop} {s : Shared}
theorem setNext_call {I a : Addr} {first : Value} {i n ep : Nat} {Q : Option Value → Shared → Prop} (hI : s.heap.get? I = some (sitO first i a n ep))
    (h : wpAny (model prog w) A.in1 (Builtin.«set_iterator.__next__» ⟨[.ref I], []⟩) (fun fin s' => ∃ r, fin = .done (.ret r) ∧ Q (some r) s') (fun e s' => wpAny (model prog w) A (do if ← isInstance e (.type "StopIteration") then pure none else throw e) Q E s') s) :
    wpAny (model prog w) A (pyNext (.ref I)) Q E s := by
  have hT : s.TypeIs (.ref I) "set_iterator" := ⟨_, hI, rfl⟩
  unfold pyNext
  refine wpAny_bind (wpAny_attempt (wpAny_callSpecial?_slot (name := Str.ofString "__next__") hT slot_setiter_next
    (wpAny_call_entry slot_setiter_next hT entry_setiter_next ?_ (args_setiter_next _))))
  exact wpAny_mono h (fun fin s' ⟨r, e, q⟩ => ⟨r, e, wpAny_pure q⟩) (fun e s' q => q)
theorem stop_raise {Q : Option Value → Shared → Prop} {R : Fin → Shared → Prop} (hh : A.handled = none) (h : ∀ h', (∀ b o, s.heap.get? b = some o → h'.get? b = some o) → Q none { s with heap := h' }) :
    wpAny (model prog w) A.in1 (do raiseNew (← newExc (.type "StopIteration") [])) R (fun e s' => wpAny (model prog w) A (do if ← isInstance e (.type "StopIteration") then pure none else throw e) Q E s') s := by
  refine wpAny_bind ?_
  simp only [newExc, newTuple]
  refine wpAny_bind (wpAny_newObj_type ?_ (by size_fits))
  refine wpAny_bind (m := firstArgMember _ _) (wpAny_of_eq (a := Value.none) (by first | rfl | (simp only [firstArgMember]; rfl)) ?_)
  refine wpAny_newObj_type ?_ (by size_fits)
  simp only [raiseNew]
  refine wpAny_bind (wpAny_handled ?_)
  rw [show A.in1.handled = none from hh]
  refine wpAny_bind (wpAny_pure (wpAny_throw ?_))
  refine wpAny_bind (wpAny_isInstance (T := "StopIteration") (b := true) ⟨_, Heap.get?_push_size _ rfl, rfl⟩ isSubtype_stop ?_)
  exact wpAny_pure (h _ fun b o e => Heap.get?_push_of_some _ (Heap.get?_push_of_some _ e))
theorem sit_set {h : Heap} {I a : Addr} {first : Value} {i n ep k : Nat} {x : Value} {vs : Array Value} (hI : h.get? I = some { cls := .type "set_iterator", data := .fields vs }) :
    (h.update I (Obj.mapFields (·.setIfInBounds k x))).get? I = some { cls := .type "set_iterator", data := .fields (vs.setIfInBounds k x) } := Heap.get?_update_self (Obj.mapFields (·.setIfInBounds k x)) hI (by rfl)
theorem upd_keep {h : Heap} {I : Addr} {f : Obj → Obj} : ∀ b o, b ∉ [I] → h.get? b = some o → (h.update I f).get? b = some o := fun b o hb e =>
  (Heap.SameBut.update h I f).extBut b o (fun q => hb (by simp [q])) e
end
end Mine
-- part S7
namespace Mine
theorem cons_erase_perm {α : Type} : ∀ {l : List α} {i : Nat} (h : i < l.length), (l[i] :: l.eraseIdx i).Perm l
  | x :: r, 0, h => .refl _
  | x :: r, i + 1, h => by
    simp only [List.getElem_cons_succ, List.eraseIdx_cons_succ]
    exact (List.Perm.swap _ _ _).trans ((cons_erase_perm (l := r) (i := i) (by simpa using h)).cons _)
theorem pick_go {α : Type} (next : Nat → Nat) : ∀ (fuel k : Nat) (left : List α) (out : Array α), left.length ≤ fuel → (pickOrder.go next fuel k left out).toList.Perm (out.toList ++ left)
  | 0, k, left, out, h => by
    have : left = [] := List.length_eq_zero_iff.mp (by omega)
    subst this
    unfold pickOrder.go; simp
  | fuel + 1, k, left, out, h => by
    unfold pickOrder.go
    cases hl : left with
    | nil => simp
    | cons x r =>
      rw [← hl]
      have hpos : 0 < left.length := by rw [hl]; simp
      have hi : next k % left.length < left.length := Nat.mod_lt _ hpos
      rw [List.getElem?_eq_getElem hi]
      dsimp only
      refine (pick_go next fuel (k + 1) _ _ (by rw [List.length_eraseIdx_of_lt hi]; omega)).trans ?_
      simp only [Array.toList_push, List.append_assoc, List.singleton_append]
      exact List.Perm.append_left _ (cons_erase_perm hi)
theorem pick_perm {α : Type} (next : Nat → Nat) (xs : Array α) : (pickOrder next xs).toList.Perm xs.toList := by
  have := pick_go next xs.size 0 xs.toList #[] (by simp)
  simpa [pickOrder] using this
section
variable {prog : Program} {w : World} {A : Around} {E : Value → Shared → Prop} {s : Shared}
theorem wpAny_choose' {src : Source} {n : Nat} {Q : Nat → Shared → Prop} (hn : n ≠ 0) (h : ∀ i d, i < n → Q i { s with drawn := d }) : wpAny (model prog w) A (choose src n) Q E s := by
  intro Γ p _
  show Sem.wp _ _ (.choose src n .pure) _ _ p s
  rw [Sem.wp_choose]
  exact ⟨hn, h _ _ (Nat.mod_lt _ (Nat.pos_of_ne_zero hn))⟩
theorem draw_perm {α : Type} : ∀ (n : Nat) (xs : List α) (s : Shared) (Q : List α → Shared → Prop), xs.length = n → (∀ ys d, ys.Perm xs → Q ys { s with drawn := d }) → wpAny (model prog w) A (drawOrder n xs) Q E s
  | 0, xs, s, Q, h, hQ => by
    have : xs = [] := List.length_eq_zero_iff.mp h
    subst this
    unfold drawOrder
    have := hQ [] s.drawn (.refl _)
    exact wpAny_pure this
  | n + 1, [], s, Q, h, hQ => by simp at h
  | n + 1, x :: r, s, Q, h, hQ => by
    unfold drawOrder
    refine wpAny_bind (wpAny_choose' (by simp) fun i d hi => ?_)
    rw [List.getElem?_eq_getElem hi]
    dsimp only
    refine wpAny_bind (draw_perm n _ _ _ (by rw [List.length_eraseIdx_of_lt hi]; simp at h ⊢; omega) fun ys d' hp => ?_)
    refine wpAny_pure (hQ _ _ ?_)
    exact (hp.cons _).trans (cons_erase_perm hi)
theorem wpAny_byText {Q : Bool → Shared → Prop} (h : Q (w.params.followText "set-order") s) : wpAny (model prog w) A setsByText Q E s := by
  unfold setsByText
  exact wpAny_bind (wpAny_askSetting (wpAny_pure h))
/-- by the text's order -/
theorem wk_text {I a : Addr} {es : Array (Int × Value)} {ep : Nat} {t : SetTable} (hh : A.handled = none) (hne : a ≠ I) (hf : t.fits es.size = true) (hbt : w.params.followText "set-order" = true) :
    Wk prog w A I [I, a] [I] es.size (fun i v => ((pickOrder (w.params.setOrder a ep) es).toList.map (·.2))[i]? = some v) (fun i h => (∃ k : Nat, h.get? I = some (sitO (.int k 0) i a es.size ep)) ∧ h.get? a = some (setO es ep t)) where
  sub := fun b hb => by simp at hb; simp [hb]
  frame := fun _ _ _ ⟨⟨k, hk⟩, ha⟩ hkk => ⟨⟨k, hkk I (by simp) _ hk⟩, hkk a (by simp) _ ha⟩
  item := fun i s Q E hi ⟨⟨k, hI⟩, ha⟩ hQ => by
    refine setNext_call hI ?_
    unfold Builtin.«set_iterator.__next__»
    refine wpAny_bind (wpAny_pure ?_)
    refine wpAny_bind (wpAny_fieldsOf hI rfl ?_)
    show wpAny _ _ (setEntries a >>= _) _ _ s
    refine wpAny_bind (wpAny_setEntries_of ha rfl hf ?_)
    rw [if_neg (by simp)]
    simp only [Int.toNat_natCast]
    try dsimp only
    have hlen : (pickOrder (w.params.setOrder a ep) es).size = es.size := by rw [← Array.length_toList, (pick_perm _ es).length_eq, Array.length_toList]
    have hi' : i < (pickOrder (w.params.setOrder a ep) es).size := by rw [hlen]; exact hi
    refine wpAny_bind ?_
    unfold setNext
    refine wpAny_bind (wpAny_setState_of ha rfl hf ?_)
    dsimp only
    refine wpAny_bind (wpAny_byText ?_)
    rw [hbt]
    simp only [if_true, bne_self_eq_false, Bool.false_eq_true, if_false]
    refine wpAny_bind ?_
    unfold setWalk
    refine wpAny_bind (wpAny_setState_of ha rfl hf ?_)
    dsimp only
    refine wpAny_bind (wpAny_byText ?_)
    rw [hbt]
    simp only [if_true]
    refine wpAny_bind (wpAny_askSetting (wpAny_pure ?_))
    refine wpAny_pure ?_
    rw [show ((model prog w).w.params.setOrder a ep) = w.params.setOrder a ep from rfl, Array.getElem?_eq_getElem hi']
    dsimp only [Option.map]
    refine wpAny_bind (wpAny_setField hI rfl (by simp) ?_)
    have h1 := sit_set (k := 0) (x := rawInt ((k : Nat) : Int)) (i := 0) (n := 0) (ep := 0) (a := 0) (first := .none) hI
    refine wpAny_bind (wpAny_setField h1 rfl (by simp) ?_)
    have h2 := sit_set (k := 1) (x := rawInt ((i : Int) + 1)) (i := 0) (n := 0) (ep := 0) (a := 0) (first := .none) h1
    refine wpAny_pure ⟨_, rfl, hQ _ _ s.toks ?_ ⟨⟨k, ?_⟩, ?_⟩ ?_⟩
    · rw [List.getElem?_map, Array.getElem?_toList, Array.getElem?_eq_getElem hi']; rfl
    · rw [h2]; simp [rawInt]
    · exact upd_keep _ _ (by simp [hne]) (upd_keep _ _ (by simp [hne]) ha)
    · exact fun b o hb e => upd_keep _ _ hb (upd_keep _ _ hb e)
  done := fun s Q E ⟨⟨k, hI⟩, ha⟩ hQ => by
    refine setNext_call hI ?_
    unfold Builtin.«set_iterator.__next__»
    refine wpAny_bind (wpAny_pure ?_)
    refine wpAny_bind (wpAny_fieldsOf hI rfl ?_)
    show wpAny _ _ (setEntries a >>= _) _ _ s
    refine wpAny_bind (wpAny_setEntries_of ha rfl hf ?_)
    rw [if_neg (by simp)]
    simp only [Int.toNat_natCast]
    try dsimp only
    have hlen : (pickOrder (w.params.setOrder a ep) es).size = es.size := by rw [← Array.length_toList, (pick_perm _ es).length_eq, Array.length_toList]
    refine wpAny_bind ?_
    unfold setNext
    refine wpAny_bind (wpAny_setState_of ha rfl hf ?_)
    dsimp only
    refine wpAny_bind (wpAny_byText ?_)
    rw [hbt]
    simp only [if_true, bne_self_eq_false, Bool.false_eq_true, if_false]
    refine wpAny_bind ?_
    unfold setWalk
    refine wpAny_bind (wpAny_setState_of ha rfl hf ?_)
    dsimp only
    refine wpAny_bind (wpAny_byText ?_)
    rw [hbt]
    simp only [if_true]
    refine wpAny_bind (wpAny_askSetting (wpAny_pure ?_))
    refine wpAny_pure ?_
    rw [show ((model prog w).w.params.setOrder a ep) = w.params.setOrder a ep from rfl, Array.getElem?_eq_none (by omega)]
    dsimp only [Option.map]
    refine wpAny_bind (wpAny_setField hI rfl (by simp) ?_)
    refine stop_raise hh fun h' hk => hQ h' s.toks fun b o hb e => hk b o (upd_keep _ _ hb e)
end
end Mine
-- part S8
namespace Mine
section
variable {prog : Program} {w : World} {A : Around} {E : Value → Shared → Prop} {s : Shared}
def slotAtI (place : Array Nat) (i : Nat) : Nat := if i = 0 then 0 else place.getD (i - 1) 0 + 1
theorem below_slotAtI {place : Array Nat} (hr : Ris place) {i : Nat} (hi : i ≤ place.size) : SetTable.below place (slotAtI place i) = i := by
  unfold slotAtI
  by_cases h : i = 0
  · subst h; exact below_zero hr
  · rw [if_neg h]
    have hl : i - 1 < place.size := by omega
    have : place.getD (i - 1) 0 = place[i - 1] := by simp [Array.getD, hl]
    rw [this, below_next hr hl]; omega
/-- by its places -/
theorem wk_slots {I a : Addr} {es : Array (Int × Value)} {ep : Nat} {t : SetTable} (hh : A.handled = none) (hne : a ≠ I) (hf : t.fits es.size = true) (hbt : w.params.followText "set-order" = false)
    (hnd : (!t.plain && decide (es.size > 1)) = false) (hled : (!t.led && !es.isEmpty) = false) (hr : Ris t.place) :
    Wk prog w A I [I, a] [I] es.size (fun i v => (es.toList.map (·.2))[i]? = some v) (fun i h => h.get? I = some (sitO (.int (slotAtI t.place i) 0) i a es.size ep) ∧ h.get? a = some (setO es ep t)) where
  sub := fun b hb => by simp at hb; simp [hb]
  frame := fun _ _ _ ⟨hk, ha⟩ hkk => ⟨hkk I (by simp) _ hk, hkk a (by simp) _ ha⟩
  item := fun i s Q E hi ⟨hI, ha⟩ hQ => by
    have hps : t.place.size = es.size := by
      have := hf
      simp only [SetTable.fits, Bool.and_eq_true, beq_iff_eq] at this
      exact this.1
    refine setNext_call hI ?_
    unfold Builtin.«set_iterator.__next__»
    refine wpAny_bind (wpAny_pure ?_)
    refine wpAny_bind (wpAny_fieldsOf hI rfl ?_)
    show wpAny _ _ (setEntries a >>= _) _ _ s
    refine wpAny_bind (wpAny_setEntries_of ha rfl hf ?_)
    rw [if_neg (by simp)]
    simp only [Int.toNat_natCast]
    try dsimp only
    refine wpAny_bind ?_
    unfold setNext
    refine wpAny_bind (wpAny_setState_of ha rfl hf ?_)
    dsimp only
    refine wpAny_bind (wpAny_byText ?_)
    rw [hbt]
    simp only [Bool.false_eq_true, if_false]
    show wpAny _ _ (if (!t.plain && decide (es.size > 1)) = true then _ else _) _ _ s
    rw [hnd]
    simp only [Bool.false_eq_true, if_false]
    refine wpAny_bind ?_
    show wpAny _ _ (if (!t.led && !es.isEmpty) = true then _ else _) _ _ s
    rw [hled]
    simp only [Bool.false_eq_true, if_false]
    refine wpAny_pure ?_
    try simp only [Int.toNat_natCast]
    rw [below_slotAtI hr (by omega), Array.getElem?_eq_getElem hi, Array.getElem?_eq_getElem (show i < t.place.size by omega)]
    refine wpAny_pure ?_
    dsimp only
    refine wpAny_bind (wpAny_setField hI rfl (by simp) ?_)
    have h1 := sit_set (k := 0) (x := rawInt ((t.place[i] + 1 : Nat) : Int)) (i := 0) (n := 0) (ep := 0) (a := 0) (first := .none) hI
    refine wpAny_bind (wpAny_setField h1 rfl (by simp) ?_)
    have h2 := sit_set (k := 1) (x := rawInt ((i : Int) + 1)) (i := 0) (n := 0) (ep := 0) (a := 0) (first := .none) h1
    refine wpAny_pure ⟨_, rfl, hQ _ _ s.toks ?_ ⟨?_, ?_⟩ ?_⟩
    · rw [List.getElem?_map, Array.getElem?_toList, Array.getElem?_eq_getElem hi]; rfl
    · rw [h2]; simp [rawInt, slotAtI, Array.getD, show i < t.place.size by omega]
    · exact upd_keep _ _ (by simp [hne]) (upd_keep _ _ (by simp [hne]) ha)
    · exact fun b o hb e => upd_keep _ _ hb (upd_keep _ _ hb e)
  done := fun s Q E ⟨hI, ha⟩ hQ => by
    have hps : t.place.size = es.size := by
      have := hf
      simp only [SetTable.fits, Bool.and_eq_true, beq_iff_eq] at this
      exact this.1
    refine setNext_call hI ?_
    unfold Builtin.«set_iterator.__next__»
    refine wpAny_bind (wpAny_pure ?_)
    refine wpAny_bind (wpAny_fieldsOf hI rfl ?_)
    show wpAny _ _ (setEntries a >>= _) _ _ s
    refine wpAny_bind (wpAny_setEntries_of ha rfl hf ?_)
    rw [if_neg (by simp)]
    simp only [Int.toNat_natCast]
    try dsimp only
    refine wpAny_bind ?_
    unfold setNext
    refine wpAny_bind (wpAny_setState_of ha rfl hf ?_)
    dsimp only
    refine wpAny_bind (wpAny_byText ?_)
    rw [hbt]
    simp only [Bool.false_eq_true, if_false]
    show wpAny _ _ (if (!t.plain && decide (es.size > 1)) = true then _ else _) _ _ s
    rw [hnd]
    simp only [Bool.false_eq_true, if_false]
    refine wpAny_bind ?_
    show wpAny _ _ (if (!t.led && !es.isEmpty) = true then _ else _) _ _ s
    rw [hled]
    simp only [Bool.false_eq_true, if_false]
    refine wpAny_pure ?_
    try simp only [Int.toNat_natCast]
    rw [below_slotAtI hr (by omega), Array.getElem?_eq_none (Nat.le_refl es.size)]
    refine wpAny_pure ?_
    dsimp only
    refine wpAny_bind (wpAny_setField hI rfl (by simp) ?_)
    refine stop_raise hh fun h' hk => hQ h' s.toks fun b o hb e => hk b o (upd_keep _ _ hb e)
theorem fm_eq (es : Array (Int × Value)) : ∀ {ps : List Nat}, (∀ p ∈ ps, p < es.size) → (ps.filterMap fun p => (es[p]?).map (·.2)) = ps.map fun p => ((es[p]?).map (·.2)).getD .none
  | [], _ => rfl
  | p :: r, h => by
    have h1 := h p (by simp)
    rw [List.filterMap_cons, List.map_cons, fm_eq es fun q hq => h q (by simp [hq])]
    simp [h1]
/-- by drawn places -/
theorem wk_drawn {I a T : Addr} {es : Array (Int × Value)} {ep : Nat} {t : SetTable} {ps : List Nat} {oT : Obj} {nT : Nat} (hh : A.handled = none) (hne : a ≠ I) (hneT : T ≠ I) (hf : t.fits es.size = true)
    (hps : ps.Perm (List.range es.size)) (hoT : oT.data = .seq (ps.map fun (i : Nat) => rawInt i).toArray nT) :
    Wk prog w A I [I, a, T] [I] es.size (fun i v => (ps.filterMap fun p => (es[p]?).map (·.2))[i]? = some v) (fun i h => h.get? I = some (sitO (.ref T) i a es.size ep) ∧ h.get? a = some (setO es ep t) ∧ h.get? T = some oT) where
  sub := fun b hb => by simp at hb; simp [hb]
  frame := fun _ _ _ ⟨hk, ha, hT⟩ hkk => ⟨hkk I (by simp) _ hk, hkk a (by simp) _ ha, hkk T (by simp) _ hT⟩
  item := fun i s Q E hi ⟨hI, ha, hT⟩ hQ => by
    have hpl : ps.length = es.size := by rw [hps.length_eq, List.length_range]
    have hi' : i < ps.length := by omega
    have hp : ps[i] < es.size := List.mem_range.mp (hps.mem_iff.mp (List.getElem_mem hi'))
    refine setNext_call hI ?_
    unfold Builtin.«set_iterator.__next__»
    refine wpAny_bind (wpAny_pure ?_)
    refine wpAny_bind (wpAny_fieldsOf hI rfl ?_)
    show wpAny _ _ (setEntries a >>= _) _ _ s
    refine wpAny_bind (wpAny_setEntries_of ha rfl hf ?_)
    rw [if_neg (by simp)]
    simp only [Int.toNat_natCast]
    try dsimp only
    refine wpAny_bind (wpAny_seqItems hT hoT ?_)
    dsimp only
    rw [show ((ps.map fun (i : Nat) => rawInt i).toArray)[i]? = some (rawInt (ps[i] : Nat)) by simp [hi']]
    dsimp only [rawInt]
    refine wpAny_bind ?_
    unfold setNextDrawn
    refine wpAny_bind (wpAny_setState_of ha rfl hf ?_)
    dsimp only
    simp only [bne_self_eq_false, Bool.false_eq_true, if_false, Int.toNat_natCast]
    rw [Array.getElem?_eq_getElem hp]
    refine wpAny_pure ?_
    refine wpAny_bind (wpAny_setField hI rfl (by simp) ?_)
    have h1 := sit_set (k := 1) (x := .int ((i : Int) + 1) 0) (i := 0) (n := 0) (ep := 0) (a := 0) (first := .none) hI
    refine wpAny_pure ⟨_, rfl, hQ _ _ s.toks ?_ ⟨?_, ?_, ?_⟩ ?_⟩
    · rw [fm_eq es fun p hp' => List.mem_range.mp (hps.mem_iff.mp hp'), List.getElem?_map, List.getElem?_eq_getElem hi']
      simp [hp]
    · rw [h1]; simp [rawInt]
    · exact upd_keep _ _ (by simp [hne]) ha
    · exact upd_keep _ _ (by simp [hneT]) hT
    · exact fun b o hb e => upd_keep _ _ hb e
  done := fun s Q E ⟨hI, ha, hT⟩ hQ => by
    have hpl : ps.length = es.size := by rw [hps.length_eq, List.length_range]
    refine setNext_call hI ?_
    unfold Builtin.«set_iterator.__next__»
    refine wpAny_bind (wpAny_pure ?_)
    refine wpAny_bind (wpAny_fieldsOf hI rfl ?_)
    show wpAny _ _ (setEntries a >>= _) _ _ s
    refine wpAny_bind (wpAny_setEntries_of ha rfl hf ?_)
    rw [if_neg (by simp)]
    simp only [Int.toNat_natCast]
    try dsimp only
    refine wpAny_bind (wpAny_seqItems hT hoT ?_)
    dsimp only
    rw [show ((ps.map fun (i : Nat) => rawInt i).toArray)[es.size]? = none by simp [hpl]]
    dsimp only
    refine wpAny_bind (wpAny_setField hI rfl (by simp) ?_)
    have h1 := sit_set (k := 0) (x := rawInt 0) (i := 0) (n := 0) (ep := 0) (a := 0) (first := .none) hI
    refine wpAny_bind (wpAny_setField h1 rfl (by simp) ?_)
    refine stop_raise hh fun h' hk => hQ h' s.toks fun b o hb e => hk b o (upd_keep _ _ hb (upd_keep _ _ hb e))
end
end Mine
-- part S9
namespace Mine
section
variable {prog : Program} {w : World} {A : Around} {E : Value → Shared → Prop} {s : Shared}
theorem ris_small {xs : Array Nat} (h : xs.size ≤ 1) : Ris xs := fun i j hi hj hij => absurd hij (by omega)
theorem drawn_perm (es : Array (Int × Value)) {ps : List Nat} (h : ps.Perm (List.range es.size)) : (ps.filterMap fun p => (es[p]?).map (·.2)).Perm (es.toList.map (·.2)) := by
  refine (h.filterMap _).trans ?_
  rw [show (fun p => (es[p]?).map (·.2)) = fun p : Nat => Option.map (fun (x : Int × Value) => x.2) (es[p]?) from rfl, ← List.map_filterMap, filterMap_getElem?_range]
theorem set_iter_c {a : Addr} {es : Array (Int × Value)} {ep : Nat} {t : SetTable} {Q : Value → Shared → Prop} (hh : A.handled = none) (ha : s.heap.get? a = some (setO es ep t)) (hf : t.fits es.size = true) (hsz : es.size < scanBound)
    (hT : es.size = 0 ∨ Tab w t)
    (h : ∀ (vs : List Value) (I : Addr) (fp : List Addr) (St : Nat → Heap → Prop) (s' : Shared), vs.Perm (es.toList.map (·.2)) → Wk prog w A I fp [I] vs.length (fun i v => vs[i]? = some v) St → St 0 s'.heap →
      (∀ b o, s.heap.get? b = some o → s'.heap.get? b = some o) → s'.gens = s.gens → s'.os = s.os → s.heap.objs.size ≤ I → I < s'.heap.objs.size → (∀ b ∈ fp, b = a ∨ (s.heap.objs.size ≤ b ∧ b < s'.heap.objs.size)) → Q (.ref I) s') :
    wpAny (model prog w) A (pyIter (.ref a)) Q E s := by
  have hty : s.TypeIs (.ref a) "set" := ⟨_, ha, rfl⟩
  have hlt : a < s.heap.objs.size := Heap.lt_size ha
  have hps : t.place.size = es.size := by
    have := hf
    simp only [SetTable.fits, Bool.and_eq_true, beq_iff_eq] at this
    exact this.1
  refine wpAny_pyIter_slot hty PySem.F.slot_set_iter (wpAny_call_entry PySem.F.slot_set_iter hty entry_set_iter ?_ (PySem.F.args_set_iter_1 _))
  unfold Builtin.«frozenset.__iter__» Builtin.Frozenset.slot0 slotArgs
  simp only [List.isEmpty_nil, Bool.not_true, Bool.false_eq_true, ↓reduceIte, bind_assoc, List.length_nil, bne_self_eq_false]
  unfold Builtin.Frozenset.addrOf Builtin.Frozenset.sizeOf
  refine wpAny_bind (wpAny_pure ?_)
  try dsimp only
  refine wpAny_bind (wpAny_pure ?_)
  refine wpAny_bind (wpAny_bind (wpAny_setEntries_of ha rfl hf (wpAny_pure ?_)))
  refine wpAny_bind ?_
  unfold setDrawn
  refine wpAny_bind (wpAny_setState_of ha rfl hf ?_)
  dsimp only
  refine wpAny_bind (wpAny_byText ?_)
  refine wpAny_pure ?_
  show wpAny _ _ (if (!w.params.followText "set-order" && (!t.plain && decide (es.size > 1))) = true then _ else _) _ _ s
  have hszL : es.size ≤ sizeLine := fits_of_scanBound hsz
  by_cases hc : (!w.params.followText "set-order" && (!t.plain && decide (es.size > 1))) = true
  · rw [if_pos hc]
    refine wpAny_bind (draw_perm es.size (List.range es.size) s _ (by simp) fun ps d hp => ?_)
    have hpl : ps.length = es.size := by rw [hp.length_eq, List.length_range]
    refine wpAny_bind (wpAny_newObj_type ?_ (by show (ps.map fun (i : Nat) => rawInt i).toArray.size ≤ sizeLine; simp [hpl, hszL]))
    have ha1 : (s.heap.push { cls := .type "tuple", dict := none, data := .seq (ps.map fun (i : Nat) => rawInt i).toArray }).get? a = some (setO es ep t) := Heap.get?_push_of_some _ ha
    refine wpAny_bind (wpAny_setEpoch_of ha1 rfl hf ?_)
    refine wpAny_bind (wpAny_newObj_type ?_ (by size_fits))
    refine wpAny_pure ⟨_, rfl, "set_iterator", _, ⟨_, Heap.get?_push_size _ rfl, rfl⟩, slot_setiter_next.lookup, ?_⟩
    have hlen : (ps.filterMap fun p => (es[p]?).map (·.2)).length = es.size := by rw [(drawn_perm es hp).length_eq]; simp
    have hI : s.heap.objs.size ≠ (s.heap.push { cls := .type "tuple", dict := none, data := .seq (ps.map fun (i : Nat) => rawInt i).toArray }).objs.size := by rw [Heap.size_push]; omega
    have hIa : a ≠ (s.heap.push { cls := .type "tuple", dict := none, data := .seq (ps.map fun (i : Nat) => rawInt i).toArray }).objs.size := Nat.ne_of_lt (by rw [Heap.size_push]; exact Nat.lt_succ_of_lt hlt)
    have W := wk_drawn (prog := prog) (w := w) (A := A) (ep := ep) (oT := { cls := .type "tuple", dict := none, data := .seq (ps.map fun (i : Nat) => rawInt i).toArray }) (nT := 0) hh hIa hI hf hp rfl
    rw [← hlen] at W
    refine h _ _ _ _ _ (drawn_perm es hp) W ⟨?_, ?_, ?_⟩ (fun b o e => Heap.get?_push_of_some _ (Heap.get?_push_of_some _ e)) rfl rfl (by show s.heap.objs.size ≤ (s.heap.push _).objs.size; rw [Heap.size_push]; omega) (by show (s.heap.push _).objs.size < ((s.heap.push _).push _).objs.size; rw [Heap.size_push (s.heap.push _)]; exact Nat.lt_succ_self _) (fun b hb => ?_)
    · rw [hlen]; exact Heap.get?_push_size _ rfl
    · exact Heap.get?_push_of_some _ ha1
    · exact Heap.get?_push_of_some _ (Heap.get?_push_size _ rfl)
    · have hs2 : ∀ o o', ((s.heap.push o).push o').objs.size = s.heap.objs.size + 2 := fun o o' => by rw [Heap.size_push, Heap.size_push]
      simp only [Heap.size_push, List.mem_cons, List.not_mem_nil, or_false] at hb
      rcases hb with rfl | rfl | rfl
      · right; exact ⟨by omega, by show _ < ((s.heap.push _).push _).objs.size; rw [hs2]; omega⟩
      · left; rfl
      · right; exact ⟨by omega, by show _ < ((s.heap.push _).push _).objs.size; rw [hs2]; omega⟩
  · rw [if_neg hc]
    refine wpAny_bind (wpAny_pure ?_)
    refine wpAny_bind (wpAny_setEpoch_of ha rfl hf ?_)
    refine wpAny_bind (wpAny_newObj_type ?_ (by size_fits))
    refine wpAny_pure ⟨_, rfl, "set_iterator", _, ⟨_, Heap.get?_push_size _ rfl, rfl⟩, slot_setiter_next.lookup, ?_⟩
    have hIa : a ≠ s.heap.objs.size := Nat.ne_of_lt hlt
    cases hbt : w.params.followText "set-order" with
    | true =>
      have hlen : ((pickOrder (w.params.setOrder a ep) es).toList.map (·.2)).length = es.size := by rw [List.length_map, (pick_perm _ es).length_eq]; simp
      have W := wk_text (prog := prog) (w := w) (A := A) (ep := ep) hh hIa hf hbt
      rw [← hlen] at W
      refine h _ _ _ _ _ ((pick_perm _ es).map _) W ⟨⟨0, ?_⟩, ?_⟩ (fun b o e => Heap.get?_push_of_some _ e) rfl rfl (Nat.le_refl _) (by show _ < (s.heap.push _).objs.size; rw [Heap.size_push]; omega) (fun b hb => ?_)
      · rw [hlen]; exact Heap.get?_push_size _ rfl
      · exact Heap.get?_push_of_some _ ha
      · simp only [List.mem_cons, List.not_mem_nil, or_false] at hb
        rcases hb with rfl | rfl
        · right; exact ⟨Nat.le_refl _, by show _ < (s.heap.push _).objs.size; rw [Heap.size_push]; omega⟩
        · left; rfl
    | false =>
      rw [hbt] at hc
      have hnd : (!t.plain && decide (es.size > 1)) = false := by simpa using hc
      have hled : (!t.led && !es.isEmpty) = false := by
        rcases hT with h0 | hT
        · simp [Array.size_eq_zero_iff.mp h0]
        · rw [hT.led, hbt]; rfl
      have hr : Ris t.place := by
        rcases hT with h0 | hT
        · exact ris_small (by omega)
        · cases hp : t.plain with
          | true => exact hT.ris hp
          | false => rw [hp] at hnd; exact ris_small (by simp at hnd; omega)
      have hlen : (es.toList.map (·.2)).length = es.size := by simp
      have W := wk_slots (prog := prog) (w := w) (A := A) (ep := ep) hh hIa hf hbt hnd hled hr
      rw [← hlen] at W
      refine h _ _ _ _ _ (.refl _) W ⟨?_, ?_⟩ (fun b o e => Heap.get?_push_of_some _ e) rfl rfl (Nat.le_refl _) (by show _ < (s.heap.push _).objs.size; rw [Heap.size_push]; omega) (fun b hb => ?_)
      · rw [hlen]; exact Heap.get?_push_size _ rfl
      · exact Heap.get?_push_of_some _ ha
      · simp only [List.mem_cons, List.not_mem_nil, or_false] at hb
        rcases hb with rfl | rfl
        · right; exact ⟨Nat.le_refl _, by show _ < (s.heap.push _).objs.size; rw [Heap.size_push]; omega⟩
        · left; rfl
end
end Mine
-- part S10
namespace Mine
section
variable {prog : Program} {w : World} {A : Around} {R : Result → Shared → Prop} {I : Addr} {fp wr : List Addr} {n : Nat} {P : Nat → Value → Prop} {St : Nat → Heap → Prop}
theorem ext_loop (W : Wk prog w A.in1 I fp wr n P St) (hn : n ≤ sizeLine) (S : Addr) (hSf : S ∉ fp) (res : Value) :
    ∀ (k i : Nat) (s : Shared) (acc : Array Value) (c : Nat), n - i = k → i ≤ n → St i s.heap → s.heap.get? S = some { cls := .type "list", dict := none, data := .seq acc c, slots := #[] } → ItemsOf P acc i →
    (∀ h' tk acc' c', (∀ b o, b ≠ S → b ∉ wr → s.heap.get? b = some o → h'.get? b = some o) → h'.get? S = some { cls := .type "list", dict := none, data := .seq acc' c', slots := #[] } → ItemsOf P acc' n → R (.ok (.ret res)) { s with heap := h', toks := tk }) →
    codeAny (model prog w) A (.builtin "list.extend.loop" ⟨[.ref S, .ref I, res], []⟩) R s := by
  have hSw : S ∉ wr := fun h => hSf (W.sub _ h)
  intro k
  induction k with
  | zero =>
    intro i s acc c hk hi hst hS hacc hR
    have hin : i = n := by omega
    subst hin
    refine codeAny_builtin PySem.F.entry_extend_loop ?_
    rw [Around.under_plainId PySem.F.plain_extend_loop _]
    show wpAny _ A.in1 (pyNext (.ref I) >>= _) _ _ s
    refine wpAny_bind (W.done s _ _ hst fun h' tk hm => ?_)
    exact wpAny_pure (hR h' tk acc c (fun b o _ hw e => hm b o hw e) (hm S _ hSw hS) hacc)
  | succ k ih =>
    intro i s acc c hk hi hst hS hacc hR
    have hlt : i < n := by omega
    refine codeAny_builtin PySem.F.entry_extend_loop ?_
    rw [Around.under_plainId PySem.F.plain_extend_loop _]
    show wpAny _ A.in1 (pyNext (.ref I) >>= _) _ _ s
    refine wpAny_bind (W.item i s _ _ hlt hst fun v h' tk hP hst' hm => ?_)
    have hS' := hm S _ hSw hS
    show wpAny _ A.in1 (updateSeq S (·.push v) >>= _) _ _ _
    refine wpAny_bind ?_
    refine wpAny_updateSeq hS' rfl (wpAny_pure ⟨plainId_quiet PySem.F.plain_extend_loop _, ih (i + 1) _ (acc.push v) _ (by omega) hlt (W.frame _ h' _ hst' fun b hb o e => ?_) (Heap.get?_update_self _ hS' rfl) (hacc.push hP) fun h'' tk'' acc' c' hm'' hS'' hacc' => ?_⟩)
      (by rw [hacc.1]; omega) (by show (acc.push v).size ≤ sizeLine + 1; rw [Array.size_push, hacc.1]; omega)
    · exact (Heap.get?_update_other _ _ (fun h : S = b => hSf (by rw [h]; exact hb))).trans e
    · refine hR h'' tk'' acc' c' (fun b o hb hw e => hm'' b o hb hw ?_) hS'' hacc'
      exact (Heap.get?_update_other _ _ (fun h : S = b => hb h.symm)).trans (hm b o hw e)
end
section
variable {prog : Program} {w : World} {A : Around} {E : Value → Shared → Prop} {s : Shared}
theorem items_eq {vs : List Value} {acc : Array Value} (h : ItemsOf (fun i v => vs[i]? = some v) acc vs.length) : acc.toList = vs := by
  refine List.ext_getElem? fun i => ?_
  by_cases hi : i < vs.length
  · have h1 : i < acc.size := by rw [h.1]; exact hi
    have h2 : acc[i]? = some acc[i] := Array.getElem?_eq_getElem h1
    rw [h.2 i _ h2, ← h2]; simp
  · rw [List.getElem?_eq_none (by simp only [Array.length_toList]; have := h.1; omega), List.getElem?_eq_none (by omega)]
theorem collect_set {a : Addr} {es : Array (Int × Value)} {ep : Nat} {t : SetTable} {Q : List Value → Shared → Prop} (hh : A.handled = none) (ha : s.heap.get? a = some (setO es ep t)) (hf : t.fits es.size = true) (hsz : es.size < scanBound)
    (hT : es.size = 0 ∨ Tab w t)
    (h : ∀ (vs : List Value) (s' : Shared), vs.Perm (es.toList.map (·.2)) → (∀ b o, s.heap.get? b = some o → s'.heap.get? b = some o) → s'.gens = s.gens → s'.os = s.os → Q vs s') :
    wpAny (model prog w) A (collect (.ref a)) Q E s := by
  have hlt : a < s.heap.objs.size := Heap.lt_size ha
  have hszL : es.size ≤ sizeLine := fits_of_scanBound hsz
  unfold collect
  refine wpAny_bind (wpAny_runValue (codeAny_builtin PySem.F.entry_proto_collect ?_))
  rw [Around.under_plainId PySem.F.plain_proto_collect _]
  show wpAny _ A.in1 (newList [] >>= fun l => again (.builtin "list.__iadd__" ⟨[l, .ref a], []⟩)) _ _ s
  refine wpAny_bind (wpAny_newObj_type ?_)
  refine wpAny_pure ⟨plainId_quiet PySem.F.plain_list_iadd _, codeAny_builtin PySem.F.entry_list_iadd ?_⟩
  rw [Around.under_plainId PySem.F.plain_list_iadd _]
  have ha1 : (s.heap.push { cls := .type "list", data := .seq ([] : List Value).toArray }).get? a = some (setO es ep t) := Heap.get?_push_of_some _ ha
  have hS₁ : (s.heap.push { cls := .type "list", data := .seq ([] : List Value).toArray }).get? s.heap.objs.size = some { cls := .type "list", data := .seq ([] : List Value).toArray } := Heap.get?_push_size _ rfl
  have hTy : ({ s with heap := s.heap.push { cls := .type "list", data := .seq ([] : List Value).toArray } } : Shared).TypeIs (.ref a) "set" := ⟨_, ha1, rfl⟩
  show wpAny _ A.in1 (Builtin.List.listExtendWith (.ref s.heap.objs.size) (.ref a) (.ref s.heap.objs.size)) _ _ _
  unfold Builtin.List.listExtendWith
  refine wpAny_bind (wpAny_typeOf hTy ?_)
  have h1 : Builtin.List.listSameRef (.ref s.heap.objs.size) (.ref a) = false := by simp [Builtin.List.listSameRef]; exact fun e => Nat.lt_irrefl _ (e ▸ hlt)
  have h2 : (Value.type "set" == Value.type "list") = false := by decide
  have h3 : (Value.type "set" == Value.type "tuple") = false := by decide
  simp only [h1, h2, h3, Bool.or_false, Bool.false_eq_true, if_false]
  refine wpAny_bind (set_iter_c (A := A.in1) hh ha1 hf hsz hT fun vs I fp St s' hvs W hst hk hg ho hI1 hI2 hfp => ?_)
  have hTy' : s'.TypeIs (.ref a) "set" := ⟨_, hk _ _ ha1, rfl⟩
  refine wpAny_bind (wpAny_holding ?_)
  unfold Builtin.List.listLengthHint
  refine wpAny_bind (wpAny_specialOf hTy' PySem.F.slot_set_len.lookup ?_)
  generalize hid : ("set.__len__" : String) = id0
  wp_delta
  rw [show splitId id0 = some ("set", "__len__") from by subst hid; decide +kernel]
  subst hid
  refine wpAny_bind (wpAny_isInstance (b := true) hTy' (by rw [isSubtype_type]; kernel_rfl) ?_)
  rw [if_neg (by decide)]
  refine wpAny_bind (m := typeOf (.ref a)) (wpAny_typeOf hTy' ?_)
  refine wpAny_pure ?_
  show wpAny _ A.in1 (rule "list.extend.makes-room" >>= fun _ => Builtin.List.listTouch (.ref s.heap.objs.size) >>= fun _ =>
    again (.builtin "list.extend.loop" ⟨[.ref s.heap.objs.size, .ref I, .ref s.heap.objs.size], []⟩)) _ _ _
  refine wpAny_bind (wpAny_rule ?_)
  have hS₁' := hk _ _ hS₁
  refine wpAny_bind ?_
  show wpAny _ A.in1 (updateSeq s.heap.objs.size (·.push .none) >>= fun _ => updateSeq s.heap.objs.size (·.pop)) _ _ _
  refine wpAny_bind (wpAny_updateSeq hS₁' rfl ?_)
  have hS₂ := Heap.get?_update_self (Obj.mapSeq (·.push Value.none)) hS₁' rfl
  refine wpAny_updateSeq hS₂ rfl ?_
  have hS₃ := Heap.get?_update_self (Obj.mapSeq (·.pop)) hS₂ rfl
  have oth : ∀ b o, b ≠ s.heap.objs.size → s'.heap.get? b = some o →
      ((s'.heap.update s.heap.objs.size (Obj.mapSeq (·.push Value.none))).update s.heap.objs.size (Obj.mapSeq (·.pop))).get? b = some o :=
    fun b o hb e => (Heap.get?_update_other _ _ (Ne.symm hb)).trans ((Heap.get?_update_other _ _ (Ne.symm hb)).trans e)
  have hsp : (s.heap.push { cls := .type "list", data := .seq ([] : List Value).toArray }).objs.size = s.heap.objs.size + 1 := Heap.size_push _ _
  have hSf : s.heap.objs.size ∉ fp := fun hm => by
    rcases hfp _ hm with e | ⟨e, _⟩
    · exact Nat.lt_irrefl _ (e ▸ hlt)
    · change (s.heap.push _).objs.size ≤ _ at e; rw [hsp] at e; exact Nat.not_succ_le_self _ e
  have hlen : vs.length = es.size := by rw [hvs.length_eq]; simp
  refine wpAny_pure ⟨plainId_quiet PySem.F.plain_extend_loop _, ext_loop W (by omega) _ hSf _ vs.length 0 _ _ _ rfl (Nat.zero_le _)
    (W.frame 0 _ _ hst fun b hb o e => oth b o (fun h => hSf (h ▸ hb)) e) hS₃ (ItemsOf.nil _) fun h' tk acc' c' hm hS' hacc => ?_⟩
  show wpAny _ A (load s.heap.objs.size >>= _) _ _ _
  refine wpAny_bind (wpAny_load hS' ?_)
  refine wpAny_pure ?_
  show Q acc'.toList _
  rw [items_eq hacc]
  refine h vs _ hvs (fun b o e => ?_) hg ho
  have hb : b < s.heap.objs.size := Heap.lt_size e
  refine hm b o (Nat.ne_of_lt hb) (fun hw => ?_) (oth b o (Nat.ne_of_lt hb) (hk b o (Heap.get?_push_of_some _ e)))
  rw [List.mem_singleton] at hw
  subst hw
  change (s.heap.push _).objs.size ≤ _ at hI1
  rw [hsp] at hI1
  exact Nat.lt_irrefl _ (Nat.lt_of_lt_of_le (Nat.lt_succ_of_lt hb) hI1)
theorem ints_perm {vs us : List Value} (h : vs.Perm us) : ∀ {ns : List Int}, IntsAre us ns → ∃ ms, IntsAre vs ms ∧ ms.Perm ns := by
  induction h with
  | nil => intro ns H; exact ⟨ns, H, .refl _⟩
  | cons x _ ih => intro ns H; cases H with | cons n t H => obtain ⟨ms, a, b⟩ := ih H; exact ⟨n :: ms, .cons n t a, b.cons n⟩
  | swap x y l => intro ns H; cases H with | cons n t H => cases H with | cons m u H => exact ⟨m :: n :: _, .cons m u (.cons n t H), .swap _ _ _⟩
  | trans _ _ ih1 ih2 => intro ns H; obtain ⟨ms, a, b⟩ := ih2 H; obtain ⟨ks, c, d⟩ := ih1 a; exact ⟨ks, c, d.trans b⟩
theorem sorted_set {a : Addr} {es : Array (Int × Value)} {ep : Nat} {t : SetTable} {ns : List Int} {Q : Value → Shared → Prop} (hh : A.handled = none) (ha : s.heap.get? a = some (setO es ep t)) (hf : t.fits es.size = true)
    (hT : es.size = 0 ∨ Tab w t) (hI : IntsAre (es.toList.map (·.2)) ns) (h64 : es.size < 64)
    (h : ∀ (l : Addr) (s' : Shared) (vs' : List Value) (ns' : List Int) (e : Nat), s'.heap.get? l = some (seqObj "list" vs'.toArray e) → s.heap.get? l = none → IntsAre vs' ns' → ns'.Perm ns → ns'.Pairwise (· ≤ ·) →
      (∀ b o, s.heap.get? b = some o → s'.heap.get? b = some o) → s'.gens = s.gens → s'.os = s.os → Q (.ref l) s') :
    wpAny (model prog w) A (call (.builtin "sorted") [.ref a]) Q E s := by
  refine Calls.call_function_entry kind_sorted plain_sorted entry_sorted (args_sorted1 _) ?_
  unfold Builtin.«sorted»
  refine wpAny_bind (m := checkCount "sorted" 1 1 _) (wpAny_pure ?_)
  refine wpAny_bind (collect_set hh ha hf (by unfold scanBound; omega) hT fun vs s' hp hk hg ho => ?_)
  have hlen : vs.length = es.size := by rw [hp.length_eq]; simp
  refine wpAny_bind (wpAny_newList ?_ (by rw [sizeLine_eq]; omega))
  obtain ⟨ms, hI', hms⟩ := ints_perm hp hI
  have hoL : (s'.heap.push (seqObj "list" vs.toArray 0)).get? s'.heap.objs.size = some (seqObj "list" vs.toArray 0) := Heap.get?_push_size _ rfl
  refine wpAny_bind (wpAny_holding (wpAny_call_entry slot_list_sort ⟨_, hoL, rfl⟩ entry_list_sort (list_sort_tree hoL hI' (by omega) fun out ns' a1 a2 a3 => ⟨_, rfl, ?_⟩) (args_list_sort _)))
  obtain ⟨e, he⟩ := sortedHeap_at (out := out) hoL
  refine wpAny_pure ⟨_, rfl, h _ _ out.toList ns' e he ?_ a1 (a2.trans hms) a3 (fun b o hb => ?_) hg ho⟩
  · cases z : s.heap.get? s'.heap.objs.size with
    | none => rfl
    | some o => exact absurd (Heap.lt_size (hk _ _ z)) (Nat.lt_irrefl _)
  · have hb' := hk b o hb
    have hlt := Heap.lt_size hb'
    show (sortedHeap (s'.heap.push (seqObj "list" vs.toArray 0)) s'.heap.objs.size vs out).get? b = some o
    rw [sortedHeap_old (Nat.ne_of_lt hlt) (by rw [Heap.size_push]; exact Nat.lt_succ_of_lt hlt)]
    exact Heap.get?_push_of_some _ hb'
theorem elems_ints {es : List (Int × Value)} (h : ElemsOf (intKind prog w) es) (hn : es.Pairwise (Apart (intKind prog w))) :
    ∃ ns : List Int, IntsAre (es.map (·.2)) ns ∧ ns.Nodup ∧ ∀ k, k ∈ ns ↔ ∃ e ∈ es, (intKind prog w).is k e.2 = true := by
  induction es with
  | nil => exact ⟨[], .nil, .nil, fun k => by simp⟩
  | cons e es ih =>
    obtain ⟨ns, a, b, c⟩ := ih (fun x hx => h x (List.mem_cons_of_mem _ hx)) (List.pairwise_cons.mp hn).2
    obtain ⟨⟨k0, hk0, _⟩, _⟩ := h e List.mem_cons_self
    obtain ⟨t0, ht0⟩ := Value.isInt_shape (hk0 : Value.isInt k0 e.2 = true)
    refine ⟨k0 :: ns, ?_, List.nodup_cons.mpr ⟨fun hm => ?_, b⟩, fun k => ?_⟩
    · show IntsAre (e.2 :: es.map (·.2)) (k0 :: ns)
      rw [ht0]; exact .cons k0 t0 a
    · obtain ⟨e', he', hk'⟩ := (c k0).mp hm
      exact (List.pairwise_cons.mp hn).1 e' he' k0 hk0 hk'
    · rw [List.mem_cons, c k]
      constructor
      · rintro (rfl | ⟨e', he', hk'⟩)
        · exact ⟨e, List.mem_cons_self, hk0⟩
        · exact ⟨e', List.mem_cons_of_mem _ he', hk'⟩
      · rintro ⟨e', he', hk'⟩
        rcases List.mem_cons.mp he' with rfl | he'
        · exact .inl ((intKind prog w).inj _ _ _ hk' hk0)
        · exact .inr ⟨e', he', hk'⟩
end
end Mine
-- part G1
namespace Mine
theorem enterM {w : World} {A : Around} {s : Shared} {K : Frag} {hb : Heap} {mean mg mb} {R : Result → Shared → Prop} {name qual : PySem.Str} {params : Arguments} {body : List Stmt} {scope : Scope} {dV kV doc pm cdv ct oc : Value} {an od : Option Addr} {osl : Array (Option Value)} {f : Addr} {args : Args} {binds : List (PySem.Str × Value)} {news : List (Addr × Obj)}
    (X : K.In hb) (T : Tp mean mg mb hb) (hk : ∀ b o, hb.get? b = some o → s.heap.get? b = some o) (hN : ∀ p ∈ news, s.heap.get? p.1 = some p.2 ∧ hb.get? p.1 = none)
    (ho : K.lookup f = some ⟨oc, od, .func (fnOf name qual params body scope dV kV doc pm an cdv ct), osl⟩) (hcd : codeIn K cdv qual = true) (hroom : A.depth < recursionLimit)
    (hbind : BindsTo s (fnOf name qual params body scope dV kV doc pm an cdv ct) args binds) (hloc : ∀ y ∈ binds, scope.names.lookup y.1 = some .local)
    (hcell : ∀ x ∈ scope.names, x.2 ≠ .cell)
    (hco : scope.isCoroutine = false) (hgen : scope.isGenerator = false) (hkd : scope.kind = .function)
    (h : ∀ g L h₁, K.In g → Tp mean mg mb g → (∀ b o, hb.get? b = some o → g.get? b = some o) → (∀ b o, g.get? b = some o → s.heap.get? b = some o) → (∀ b o, s.heap.get? b = some o → b ∉ news.map (·.1) → g.get? b = some o) →
      s.heap.objs.size ≤ L → Fr g L h₁ (fun y => binds.reverse.lookup y) → News g L h₁ news →
      wpAny (model PP w) (A.deeper (envOf qual scope L f cdv)) (execs body (envOf qual scope L f cdv))
        (fun fl s' => R (.ok (.ret (match fl with | .ret v => v | _ => .none))) s') (fun _ _ => False)
        { s with heap := h₁, toks := s.toks + binds.length }) :
    codeAny (model PP w) A (.call (.ref f) args) R s := by
  have Xs : K.In s.heap := X.keeps hk
  refine codeAny_call_def (fd := fnOf name qual params body scope dV kV doc pm an cdv ct) (body := body) (binds := binds) hroom (Xs _ _ ho) rfl (T.nolimit.keeps hk) (codeRec_of Xs hcd) rfl hbind hcell hloc (fun h₁ hns hk₁ => ?_) hco hgen hkd
  have st : ∀ b o, hb.get? b = some o → (hideAll s.heap (news.map (·.1))).get? b = some o := fun b o e => hideAll_get _ (hk b o e) fun q => by
    obtain ⟨p, hp, rfl⟩ := List.mem_map.mp q
    rw [(hN p hp).2] at e; cases e
  refine wpAny_mono (h (hideAll s.heap (news.map (·.1))) s.heap.objs.size h₁ (X.keeps st) (T.keeps st) st (fun b o e => of_hideAll _ e) (fun b o e n => hideAll_get _ e n) (Nat.le_refl _)
    ⟨hns, fun b o e => hk₁ b o (of_hideAll _ e), Nat.le_of_eq (hideAll_size _ _)⟩ (fun p hp => ⟨hk₁ _ _ (hN p hp).1, Nat.ne_of_lt (Heap.lt_size (hN p hp).1), hideAll_none _ (List.mem_map_of_mem hp)⟩)) (fun _ _ q => q) (fun _ _ q => q.elim)
local macro_rules | `(tactic| walk_at "my room") => `(tactic| (dsimp only [Around.deeper, Around.under]; omega))
local macro_rules | `(tactic| walk_at "call type:set cons nil") => `(tactic| (refine stop_intro ?_))
def ansOf (xs : List PySem.Str) (k : PySem.Str) : Int := if (xs.any fun m => m == k || Txt.startswith k (m ++ Str.ofString ".")) = true then 1 else 0
def CacheOk (xs : List PySem.Str) (M : PySem.Str → Option Value) : Prop := ∀ k v, M k = some v → k ≠ Str.ofString "<string>" → ∃ t, v = .int (ansOf xs k) t
abbrev rdO (P : Params) (sd ld d : Addr) (t1 t2 t3 : Tok) : Obj := dictOf [{ hash := PyData.keyHash P (Str.ofString "_mods"), key := .str (Str.ofString "_mods") t1, val := .ref sd }, { hash := PyData.keyHash P (Str.ofString "_dirs"), key := .str (Str.ofString "_dirs") t2, val := .ref ld }, { hash := PyData.keyHash P (Str.ofString "_ignore"), key := .str (Str.ofString "_ignore") t3, val := .ref d }] 3
/-- an _Ignore of the names xs, its cache at d; all of it made since hb -/
structure Rdr (w : World) (hb h : Heap) (x dx sd ld d : Addr) (xs : List PySem.Str) (n : Nat) : Prop where
  ox : h.get? x = some (instObj 93 dx)
  odx : ∃ t1 t2 t3, h.get? dx = some (rdO w.params sd ld d t1 t2 t3)
  osd : ∃ es ep tb S, h.get? sd = some (setO es ep tb) ∧ SetT (strKind PP w) es tb S ∧ ∀ k, S k = true ↔ k ∈ xs
  old : h.get? ld = some (listOf #[] 0)
  od : ∃ kvs, h.DictOf (strKind PP w) d kvs ∧ kvs.length ≤ n ∧ CacheOk xs (valueAt kvs)
  nx : hb.get? x = none
  ndx : hb.get? dx = none
  nsd : hb.get? sd = none
  nld : hb.get? ld = none
  nd : hb.get? d = none
  lts : @LT.lt Nat _ dx x ∧ @LT.lt Nat _ x sd ∧ @LT.lt Nat _ sd ld ∧ @LT.lt Nat _ ld d
  lo : (d == sysModules) = false
  ge : @LE.le Nat _ hb.objs.size dx
theorem cache_stored {xs : List PySem.Str} {kvs : List (PySem.Str × Value)} {k : PySem.Str} {t : Tok} (hc : CacheOk xs (valueAt kvs)) (hn : valueAt kvs k = none) : CacheOk xs (valueAt (stored kvs k (.int (ansOf xs k) t))) := by
  intro k' v' e hk'
  have hno : (kvs.any fun kv => kv.1 = k) = false := by
    cases hq : kvs.any fun kv => kv.1 = k with
    | false => rfl
    | true =>
      obtain ⟨kv, hm, he⟩ := List.any_eq_true.mp hq
      simp only [valueAt, Option.map_eq_none_iff, List.find?_eq_none] at hn
      exact absurd he (hn kv hm)
  unfold stored at e
  rw [hno] at e
  simp only [valueAt, Bool.false_eq_true, if_false, List.find?_append] at e
  cases hf : kvs.find? fun kv => kv.1 = k' with
  | some kv =>
    rw [hf] at e
    exact hc k' v' (by simpa [valueAt, hf] using e) hk'
  | none =>
    rw [hf] at e
    simp only [Option.none_or, List.find?_cons, List.find?_nil] at e
    split at e
    · rename_i hq
      have : k = k' := by simpa using hq
      subst this
      simp at e
      exact ⟨t, e.symm⟩
    · cases e
theorem getD_iff {xs : List PySem.Str} {d : PySem.Str} {n : Nat} (hn : n = xs.length) (k : PySem.Str) : (∃ j, j < n ∧ xs.getD j d = k) ↔ k ∈ xs := by
  subst hn
  constructor
  · rintro ⟨j, hj, rfl⟩
    simp [List.getD, hj]
  · intro h
    obtain ⟨j, hj, e⟩ := List.getElem_of_mem h
    exact ⟨j, hj, by simp [List.getD, hj, e]⟩
theorem strs_key {vs : List Value} {xs : List PySem.Str} {d : PySem.Str} {prog : Program} {w : World} (h : StrsAre vs xs) : ∀ i v, vs.toArray[i]? = some v → (strKind prog w).is (xs.getD i d) v = true ∧ v.scannable = true := by
  induction h with
  | nil => intro i v e; simp at e
  | cons x t hr ih =>
    intro i v e
    cases i with
    | zero => simp at e; subst e; exact ⟨strKind_is _ _ _ _, rfl⟩
    | succ j => simp at e ⊢; exact ih j v (by simpa using e)
local macro_rules | `(tactic| walk_at "truthy ref") => `(tactic| (refine stop_intro ?_))
theorem ign_c {w : World} {mean mg mb} {A : Around} {s : Shared} {Q E : Value → Shared → Prop} {a : Addr} {vs : List Value} {xs : List PySem.Str}
    (hh : A.handled = none) (hdp : A.depth + 8 < recursionLimit) (hu : A.units + 100 < cLine)
    (X : (hd.heap_39 w.params).In s.heap) (T : Tp mean mg mb s.heap)
    (hl : s.heap.IsList a vs.toArray) (hi : StrsAre vs xs) (hn : xs.length ≤ 1000) (hn0 : xs ≠ [])
    (h : ∀ x dx sd ld d s', Gs s s' → Rdr w s.heap s'.heap x dx sd ld d xs 1 → Q (.ref x) s') :
    wpAny (model PySem.Challenge.rw_ny0065_01.row.prog w) A (call (.ref 93) [.ref a]) Q E s := by
  revert X; k_fill; intro X
  obtain ⟨_, dp, fr, gd, un⟩ := A
  dsimp only at hh hdp hu
  subst hh
  obtain ⟨h0, g0, d0, t0, os0⟩ := s
  dsimp only at X T hl
  have hM : makesIn (hd.heap_39 w.params) 93 = true := by k_is
  have hI : findIn (hd.heap_39 w.params) (.ref 93) "__init__" = some (some (.ref 83)) := by k_is
  have hF : typeIn (hd.heap_39 w.params) (.ref 83) = some (.type "function") := by k_is
  refine wpAny_call (make_core (makes_of X hM) (looks_findIn X hI) (fun self => bind_fn X self hF) (.inl rfl) ?_)
  have hup : ∀ b o, h0.get? b = some o → ((h0.push emptyDict).push (instObj 93 h0.objs.size)).get? b = some o := fun b o e => Heap.get?_push_of_some _ (Heap.get?_push_of_some _ e)
  have hnn : ∀ b, h0.objs.size ≤ b → h0.get? b = none := fun b hb => Heap.get?_none_of_le hb
  refine enterM (f := 83) (news := [(h0.objs.size + 1, instObj 93 h0.objs.size), (h0.objs.size, emptyDict)]) (binds := [(Str.ofString "self", .ref (h0.objs.size + 1)), (Str.ofString "modules", .ref a), (Str.ofString "dirs", .none)]) X T hup ?_ rfl (by k_is) (by rw [depth_under_make]; dsimp only; omega) ?_ (locs rfl) (by decide) rfl rfl rfl (fun g L h₁ X' T' hg1 hg2 hg3 hL F N => ?_)
  · intro p hp
    simp only [List.mem_cons, List.not_mem_nil, or_false] at hp
    rcases hp with rfl | rfl
    · refine ⟨?_, hnn _ (by simp)⟩
      have := Heap.get?_push_size (h0.push emptyDict) (o := instObj 93 h0.objs.size) rfl
      rwa [Heap.size_push] at this
    · exact ⟨Heap.get?_push_of_some _ (Heap.get?_push_size _ rfl), hnn _ (Nat.le_refl _)⟩
  · exact binds_K (X.keeps hup) rfl (by k_is) rfl rfl rfl
  have hlg : g.IsList a vs.toArray := by
    obtain ⟨o, ho, r⟩ := hl
    refine ⟨o, hg3 a o (hup a o ho) ?_, r⟩
    have hlt := Heap.lt_size ho
    intro hq
    simp only [List.map_cons, List.map_nil, List.mem_cons, List.not_mem_nil, or_false] at hq
    rcases hq with rfl | rfl
    · exact absurd hlt (Nat.not_lt.mpr (Nat.le_succ _))
    · exact absurd hlt (Nat.lt_irrefl _)
  cases hi with
  | nil => exact absurd rfl hn0
  | cons x t hr =>
  rename_i vs' xs'
  k_steps
  refine stop_elim ?_
  refine wpAny_truthy_list (items := (Value.str x t :: vs').toArray) (Fr.lst F hlg) (by simp; have := hr.length; simp at hn; omega) ?_
  rw [show (!(Value.str x t :: vs').toArray.isEmpty) = true by simp]
  k_steps
  refine stop_elim ?_
  have hvl := hr.length
  refine set_of_list (knd := strKind _ _) (items := (Value.str x t :: vs').toArray) (fun i => (x :: xs').getD i x) rfl (Fr.lst F hlg) (strs_key (.cons x t hr)) (by simp at hn ⊢; unfold scanBound; omega) (fun h2 tk2 es ep tb S ho2 H2 hS hle hk2 => ?_)
  dsimp only at ho2 hk2 hle ⊢
  have hk2' : ∀ b o, h₁.get? b = some o → h2.get? b = some o := fun b o e => hk2 b o (Heap.lt_size e) e
  have F2 := F.keeps hk2'
  have hls : L < h₁.objs.size := F.ns.lt
  have l1 : @LT.lt Nat _ (h0.objs.size + 1) h₁.objs.size := Heap.lt_size (N _ (.head _)).1
  have N2 : News g L h2 [(h₁.objs.size, setO es ep tb), (h0.objs.size + 1, instObj 93 h0.objs.size), (h0.objs.size, emptyDict)] := by
    intro p hp
    rcases List.mem_cons.mp hp with rfl | hp
    · refine ⟨ho2, Nat.ne_of_gt hls, ?_⟩
      cases hq : g.get? h₁.objs.size with
      | none => rfl
      | some o => exact absurd (Heap.lt_size (F.keep _ _ hq)) (Nat.lt_irrefl _)
    · exact ⟨hk2' _ _ (N p hp).1, (N p hp).2⟩
  clear N F
  generalize h₁.objs.size = sd at *
  k_steps
  refine ⟨rfl, ?_⟩
  dsimp only at *
  rename Fr _ _ _ _ => F9
  rename News _ _ _ _ => N9
  rename Obj.IsDictOf _ _ _ => D9
  have kp : ∀ b o, h0.get? b = some o → _ := fun b o e => F9.keep b o (hg1 b o e)
  have nn : ∀ p, g.get? p = none → h0.get? p = none := fun p e => by
    cases q : h0.get? p with
    | none => rfl
    | some o => rw [hg1 p o q] at e; cases e
  have e1 := N9 _ (.head _)
  have e2 := N9 _ (.tail _ (.head _))
  have e3 := N9 _ (.tail _ (.tail _ (.head _)))
  have e4 := N9 _ (.tail _ (.tail _ (.tail _ (.head _))))
  have e5 := N9 _ (.tail _ (.tail _ (.tail _ (.tail _ (.head _)))))
  refine h _ _ _ _ _ _ ⟨kp, rfl, rfl⟩ ⟨e4.1, ⟨_, _, _, e5.1⟩, ⟨es, ep, tb, S, e3.1, H2, fun k => ?_⟩, e2.1, ⟨_, Heap.dictOf_iff.mpr ⟨_, e1.1, D9⟩, Nat.le_refl _, ?_⟩, nn _ e4.2.2, nn _ e5.2.2, nn _ e3.2.2, nn _ e2.2.2, nn _ e1.2.2, ?_, by assumption, Nat.le_refl _⟩
  · rw [hS k]
    exact getD_iff (by simp [hvl]) k
  · intro k v e hk
    simp only [valueAt, strPairs, List.find?_cons, List.find?_nil] at e
    split at e
    · rename_i hq
      have hq' : Str.ofString "<string>" = k := by simpa using hq
      exact absurd hq'.symm hk
    · cases e
  · exact ⟨Nat.lt_succ_self _, l1, ltN (by omega), ltN (by omega)⟩
end Mine
-- part L1
namespace Mine
section
variable {prog : Program} {w : World} {A : Around} {E : Value → Shared → Prop} {s : Shared} {env : Env} {h₀ : Heap}
theorem for_g {Q : Flow → Shared → Prop} {x : PySem.Str} {px : Pos} {body : List Stmt} {I : Addr} {fp : List Addr} {n : Nat} {P : Nat → Value → Prop} {St : Nat → Heap → Prop} {m : PySem.Str → Option Value} {news : List (Addr × Obj)}
    (W : Wk prog w A I fp [I] n P St) (hx : env.kindOf x = some .local)
    (hp : (env.scope.kind == .class || (env.scope.kind == .module && env.locals != env.globals)) = false)
    (hLf : env.locals ∉ fp) (hI₀ : h₀.get? I = none) (hnw : ∀ p ∈ news, p.1 ≠ I)
    (hst : St 0 s.heap) (F : Fr h₀ env.locals s.heap m) (N : News h₀ env.locals s.heap news)
    (J : Nat → (PySem.Str → Option Value) → List (Addr × Obj) → Prop) (h0 : J 0 m news)
    (turn : ∀ i v m₁ news₁ s₁ own, i < n → P i v → J i m₁ news₁ → s₁.gens = s.gens → s₁.os = s.os → (∀ p ∈ own, p.1 ∈ fp) → (∀ b ∈ fp, h₀.get? b = none → ∀ o, s₁.heap.get? b = some o → (b, o) ∈ own) → (∀ p ∈ news₁, p.1 ≠ I) → St (i + 1) s₁.heap →
      Fr h₀ env.locals s₁.heap (fun y => if y = x then some v else m₁ y) → News h₀ env.locals s₁.heap (news₁ ++ own) →
      wpAny (model prog w) A (execs body env) (fun f s₂ => match f with
        | .ret v => Q (.ret v) s₂
        | .brk => Q .next s₂
        | _ => Stop (s₂.gens = s.gens ∧ s₂.os = s.os ∧ ∃ m₂ news₂, Fr h₀ env.locals s₂.heap m₂ ∧ News h₀ env.locals s₂.heap (news₂ ++ own) ∧ (∀ p ∈ news₂, p.1 ≠ I) ∧ J (i + 1) m₂ news₂)) (fun _ _ => False) s₁)
    (done : ∀ s₁ m₁ news₁, s₁.gens = s.gens → s₁.os = s.os → J n m₁ news₁ → Fr h₀ env.locals s₁.heap m₁ → News h₀ env.locals s₁.heap news₁ → Q .next s₁) :
    codeAny (model prog w) A (.forLoop (.Name x px) (.ref I) body [] env) (fun r s' => match r with | .ok f => Q f s' | .error e => cameBackBy (model prog w) A env E e s') s := by
  have hIf : I ∈ fp := W.sub I (by simp)
  have hLI : env.locals ≠ I := fun q => hLf (q ▸ hIf)
  refine codeAny_forLoop
    (fun k s' => ∃ m' news' i, St i s'.heap ∧ Fr h₀ env.locals s'.heap m' ∧ News h₀ env.locals s'.heap news' ∧ (∀ p ∈ news', p.1 ≠ I) ∧ J i m' news' ∧ i ≤ n ∧ k = n + 1 - i ∧ s'.gens = s.gens ∧ s'.os = s.os) ?_ (n + 1)
    ⟨m, news, 0, hst, F, N, hnw, h0, Nat.zero_le _, rfl, rfl, rfl⟩
  rintro k s' ⟨m', news', i, hst', F', N', hnw', hJ, hi, rfl, hg, hos⟩
  have next : ∀ h₁ : Heap, (∀ b o, b ∉ [I] → s'.heap.get? b = some o → h₁.get? b = some o) → Fr h₀ env.locals h₁ m' ∧ News h₀ env.locals h₁ news' := fun h₁ hk₁ =>
    ⟨⟨F'.ns.at' fun o e => hk₁ _ o (by simpa using hLI) e, fun b o e => hk₁ b o (fun q => by rw [List.mem_singleton.mp q, hI₀] at e; cases e) (F'.keep b o e), F'.above⟩,
      fun p hp => ⟨hk₁ _ _ (by simpa using hnw' p hp) (N' p hp).1, (N' p hp).2⟩⟩
  by_cases hlt : i < n
  · refine W.item i _ _ _ hlt hst' fun v h₁ tk₁ hP hst₁ hk₁ => ?_
    obtain ⟨F₁, N₁⟩ := next h₁ hk₁
    refine wpAny_assign_Name (wpAny_storeName_local hx F₁.ns (fun h₂ hn₂ hs₂ => ?_) hp)
    have F₂ := F₁.set hn₂ hs₂
    have Nown : News h₀ env.locals h₂ (ownOf h₀ fp h₂) := news_ownOf hLf
    have hst₂ : St (i + 1) h₂ := W.frame _ _ _ hst₁ fun b hb o e => (hs₂.2 b fun q => hLf (q ▸ hb)).trans e
    refine wpAny_mono (turn i v m' news' { s' with heap := h₂, toks := tk₁ + 1 } (ownOf h₀ fp h₂) hlt hP hJ hg hos ownOf_sub (fun b hb hn o e => mem_ownOf hb hn e) hnw' hst₂ F₂ (fun p hp => (List.mem_append.mp hp).elim (fun q => N₁.set hs₂ p q) (fun q => Nown p q))) (fun f s₃ h₃ => ?_) fun _ _ e => e.elim
    have fin : (s₃.gens = s.gens ∧ s₃.os = s.os ∧ ∃ m₂ news₂, Fr h₀ env.locals s₃.heap m₂ ∧ News h₀ env.locals s₃.heap (news₂ ++ ownOf h₀ fp h₂) ∧ (∀ p ∈ news₂, p.1 ≠ I) ∧ J (i + 1) m₂ news₂) → ∃ k, k < n + 1 - i ∧ ∃ m' news' i, St i s₃.heap ∧ Fr h₀ env.locals s₃.heap m' ∧ News h₀ env.locals s₃.heap news' ∧ (∀ p ∈ news', p.1 ≠ I) ∧ J i m' news' ∧ i ≤ n ∧ k = n + 1 - i ∧ s₃.gens = s.gens ∧ s₃.os = s.os := by
      rintro ⟨g3, o3, m₂, news₂, F₃, N₃, ha₃, hJ₃⟩
      refine ⟨n + 1 - (i + 1), by omega, m₂, news₂, i + 1, ?_, F₃, fun p hp => N₃ p (List.mem_append_left _ hp), ha₃, hJ₃, hlt, rfl, g3, o3⟩
      refine W.frame _ _ _ hst₂ fun b hb o e => ?_
      cases hn : h₀.get? b with
      | some o₀ =>
        have : o₀ = o := by have := F₂.keep b o₀ hn; rw [e] at this; exact (Option.some.inj this).symm
        exact this ▸ F₃.keep b o₀ hn
      | none => exact (N₃ _ (List.mem_append_right _ (mem_ownOf hb hn e))).1
    cases f with
    | ret v => exact h₃
    | brk => exact h₃
    | cont => exact fin h₃
    | next => exact fin h₃
  · have hin : i = n := by omega
    subst hin
    refine W.done _ _ _ hst' fun h₁ tk₁ hk₁ => wpAny_execs_nil ?_
    obtain ⟨F₁, N₁⟩ := next h₁ hk₁
    exact done _ m' news' hg hos hJ F₁ N₁
theorem for_list {Q : Flow → Shared → Prop} {x : PySem.Str} {px : Pos} {body : List Stmt} {a : Addr} {items : Array Value} {m : PySem.Str → Option Value} {news : List (Addr × Obj)} {E' : Value → Shared → Prop}
    (hh : A.handled = none) (hl : s.heap.IsList a items) (haL : env.locals ≠ a) (hx : env.kindOf x = some .local)
    (hp : (env.scope.kind == .class || (env.scope.kind == .module && env.locals != env.globals)) = false)
    (F : Fr h₀ env.locals s.heap m) (N : News h₀ env.locals s.heap news)
    (J : Nat → (PySem.Str → Option Value) → List (Addr × Obj) → Prop) (h0 : J 0 m news)
    (turn : ∀ i v m₁ news₁ s₁ own, items[i]? = some v → J i m₁ news₁ → s₁.gens = s.gens → s₁.os = s.os → (∀ p ∈ own, p.1 = s.heap.objs.size ∨ p.1 = a) → (∃ o, (s.heap.objs.size, o) ∈ own) → (∀ p ∈ news₁, p.1 ≠ s.heap.objs.size) → s₁.heap.IsList a items →
      Fr h₀ env.locals s₁.heap (fun y => if y = x then some v else m₁ y) → News h₀ env.locals s₁.heap (news₁ ++ own) →
      wpAny (model prog w) A (execs body env) (fun f s₂ => match f with
        | .ret v => Q (.ret v) s₂
        | .brk => Q .next s₂
        | _ => Stop (s₂.gens = s.gens ∧ s₂.os = s.os ∧ ∃ m₂ news₂, Fr h₀ env.locals s₂.heap m₂ ∧ News h₀ env.locals s₂.heap (news₂ ++ own) ∧ (∀ p ∈ news₂, p.1 ≠ s.heap.objs.size) ∧ J (i + 1) m₂ news₂)) (fun _ _ => False) s₁)
    (done : ∀ s₁ m₁ news₁, s₁.gens = s.gens → s₁.os = s.os → J items.size m₁ news₁ → Fr h₀ env.locals s₁.heap m₁ → News h₀ env.locals s₁.heap news₁ → Q .next s₁) :
    wpAny (model prog w) A (pyIter (.ref a)) (fun it s₂ => codeAny (model prog w) A (.forLoop (.Name x px) it body [] env) (fun r s' => match r with | .ok f => Q f s' | .error e => cameBackBy (model prog w) A env E e s') s₂) E' s := by
  have halt : a < s.heap.objs.size := let ⟨_, e, _⟩ := hl; Heap.lt_size e
  have hI0 : h₀.get? s.heap.objs.size = none := by
    cases hq : h₀.get? s.heap.objs.size with
    | none => rfl
    | some o' => exact absurd (Heap.lt_size (F.keep _ _ hq)) (Nat.lt_irrefl _)
  refine wpAny_pyIter_list hl ?_
  refine for_g (h₀ := h₀) (Wk.of (Walks.list hh s.heap.objs.size a (Nat.ne_of_lt halt) items)) hx hp ?_ ?_ ?_ ⟨⟨_, Heap.get?_push_size _ rfl, rfl, rfl⟩, hl.push _⟩ (F.push _) (N.grown fun b o e => Heap.get?_push_of_some _ e) J h0 ?_ ?_
  · intro hm
    simp only [List.mem_cons, List.not_mem_nil, or_false] at hm
    rcases hm with e | e
    · exact absurd F.ns.lt (Nat.not_lt.mpr (Nat.le_of_eq e.symm))
    · exact haL e
  · exact hI0
  · exact fun p hp => Nat.ne_of_lt (Heap.lt_size (N p hp).1)
  · intro i v m₁ news₁ s₁ own hi hP hJ hg ho hown hall hne hst F₁ N₁
    obtain ⟨oI, hoI, _⟩ := id hst.1
    exact turn i v m₁ news₁ s₁ own hP hJ hg ho (fun p hp => by simpa using hown p hp) ⟨oI, hall _ (by simp) hI0 _ hoI⟩ hne hst.2 F₁ N₁
  · exact done
theorem while_g {Q : Flow → Shared → Prop} {test : PySem.Expr} {body : List Stmt} {pos : Pos} (I : Nat → Shared → Prop)
    (turn : ∀ n s, I n s → wpAny (model prog w) A (isTrue test env (eval test env)) (fun b s₂ => if b then wpAny (model prog w) A (execs body env) (fun f s₃ => match f with
        | .next | .cont => Stop (∃ m, m < n ∧ I m s₃)
        | .brk => Q .next s₃
        | .ret v => Q (.ret v) s₃) (fun _ _ => False) s₂ else Q .next s₂) (fun _ _ => False) s)
    (n : Nat) (h : I n s) : wpAny (model prog w) A (exec (.While test body [] pos) env) Q E s := by
  refine wpAny_While (codeAny_whileLoop I (fun n s hI => wpAny_mono (turn n s hI) (fun b s₂ h₂ => ?_) fun _ _ e => e.elim) n h)
  cases b with
  | true =>
    simp only [if_true] at h₂ ⊢
    refine wpAny_mono h₂ (fun f s₃ h₃ => ?_) fun _ _ e => e.elim
    cases f <;> exact h₃
  | false =>
    simp only [Bool.false_eq_true, if_false] at h₂ ⊢
    exact wpAny_execs_nil h₂
end
end Mine
-- part G2
namespace Mine
local macro_rules | `(tactic| walk_at "compareOp In str ref") => `(tactic| (refine stop_intro ?_))
local macro_rules | `(tactic| walk_at "subscriptTail") => `(tactic| (refine stop_intro ?_))
local macro_rules | `(tactic| walk_at "getItem ref str") => `(tactic| (refine stop_intro ?_))
local macro_rules | `(tactic| walk_at "setItem ref str") => `(tactic| (refine stop_intro ?_))
local macro_rules | `(tactic| walk_at "exec For Name Attribute cons nil") => `(tactic| ((with_reducible show wpAny _ _ (exec (Stmt.For (Expr.Name (Str.ofString _) _) _ [Stmt.If (Expr.Call (Expr.Attribute (Expr.Name (Str.ofString _) _) (Str.ofString _) _) _ _ _) _ _ _] _ _) _) _ _ _); refine stop_intro ?_))
local macro_rules | `(tactic| walk_at "pyIter ref") => `(tactic| (refine stop_intro ?_))
local macro_rules | `(tactic| walk_at "binaryOp Add str str") => `(tactic| ((refine PyProof.Rows.add_str (hsz := ?hsz) ?_); (case hsz => (simp only [Str.length_append, sizeLine_eq, len_dot, len_C]; omega)); intro _ _))
theorem map_but {m m' : PySem.Str → Option Value} {x : PySem.Str} (h : ∀ y, y ≠ x → m' y = m y) (v : Option Value) : (fun y => if y = x then v else m' y) = fun y => if y = x then v else m y := by
  funext y
  by_cases e : y = x
  · simp [e]
  · simp [e, h y e]
theorem map_self {m m' : PySem.Str → Option Value} {x : PySem.Str} (h : ∀ y, y ≠ x → m' y = m y) : m' = fun y => if y = x then m' x else m y := by
  funext y
  by_cases e : y = x
  · simp [e]
  · simp [e, h y e]
theorem names_c {w : World} {mean mg mb} {A : Around} {s : Shared} {hb : Heap} {Q E : Value → Shared → Prop} {x dx sd ld d : Addr} {xs : List PySem.Str} {fn name : PySem.Str} {tf tn : Tok} {n : Nat}
    (hh : A.handled = none) (hdp : A.depth + 8 < recursionLimit) (hu : A.units + 100 < cLine)
    (X : (hd.heap_39 w.params).In hb) (T : Tp mean mg mb hb) (hk : ∀ b o, hb.get? b = some o → s.heap.get? b = some o)
    (R : Rdr w hb s.heap x dx sd ld d xs n) (hn : n ≤ 1000) (hns : name ≠ Str.ofString "<string>") (hxs : ∀ m ∈ xs, m.length ≤ 1000)
    (h : ∀ t s', (∀ b o, b ≠ d → s.heap.get? b = some o → s'.heap.get? b = some o) → s'.gens = s.gens → s'.os = s.os → Rdr w hb s'.heap x dx sd ld d xs (n + 1) → Q (.int (ansOf xs name) t) s') :
    wpAny (model PySem.Challenge.rw_ny0065_01.row.prog w) A (call (.ref 90) [.ref x, .str fn tf, .str name tn]) Q E s := by
  revert X; k_fill; intro X
  obtain ⟨_, dp, fr, gd, un⟩ := A
  dsimp only at hh hdp hu
  subst hh
  obtain ⟨ox, ⟨t1, t2, t3, odx⟩, ⟨es, ep, tb, S, osd, HS, hS⟩, old, ⟨kvs, ⟨o, des, dep, hod, hex, hdat, hkeys, hpairs, hnodup⟩, hkl, hM⟩, nx, ndx, nsd, nld, nd, lts, lo, hge⟩ := R
  refine wpAny_call ?_
  refine enterM (f := 90) (news := [(d, o), (ld, listOf #[] 0), (sd, setO es ep tb), (x, instObj 93 dx), (dx, rdO w.params sd ld d t1 t2 t3)]) (binds := [(Str.ofString "self", .ref x), (Str.ofString "filename", .str fn tf), (Str.ofString "modulename", .str name tn)]) X T hk ?_ rfl (by k_is) (by dsimp only; omega) (BindsTo.of_eq rfl) (locs rfl) (by decide) rfl rfl rfl (fun g L h₁ X' T' hg1 hg2 hg3 hL F N => ?_)
  · intro p hp
    simp only [List.mem_cons, List.not_mem_nil, or_false] at hp
    rcases hp with rfl | rfl | rfl | rfl | rfl
    · exact ⟨hod, nd⟩
    · exact ⟨old, nld⟩
    · exact ⟨osd, nsd⟩
    · exact ⟨ox, nx⟩
    · exact ⟨odx, ndx⟩
  have hdo : ∀ h' : Heap, h'.get? d = some o → h'.DictOf (strKind PP w) d kvs := fun h' e => ⟨o, des, dep, e, hex, hdat, hkeys, hpairs, hnodup⟩
  have fin : ∀ (s' : Shared) (v : Int) (m' : PySem.Str → Option Value) (t : Tok) (kvs' : List (PySem.Str × Value)), v = ansOf xs name → s'.gens = s.gens → s'.os = s.os → Fr g L s'.heap m' → News g L s'.heap [(ld, listOf #[] 0), (sd, setO es ep tb), (x, instObj 93 dx), (dx, rdO w.params sd ld d t1 t2 t3)] →
      s'.heap.DictOf (strKind PP w) d kvs' → kvs'.length ≤ n + 1 → CacheOk xs (valueAt kvs') → Q (.int v t) s' := by
    rintro s' v m' t kvs' rfl hg' ho' F' N' hd' hl' hc'
    refine h t _ (fun b ob hbd e => ?_) hg' ho' ⟨(N' _ (.tail _ (.tail _ (.head _)))).1, ⟨t1, t2, t3, (N' _ (.tail _ (.tail _ (.tail _ (.head _))))).1⟩, ⟨es, ep, tb, S, (N' _ (.tail _ (.head _))).1, HS, hS⟩, (N' _ (.head _)).1, ⟨kvs', hd', hl', hc'⟩, nx, ndx, nsd, nld, nd, lts, lo, hge⟩
    by_cases hb4 : b ∈ [ld, sd, x, dx]
    · simp only [List.mem_cons, List.not_mem_nil, or_false] at hb4
      rcases hb4 with rfl | rfl | rfl | rfl
      · rw [old] at e; rw [← Option.some.inj e]; exact (N' _ (.head _)).1
      · rw [osd] at e; rw [← Option.some.inj e]; exact (N' _ (.tail _ (.head _))).1
      · rw [ox] at e; rw [← Option.some.inj e]; exact (N' _ (.tail _ (.tail _ (.head _)))).1
      · rw [odx] at e; rw [← Option.some.inj e]; exact (N' _ (.tail _ (.tail _ (.tail _ (.head _))))).1
    · refine F'.keep b ob (hg3 b ob e ?_)
      simp only [List.map_cons, List.map_nil, List.mem_cons, List.not_mem_nil, or_false, not_or] at hb4 ⊢
      exact ⟨hbd, hb4⟩
  have upd : ∀ {h h' : Heap} (m' : PySem.Str → Option Value), Fr g L h m' → News g L h [(ld, listOf #[] 0), (sd, setO es ep tb), (x, instObj 93 dx), (dx, rdO w.params sd ld d t1 t2 t3)] → d ≠ L ∧ g.get? d = none → Heap.SameBut d h h' →
      Fr g L h' m' ∧ News g L h' [(ld, listOf #[] 0), (sd, setO es ep tb), (x, instObj 93 dx), (dx, rdO w.params sd ld d t1 t2 t3)] := by
    intro h h' m' F' N' hdd hsb
    refine ⟨F'.change hsb hdd.1 hdd.2, fun p hp => ⟨hsb.extBut _ _ ?_ (N' p hp).1, (N' p hp).2⟩⟩
    simp only [List.mem_cons, List.not_mem_nil, or_false] at hp
    obtain ⟨a1, a2, a3, a4⟩ := lts
    rcases hp with rfl | rfl | rfl | rfl <;> exact neN (by dsimp only; omega)
  k_steps
  refine stop_elim ?_
  refine wpAny_in_of (strKind_is _ _ _ _) lo (hdo _ (N _ (.head _)).1).mapOf ?_
  cases hMn : valueAt kvs name with
  | some v =>
    obtain ⟨t, rfl⟩ := hM name v hMn hns
    simp only [Option.isSome]
    k_steps
    refine stop_elim ?_
    have hmp := (hdo _ (N _ (.head _)).1).mapOf
    refine tail_any hmp.typeIs slot_dict_getitem.lookup (wpAny_getItem_of (strKind_is _ _ _ _) hmp hMn ?_) (by with_unfolding_all rfl)
    dsimp only
    exact fin _ _ _ _ kvs rfl rfl rfl F (fun p hp => N p (.tail _ hp)) (hdo _ (N _ (.head _)).1) (by omega) hM
  | none =>
    simp only [Option.isSome]
    k_steps
    refine stop_elim ?_
    refine wpAny_inSet_of (strKind_is _ _ _ _) rfl (HS.setOf (N _ (.tail _ (.tail _ (.head _)))).1) ?_
    cases hSn : S name with
    | true =>
      k_steps
      refine stop_elim ?_
      have h1 : ansOf xs name = 1 := by
        unfold ansOf
        rw [if_pos]
        exact List.any_eq_true.mpr ⟨name, (hS name).mp hSn, by simp⟩
      refine wpAny_setItem_pairs (strKind_is _ _ _ _) (hdo _ (N _ (.head _)).1) (fun h' hd' hsb => ?_) (by rw [sizeLine_eq]; omega)
      obtain ⟨F', N'⟩ := upd _ F (fun p hp => N p (.tail _ hp)) (N _ (.head _)).2 hsb
      k_steps
      dsimp only
      exact fin _ _ _ _ _ h1.symm rfl rfl F' N' hd' (Nat.le_trans (stored_length_le _ _ _) (by omega)) (h1 ▸ cache_stored hM hMn)
    | false =>
      k_steps
      refine stop_elim ?_
      refine wpAny_For ?_
      k_steps
      refine stop_elim ?_
      dsimp only
      refine set_iter_c rfl (N _ (.tail _ (.tail _ (.head _)))).1 HS.fit HS.sz (.inr HS.tab) (fun vs I fp St s' hperm W hst hkeep hg' ho' hI1 hI2 hfp => ?_)
      dsimp only at hkeep hg' ho' hI1 hfp
      have F1 := F.keeps hkeep
      have N1 := N.grown hkeep
      have hLs : L < h₁.objs.size := F.ns.lt
      have hsdL := (N _ (.tail _ (.tail _ (.head _)))).2.1
      refine for_g (h₀ := g) W rfl rfl ?hLf ?hI0 ?hnw hst F1 N1 (fun i m₁ news₁ => news₁ = [(d, o), (ld, listOf #[] 0), (sd, setO es ep tb), (x, instObj 93 dx), (dx, rdO w.params sd ld d t1 t2 t3)] ∧ (∀ y, y ≠ Str.ofString "mod" → m₁ y = List.lookup y [(Str.ofString "self", Value.ref x), (Str.ofString "filename", Value.str fn tf), (Str.ofString "modulename", Value.str name tn)].reverse) ∧ ∀ j y t, j < i → vs[j]? = some (.str y t) → Txt.startswith name (y ++ Str.ofString ".") = false) ⟨rfl, fun _ _ => rfl, fun j y t hj => absurd hj (Nat.not_lt_zero _)⟩ ?turn ?done
      case hLf =>
        intro hm
        rcases hfp _ hm with e | e
        · exact hsdL e.symm
        · exact absurd hLs (Nat.not_lt.mpr e.1)
      case hI0 =>
        cases hq : g.get? I with
        | none => rfl
        | some o' => exact absurd (Heap.lt_size (F.keep _ _ hq)) (Nat.not_lt.mpr hI1)
      case hnw => exact fun p hp => Nat.ne_of_lt (Nat.lt_of_lt_of_le (Heap.lt_size (N p hp).1) hI1)
      case turn =>
        rintro i v m₁ news₁ s₁ own hi hP ⟨rfl, hm, hno⟩ hgs hos hown hall hne hst' F2 N2
        have hmem : v ∈ es.toList.map (·.2) := hperm.mem_iff.mp (List.mem_of_getElem? hP)
        obtain ⟨e, he, rfl⟩ := List.mem_map.mp hmem
        obtain ⟨⟨y, hy, _⟩, _⟩ := HS.el e he
        have hyx : y ∈ xs := (hS y).mp ((HS.mem y).mpr ⟨e, he, hy⟩)
        obtain ⟨ty, ety⟩ := Value.isStrOf_shape hy
        rw [ety] at hP F2
        have hyl := hxs y hyx
        rw [map_but hm] at F2
        simp only [List.cons_append, List.nil_append] at N2
        k_steps
        · rename_i hst1
          refine stop_elim ?_
          have h1 : ansOf xs name = 1 := by
            unfold ansOf
            rw [if_pos]
            exact List.any_eq_true.mpr ⟨y, hyx, by simp [hst1]⟩
          refine wpAny_setItem_pairs (strKind_is _ _ _ _) (hdo _ (N2 _ (.head _)).1) (fun h' hd' hsb => ?_) (by rw [sizeLine_eq]; omega)
          obtain ⟨F', N'⟩ := upd _ F2 (fun p hp => N2 p (by simp only [List.mem_cons, List.not_mem_nil, or_false] at hp ⊢; rcases hp with rfl | rfl | rfl | rfl <;> simp)) (N2 _ (.head _)).2 hsb
          k_steps
          dsimp only
          exact fin _ _ _ _ _ h1.symm (hgs.trans hg') (hos.trans ho') F' N' hd' (Nat.le_trans (stored_length_le _ _ _) (by omega)) (h1 ▸ cache_stored hM hMn)
        · rename_i hst0
          refine stop_elim ⟨hgs, hos, _, _, F2, N2, hne, rfl, fun z hz => ?_, fun j y' t' hj e' => ?_⟩
          · simp [hz]
          · by_cases hji : j = i
            · subst hji
              rw [hP] at e'
              injection e' with e'; injection e' with e1 e2
              rw [← e1]; exact hst0
            · exact hno j y' t' (by omega) e'
      case done =>
        rintro s₁ m₁ news₁ hgs hos ⟨rfl, hm, hno⟩ F2 N2
        rw [map_self hm] at F2
        generalize m₁ (Str.ofString "mod") = mv at F2
        have h0 : ansOf xs name = 0 := by
          unfold ansOf
          rw [if_neg]
          intro hq
          obtain ⟨y, hy, hq⟩ := List.any_eq_true.mp hq
          rcases Bool.or_eq_true_iff.mp hq with hq | hq
          · have : y = name := by simpa using hq
            subst this
            rw [(hS y).mpr hy] at hSn; cases hSn
          · obtain ⟨e, he, hye⟩ := (HS.mem y).mp ((hS y).mpr hy)
            obtain ⟨ty, ety⟩ := Value.isStrOf_shape hye
            obtain ⟨j, hj, ej⟩ := List.getElem_of_mem (hperm.mem_iff.mpr (List.mem_map.mpr ⟨e, he, ety⟩))
            have := hno j y ty hj (by rw [List.getElem?_eq_getElem hj, ej])
            rw [this] at hq; cases hq
        k_steps
        refine stop_elim ?_
        refine wpAny_For ?_
        k_steps
        refine stop_elim ?_
        try dsimp only
        have hld : s₁.heap.IsList ld #[] := ⟨_, (N2 _ (.tail _ (.head _))).1, rfl, 0, rfl⟩
        have hldlt : ld < s₁.heap.objs.size := Heap.lt_size (N2 _ (.tail _ (.head _))).1
        have hLs2 : L < s₁.heap.objs.size := F2.ns.lt
        refine wpAny_pyIter_list hld ?_
        refine for_g (h₀ := g) (Wk.of (Walks.list rfl s₁.heap.objs.size ld (Nat.ne_of_lt hldlt) #[])) rfl rfl ?hLf ?hI0 ?hnw ⟨⟨_, Heap.get?_push_size _ rfl, rfl, rfl⟩, hld.push _⟩ (F2.push _) (N2.grown fun b o e => Heap.get?_push_of_some _ e) (fun i m₁ news₁ => news₁ = [(d, o), (ld, listOf #[] 0), (sd, setO es ep tb), (x, instObj 93 dx), (dx, rdO w.params sd ld d t1 t2 t3)] ∧ m₁ = fun y => if y = Str.ofString "mod" then mv else List.lookup y [(Str.ofString "self", Value.ref x), (Str.ofString "filename", Value.str fn tf), (Str.ofString "modulename", Value.str name tn)].reverse) ⟨rfl, rfl⟩ ?turn ?done
        case hLf =>
          intro hm
          simp only [List.mem_cons, List.not_mem_nil, or_false] at hm
          rcases hm with e | e
          · exact absurd hLs2 (Nat.not_lt.mpr (Nat.le_of_eq e.symm))
          · exact (N2 _ (.tail _ (.head _))).2.1 e.symm
        case hI0 =>
          cases hq : g.get? s₁.heap.objs.size with
          | none => rfl
          | some o' => exact absurd (Heap.lt_size (F2.keep _ _ hq)) (Nat.lt_irrefl _)
        case hnw => exact fun p hp => Nat.ne_of_lt (Heap.lt_size (N2 p hp).1)
        case turn => intro i v m₁ news₁ s₂ own hi; exact absurd hi (Nat.not_lt_zero _)
        case done =>
          rintro s₂ m₂ news₂ hgs2 hos2 ⟨rfl, rfl⟩ F3 N3
          dsimp only at hgs2 hos2
          k_steps
          refine stop_elim ?_
          refine wpAny_setItem_pairs (strKind_is _ _ _ _) (hdo _ (N3 _ (.head _)).1) (fun h' hd' hsb => ?_) (by rw [sizeLine_eq]; omega)
          obtain ⟨F', N'⟩ := upd _ F3 (fun p hp => N3 p (.tail _ hp)) (N3 _ (.head _)).2 hsb
          k_steps
          dsimp only
          exact fin _ _ _ _ _ h0.symm (hgs2.trans (hgs.trans hg')) (hos2.trans (hos.trans ho')) F' N' hd' (Nat.le_trans (stored_length_le _ _ _) (by omega)) (h0 ▸ cache_stored hM hMn)
end Mine
-- part R1
namespace Mine
noncomputable def downTo (row : List PySem.Str) (name : PySem.Str) : Nat → Nat
  | 0 => 0
  | k + 1 => if collOf name (row.getD k Str.empty) < 0 then downTo row name k else k + 1
noncomputable def insRow (row : List PySem.Str) (name : PySem.Str) : List PySem.Str :=
  if downTo row name row.length = 0 ∨ collOf name (row.getD (downTo row name row.length - 1) Str.empty) ≠ 0 then row.take (downTo row name row.length) ++ name :: row.drop (downTo row name row.length) else row
noncomputable def rowOf (names : List PySem.Str) : List PySem.Str := names.foldl insRow []
theorem downTo_le (row : List PySem.Str) (name : PySem.Str) : ∀ k, downTo row name k ≤ k
  | 0 => Nat.le_refl _
  | k + 1 => by
    unfold downTo
    split
    · have := downTo_le row name k; omega
    · exact Nat.le_refl _
theorem insRow_len (row : List PySem.Str) (name : PySem.Str) : (insRow row name).length ≤ row.length + 1 := by
  unfold insRow
  split
  · have := downTo_le row name row.length
    simp; omega
  · omega
theorem StrsAre.get {vs : List Value} {xs : List PySem.Str} (h : StrsAre vs xs) : ∀ (i : Nat) (d : PySem.Str), i < xs.length → ∃ t, vs[i]? = some (.str (xs.getD i d) t) := by
  induction h with
  | nil => intro i d hi; simp at hi
  | cons x t hr ih =>
    intro i d hi
    cases i with
    | zero => exact ⟨t, by simp⟩
    | succ j =>
      obtain ⟨t', e⟩ := ih j d (by simpa using hi)
      exact ⟨t', by simpa using e⟩
theorem StrsAre.app {vs ws : List Value} {xs ys : List PySem.Str} (h : StrsAre vs xs) (k : StrsAre ws ys) : StrsAre (vs ++ ws) (xs ++ ys) := by
  induction h with
  | nil => exact k
  | cons x t _ ih => exact .cons x t ih
theorem StrsAre.take {vs : List Value} {xs : List PySem.Str} (h : StrsAre vs xs) : ∀ n, StrsAre (vs.take n) (xs.take n) := by
  induction h with
  | nil => intro n; simp; exact .nil
  | cons x t _ ih =>
    intro n
    cases n with
    | zero => exact .nil
    | succ n => exact .cons x t (ih n)
theorem StrsAre.drop {vs : List Value} {xs : List PySem.Str} (h : StrsAre vs xs) : ∀ n, StrsAre (vs.drop n) (xs.drop n) := by
  induction h with
  | nil => intro n; simp; exact .nil
  | cons x t hr ih =>
    intro n
    cases n with
    | zero => exact .cons x t hr
    | succ n => exact ih n
theorem StrsAre.at' {vs : List Value} {xs : List PySem.Str} (h : StrsAre vs xs) {i : Nat} {v : Value} (e : vs[i]? = some v) : ∃ x t, v = .str x t ∧ xs[i]? = some x := by
  induction h generalizing i with
  | nil => simp at e
  | cons x t _ ih =>
    cases i with
    | zero => simp at e; exact ⟨x, t, e.symm, by simp⟩
    | succ j => simp at e; obtain ⟨x', t', a, b⟩ := ih e; exact ⟨x', t', a, by simpa using b⟩
theorem map_but2 {m m' : PySem.Str → Option Value} {x k : PySem.Str} (h : ∀ y, y ≠ x → y ≠ k → m' y = m y) (v : Option Value) : (fun y => if y = x then v else m' y) = fun y => if y = x then v else if y = k then m' k else m y := by
  funext y
  by_cases e : y = x
  · simp [e]
  · by_cases e2 : y = k
    · simp [e2]
    · simp [e, e2, h y e e2]
theorem map_self2 {m m' : PySem.Str → Option Value} {x k : PySem.Str} (h : ∀ y, y ≠ x → y ≠ k → m' y = m y) : m' = fun y => if y = x then m' x else if y = k then m' k else m y := by
  funext y
  by_cases e : y = x
  · simp [e]
  · by_cases e2 : y = k
    · rw [if_neg e, if_pos e2, e2]
    · simp [e, e2, h y e e2]
theorem map_twice {m : PySem.Str → Option Value} {k : PySem.Str} {u v : Option Value} : (fun y => if y = k then v else if y = k then u else m y) = fun y => if y = k then v else m y := by
  funext y
  by_cases e : y = k <;> simp [e]
local macro_rules | `(tactic| walk_at "call builtin:len") => `(tactic| (refine stop_intro ?_))
local macro_rules | `(tactic| walk_at "pyIter ref") => `(tactic| (refine stop_intro ?_))
local macro_rules | `(tactic| walk_at "exec For Name Name cons nil") => `(tactic| (refine stop_intro ?_))
local macro_rules | `(tactic| walk_at "exec While BoolOp cons nil") => `(tactic| (refine stop_intro ?_))
local macro_rules | `(tactic| walk_at "exec While") => `(tactic| (refine stop_intro ?_))
local macro_rules | `(tactic| walk_at "subscriptTail") => `(tactic| (refine stop_intro ?_))
local macro_rules | `(tactic| walk_at "call builtin:list.insert") => `(tactic| (refine stop_intro ?_))
local macro_rules | `(tactic| walk_at "my room") => `(tactic| (dsimp only [Around.deeper]; omega))
local macro_rules | `(tactic| walk_at "call ref") => `(tactic| ((with_reducible show wpAny _ _ (call (Value.ref 28) [Value.str _ _, Value.str _ _]) _ _ _); (refine' coll_c rfl ?a ?b ?X ?T ?_; (case a => walk_at "my room"); (case b => walk_at "my room"); (case X => exact Frag.In.keeps (by assumption) (Fr.keep (by assumption))); (case T => exact Top.keeps (by assumption) (Fr.keep (by assumption))); intro t' s' g'; (have F' := frGs (by assumption) g'); (have N' := newsGs (by assumption) g'))))
theorem row_c {w : World} {mean mg mb} {A : Around} {s : Shared} {Q E : Value → Shared → Prop} {a : Addr} {vs : List Value} {xs : List PySem.Str}
    (hh : A.handled = none) (hdp : A.depth + 10 < recursionLimit) (hu : A.units + 200 < cLine)
    (X : (hd.heap_39 w.params).In s.heap) (T : Tp mean mg mb s.heap)
    (hl : s.heap.IsList a vs.toArray) (hi : StrsAre vs xs) (hn : xs.length ≤ 1000)
    (h : ∀ l ws n s', Gs s s' → s'.heap.get? l = some (listOf ws.toArray n) → StrsAre ws (rowOf xs) → s.heap.get? l = none → Q (.ref l) s') :
    wpAny (model PySem.Challenge.rw_ny0065_01.row.prog w) A (call (.ref 125) [.ref a]) Q E s := by
  revert X; k_fill; intro X
  obtain ⟨_, dp, fr, gd, un⟩ := A
  dsimp only at hh hdp hu
  subst hh
  refine enterF X T.nolimit (f := 125) (binds := [(Str.ofString "names", .ref a)]) rfl (by k_is) (by dsimp only; omega) (BindsTo.of_eq rfl) (locs rfl) (by decide) rfl rfl rfl (fun L h₁ F N => ?_)
  k_steps
  refine stop_elim ?_
  refine wpAny_For ?_
  k_steps
  refine stop_elim ?_
  rename Fr _ _ _ _ => F1
  rename News _ _ _ _ => N1
  have hls : s.heap.IsList a vs.toArray := hl
  have hl1 := Fr.lst F1 hl
  have halt : a < s.heap.objs.size := let ⟨_, e, _⟩ := hl; Heap.lt_size e
  have hL0 : s.heap.objs.size ≤ L := F1.above
  have hlfresh := (N1 _ (.head _)).2
  rename_i l' ha' l1' h2
  refine for_list (h₀ := s.heap) rfl hl1 ?_ rfl rfl F1 N1 (fun i m₁ news₁ => (∀ y, y ≠ Str.ofString "name" → y ≠ Str.ofString "k" → m₁ y = if y = Str.ofString "row" then some (Value.ref l') else List.lookup y [(Str.ofString "names", Value.ref a)].reverse) ∧ ∃ ws n, news₁ = [(l', listOf ws.toArray n)] ∧ StrsAre ws (rowOf (xs.take i)) ∧ (rowOf (xs.take i)).length ≤ i) ?_ ?_ ?_
  · exact Nat.ne_of_gt (Nat.lt_of_lt_of_le halt hL0)
  · exact ⟨fun _ _ _ => rfl, [], 0, rfl, .nil, Nat.le_refl _⟩
  · rintro i v m₁ news₁ s₁ own hv ⟨hm, ws, n, rfl, hws, hwl⟩ hg ho hown hIown hne hli F2 N2
    obtain ⟨name, tn, rfl, hxi⟩ := StrsAre.at' hi (by simpa using hv)
    generalize hrow : rowOf (xs.take i) = row at hws hwl
    rw [map_but2 hm] at F2
    generalize m₁ (Str.ofString "k") = kv at F2
    simp only [List.cons_append, List.nil_append] at N2
    dsimp only at hg ho hown hne
    have hil : i < xs.length := by rcases Nat.lt_or_ge i xs.length with q | q; exact q; rw [List.getElem?_eq_none q] at hxi; cases hxi
    k_steps
    refine stop_elim ?_
    refine len_strsA (News.isList N2 (.head _)) hws (by omega) ?_
    k_steps
    refine stop_elim ?_
    rename Fr _ _ _ _ => F3
    rename News _ _ _ _ => N3
    generalize hMB : (fun y => if y = Str.ofString "name" then some (Value.str name tn) else if y = Str.ofString "k" then kv else if y = Str.ofString "row" then some (Value.ref l') else List.lookup y [(Str.ofString "names", Value.ref a)].reverse) = MB at F2
    have eMB : ∀ v : Option Value, (fun y => if y = Str.ofString "k" then v else MB y) = fun y => if y = Str.ofString "k" then v else if y = Str.ofString "name" then some (Value.str name tn) else if y = Str.ofString "k" then kv else if y = Str.ofString "row" then some (Value.ref l') else List.lookup y [(Str.ofString "names", Value.ref a)].reverse := fun v => by rw [← hMB]
    rw [← eMB] at F3
    refine wpAny_mono (while_g (Q := fun f s₄ => Stop (f = .next ∧ ∃ t, s₄.gens = s.gens ∧ s₄.os = s.os ∧ Fr s.heap L s₄.heap (fun y => if y = Str.ofString "k" then some (.int (downTo row name row.length : Nat) t) else MB y) ∧ News s.heap L s₄.heap ((l', listOf ws.toArray n) :: own)))
      (fun c s₃ => ∃ t, c ≤ row.length ∧ downTo row name row.length = downTo row name c ∧ s₃.gens = s.gens ∧ s₃.os = s.os ∧ Fr s.heap L s₃.heap (fun y => if y = Str.ofString "k" then some (.int (c : Nat) t) else MB y) ∧ News s.heap L s₃.heap ((l', listOf ws.toArray n) :: own)) ?_ row.length ⟨_, Nat.le_refl _, rfl, hg, ho, F3, N3⟩) ?_ (fun _ _ e => e)
    · clear F3 N3 F2
      rintro c s₃ ⟨t, hc, hd, hg3, ho3, F4, N4⟩
      rw [eMB] at F4
      cases c with
      | zero =>
        k_steps
        rw [← eMB] at F4
        exact stop_elim ⟨rfl, t, hg3, ho3, by rw [hd]; exact F4, N4⟩
      | succ c =>
        have ec : (((c + 1 : Nat) : Int) - 1).toNat = c := by omega
        have ec' : ((c + 1 : Nat) : Int) - 1 = (c : Nat) := by omega
        k_steps
        · rename (collOf _ _ < 0) => hlt
          rename Gs _ _ => g9
          rename Fr _ _ _ _ => F9
          rename News _ _ _ _ => N9
          rw [ec] at hlt
          rw [ec', map_twice, ← eMB] at F9
          exact stop_elim ⟨c, Nat.lt_succ_self _, _, by omega, by rw [hd]; simp only [downTo, hlt, if_true], g9.gens.trans hg3, g9.os.trans ho3, F9, N9⟩
        · rename (¬ collOf _ _ < 0) => hlt
          rename Gs _ _ => g9
          rename Fr _ _ _ _ => F9
          rename News _ _ _ _ => N9
          rw [ec] at hlt
          rw [← eMB] at F9
          exact stop_elim ⟨trivial, t, g9.gens.trans hg3, g9.os.trans ho3, by rw [hd]; simp only [downTo, hlt, if_false]; exact F9, N9⟩
    · clear F3 N3 F2
      rintro f s₄ ⟨rfl, t, hg4, ho4, F4, N4⟩
      rw [eMB] at F4
      have hle := downTo_le row name row.length
      generalize hD : downTo row name row.length = D at F4 hle
      have hwsl := hws.length
      have hnel : l' ≠ h2.objs.size := hne _ (.head _)
      have hnext : rowOf (xs.take (i + 1)) = insRow row name := by
        rw [List.take_add_one, hxi]
        unfold rowOf
        rw [List.foldl_append]
        unfold rowOf at hrow
        rw [hrow]; rfl
      have hown' : ∀ p ∈ own, p.1 ≠ l' := fun p hp q => by
        rcases hown p hp with e | e
        · exact hne _ (.head _) (q.symm.trans e)
        · rw [e] at q
          obtain ⟨ol, hol, _⟩ := hls
          rw [← q] at hlfresh
          rw [hlfresh.2] at hol; cases hol
      have endJ : ∀ (s₅ : Shared) (m₅ : PySem.Str → Option Value) ws' n', s₅.gens = s.gens → s₅.os = s.os → (∀ y, y ≠ Str.ofString "name" → y ≠ Str.ofString "k" → m₅ y = if y = Str.ofString "row" then some (Value.ref l') else List.lookup y [(Str.ofString "names", Value.ref a)].reverse) → Fr s.heap L s₅.heap m₅ → News s.heap L s₅.heap ((l', listOf ws'.toArray n') :: own) → StrsAre ws' (insRow row name) →
          (s₅.gens = s.gens ∧ s₅.os = s.os ∧ ∃ m₂ news₂, Fr s.heap L s₅.heap m₂ ∧ News s.heap L s₅.heap (news₂ ++ own) ∧ (∀ p ∈ news₂, p.1 ≠ h2.objs.size) ∧ (∀ y, y ≠ Str.ofString "name" → y ≠ Str.ofString "k" → m₂ y = if y = Str.ofString "row" then some (Value.ref l') else List.lookup y [(Str.ofString "names", Value.ref a)].reverse) ∧ ∃ ws n, news₂ = [(l', listOf ws.toArray n)] ∧ StrsAre ws (rowOf (xs.take (i + 1))) ∧ (rowOf (xs.take (i + 1))).length ≤ i + 1) := by
        intro s₅ m₅ ws' n' g5 o5 hm5 F5 N5 hw5
        refine ⟨g5, o5, m₅, [(l', listOf ws'.toArray n')], F5, N5, fun p hp => ?_, hm5, ws', n', rfl, by rw [hnext]; exact hw5, ?_⟩
        · rw [List.mem_singleton.mp hp]; exact hnel
        · rw [hnext]; exact Nat.le_trans (insRow_len _ _) (by omega)
      have hput : ∀ (s₅ : Shared) (m₅ : PySem.Str → Option Value) (Q₅ : Value → Shared → Prop), Fr s.heap L s₅.heap m₅ → News s.heap L s₅.heap ((l', listOf ws.toArray n) :: own) →
          (∀ h', Fr s.heap L h' m₅ → News s.heap L h' ((l', listOf (ws.take D ++ .str name tn :: ws.drop D).toArray (n + 1)) :: own) → Q₅ .none { s₅ with heap := h' }) →
          ∀ A' E', wpAny (model PP w) A' (call (.builtin "list.insert") [.ref l', .int (D : Nat) t, .str name tn]) Q₅ E' s₅ := by
        intro s₅ m₅ Q₅ F5 N5 hq A' E'
        refine kl_insert (l := ws.take D ++ .str name tn :: ws.drop D) F5 N5 ?_ ?_ (Upd.head hown') ?_ hq
        · unfold Builtin.List.listFitsIndex
          simp only [Bool.and_eq_true, decide_eq_true_eq]
          omega
        · unfold kl_ins
          simp only [show ¬ ((D : Nat) : Int) < 0 by omega, if_false, Int.toNat_natCast, show min D ws.length = D by omega]
        · simp only [sizeLine_eq]; omega
      have keepA : Unit → StrsAre (ws.take D ++ .str name tn :: ws.drop D) (row.take D ++ name :: row.drop D) := fun _ => StrsAre.app (StrsAre.take hws D) (.cons name tn (StrsAre.drop hws D))
      have keepB : Unit → StrsAre ws row := fun _ => hws
      have eD : D ≠ 0 → (((D : Nat) : Int) - 1).toNat = D - 1 := fun _ => by omega
      have hmk : ∀ (kk : Option Value) y, y ≠ Str.ofString "name" → y ≠ Str.ofString "k" → (if y = Str.ofString "k" then kk else if y = Str.ofString "name" then some (Value.str name tn) else if y = Str.ofString "k" then kv else if y = Str.ofString "row" then some (Value.ref l') else List.lookup y [(Str.ofString "names", Value.ref a)].reverse) = if y = Str.ofString "row" then some (Value.ref l') else List.lookup y [(Str.ofString "names", Value.ref a)].reverse := by
        intro kk y h1 h2
        simp [h1, h2]
      k_steps
      · rename (((D : Nat) : Int) = 0) => hD0
        refine stop_elim ?_
        refine hput _ _ _ (by exact F4) (by exact N4) (fun h' F5 N5 => ?_) _ _
        k_steps
        refine stop_elim (endJ _ _ _ _ hg4 ho4 (hmk _) F5 N5 ?_)
        unfold insRow
        rw [hD, if_pos (.inl (by omega))]
        exact keepA ()
      · rename (collOf _ _ ≠ 0) => hcne
        rename Gs _ _ => g9
        rename Fr _ _ _ _ => F9
        rename News _ _ _ _ => N9
        refine stop_elim ?_
        refine hput _ _ _ (by exact F9) (by exact N9) (fun h' F5 N5 => ?_) _ _
        k_steps
        refine stop_elim (endJ _ _ _ _ (g9.gens.trans hg4) (g9.os.trans ho4) (hmk _) F5 N5 ?_)
        unfold insRow
        rw [eD (by omega)] at hcne
        rw [hD, if_pos (.inr hcne)]
        exact keepA ()
      · rename (collOf _ _ = 0) => hcne
        rename Gs _ _ => g9
        rename Fr _ _ _ _ => F9
        rename News _ _ _ _ => N9
        refine stop_elim (endJ _ _ _ _ (g9.gens.trans hg4) (g9.os.trans ho4) (hmk _) F9 N9 ?_)
        unfold insRow
        rw [eD (by omega)] at hcne
        rw [hD, if_neg ?_]
        · exact keepB ()
        · intro hq
          rcases hq with hq | hq
          · omega
          · exact hq hcne
  · rintro s₁ m₁ news₁ hg ho ⟨hm, ws, n, rfl, hws, hwl⟩ F2 N2
    rw [show vs.toArray.size = xs.length by simp [hi.length], List.take_length] at hws
    rw [map_self2 hm] at F2
    generalize m₁ (Str.ofString "k") = kv at F2
    generalize m₁ (Str.ofString "name") = nv at F2
    k_steps
    dsimp only at hg ho
    exact h l' ws n _ ⟨F2.keep, hg, ho⟩ (N2 _ (.head _)).1 hws (N2 _ (.head _)).2.2
end Mine
-- part P1
namespace Mine
/-- the pile, top first -/
noncomputable def popR : List PySem.Str → PySem.Str → List PySem.Str
  | [], _ => []
  | t :: r, name => if ansOf [t] name = 0 then popR r name else t :: r
noncomputable def pstep (p : List PySem.Str × List (PySem.Str × Option PySem.Str)) (name : PySem.Str) : List PySem.Str × List (PySem.Str × Option PySem.Str) :=
  (name :: popR p.1 name, p.2 ++ [(name, (popR p.1 name).head?)])
noncomputable def piledOf (xs : List PySem.Str) : List (PySem.Str × Option PySem.Str) := (xs.foldl pstep ([], [])).2
def optD : Option PySem.Str → PyData
  | none => .none
  | some x => .str x
def pairD (p : PySem.Str × Option PySem.Str) : PyData := .tuple [.str p.1, optD p.2]
theorem popR_len : ∀ (st : List PySem.Str) (name : PySem.Str), (popR st name).length ≤ st.length
  | [], _ => Nat.le_refl _
  | t :: r, name => by
    unfold popR
    split
    · have := popR_len r name; simp; omega
    · exact Nat.le_refl _
theorem pstep_len (xs : List PySem.Str) : ∀ p, (xs.foldl pstep p).1.length ≤ p.1.length + xs.length ∧ (xs.foldl pstep p).2.length = p.2.length + xs.length := by
  induction xs with
  | nil => intro p; simp
  | cons x r ih =>
    intro p
    have h := ih (pstep p x)
    have h2 := popR_len p.1 x
    simp only [List.foldl_cons, List.length_cons]
    simp only [pstep, List.length_cons, List.length_append, List.length_nil] at h
    simp only [pstep]
    omega
theorem popR_mem {st : List PySem.Str} {name y : PySem.Str} : y ∈ popR st name → y ∈ st := by
  induction st with
  | nil => intro h; exact h
  | cons t r ih =>
    intro h
    unfold popR at h
    split at h
    · exact List.mem_cons_of_mem _ (ih h)
    · exact h
theorem pstep_mem (xs : List PySem.Str) : ∀ p y, y ∈ (xs.foldl pstep p).1 → y ∈ p.1 ∨ y ∈ xs := by
  induction xs with
  | nil => intro p y h; exact .inl h
  | cons x r ih =>
    intro p y h
    rcases ih _ y h with h | h
    · simp only [pstep, List.mem_cons] at h
      rcases h with rfl | h
      · exact .inr (.head _)
      · exact .inl (popR_mem h)
    · exact .inr (.tail _ h)
section
variable {prog : Program} {w : World} {A : Around} {E : Value → Shared → Prop} {s : Shared}
theorem reads_strs {h : Heap} {vs : List Value} {xs : List PySem.Str} (hs : StrsAre vs xs) : ReadsAll h vs (xs.map PyData.str) [] := by
  induction hs with
  | nil => exact .nil
  | cons x t _ ih => exact ReadsAll.cons (as := []) (bs := []) (.str x t) ih
theorem lay_strs {xs : List PySem.Str} (h : ∀ x ∈ xs, PyData.strOk x = true) : PyData.canLayAll0 (xs.map PyData.str) = true := by
  induction xs with
  | nil => rfl
  | cons x r ih => simp only [List.map_cons, PyData.canLayAll0, PyData.canLay0, h x (.head _), Bool.true_and]; exact ih fun y hy => h y (.tail _ hy)
theorem depth_strs (xs : List PySem.Str) : PyData.depthAll (xs.map PyData.str) = 0 := by
  induction xs with
  | nil => rfl
  | cons x r ih => simp [PyData.depthAll, PyData.depth, ih]
theorem shaped_strs {xs : List PySem.Str} (h : ∀ x ∈ xs, PyData.strOk x = true) : SeqAt.shaped (.list (xs.map PyData.str)) = true := by
  simp only [SeqAt.shaped, PyData.canLay0, PyData.depth, depth_strs, lay_strs h]; rfl
theorem eqv_strs : ∀ xs ys : List PySem.Str, PyData.eqvAll (xs.map PyData.str) (ys.map PyData.str) = decide (xs = ys)
  | [], [] => by simp [PyData.eqvAll]
  | [], y :: ys => by simp [PyData.eqvAll]
  | x :: xs, [] => by simp [PyData.eqvAll]
  | x :: xs, y :: ys => by
    simp only [List.map_cons, PyData.eqvAll, PyData.eqv, eqv_strs xs ys]
    by_cases h : x = y <;> by_cases k : xs = ys <;> simp [h, k]
theorem ne_strs {a b : Addr} {vs ws : List Value} {xs ys : List PySem.Str} {Q : Value → Shared → Prop} (ha : s.heap.IsList a vs.toArray) (hb : s.heap.IsList b ws.toArray) (hx : StrsAre vs xs) (hy : StrsAre ws ys)
    (ox : ∀ x ∈ xs, PyData.strOk x = true) (oy : ∀ x ∈ ys, PyData.strOk x = true) (hu : A.units + 64 < cLine) (h : Q (.bool (!decide (xs = ys))) s) :
    wpAny (model prog w) A (compareOp .NotEq (.ref a) (.ref b)) Q E s := by
  obtain ⟨oa, ea, ca, na, da⟩ := ha
  obtain ⟨ob, eb, cb, nb, db⟩ := hb
  refine SeqAt.compareNe_shaped (.list ea ca da (by simpa using reads_strs hx)) (.list eb cb db (by simpa using reads_strs hy)) (shaped_strs ox) (shaped_strs oy) hu ?_
  simp only [PyData.eqv, eqv_strs]
  exact h
end
/-- tuples of a name and a name or None, in a ledger -/
inductive TupsAre (tps : List (Addr × Obj)) : List Value → List (PySem.Str × Option PySem.Str) → Prop where
  | nil : TupsAre tps [] []
  | cons {t : Addr} {x : PySem.Str} {u : Tok} {v2 : Value} {o : Option PySem.Str} {k : Nat} {vs out} : (t, ({ cls := .type "tuple", data := .seq #[.str x u, v2] k } : Obj)) ∈ tps → OptV v2 o → TupsAre tps vs out → TupsAre tps (.ref t :: vs) ((x, o) :: out)
theorem TupsAre.mono {tps tps' : List (Addr × Obj)} {vs : List Value} {out : List (PySem.Str × Option PySem.Str)} (h : TupsAre tps vs out) (hs : ∀ p ∈ tps, p ∈ tps') : TupsAre tps' vs out := by
  induction h with
  | nil => exact .nil
  | cons hm ho _ ih => exact .cons (hs _ hm) ho ih
theorem TupsAre.app {tps : List (Addr × Obj)} {vs ws : List Value} {out out' : List (PySem.Str × Option PySem.Str)} (h : TupsAre tps vs out) (k : TupsAre tps ws out') : TupsAre tps (vs ++ ws) (out ++ out') := by
  induction h with
  | nil => exact k
  | cons hm ho _ ih => exact .cons hm ho ih
theorem TupsAre.length {tps : List (Addr × Obj)} {vs : List Value} {out : List (PySem.Str × Option PySem.Str)} (h : TupsAre tps vs out) : vs.length = out.length := by
  induction h with
  | nil => rfl
  | cons _ _ _ ih => simp [ih]
theorem TupsAre.reads {tps : List (Addr × Obj)} {h : Heap} {vs : List Value} {out : List (PySem.Str × Option PySem.Str)} (ht : TupsAre tps vs out) (hN : ∀ p ∈ tps, h.get? p.1 = some p.2) : ReadsAll h vs (out.map pairD) [] := by
  induction ht with
  | nil => exact .nil
  | @cons t x u v2 o k vs out hm ho _ ih =>
    have r2 : Reads h v2 (optD o) [] := by cases ho with | none => exact .none | str y u => exact .str y u
    refine ReadsAll.cons (as := []) (bs := []) (Reads.tuple (hN _ hm) rfl rfl ?_) ih
    exact ReadsAll.cons (as := []) (bs := []) (.str x u) (ReadsAll.cons (as := []) (bs := []) r2 .nil)
end Mine
namespace Mine
local macro_rules | `(tactic| walk_at "call ref") => `(tactic| (refine stop_intro ?_))
local macro_rules | `(tactic| walk_at "eval ListComp") => `(tactic| (refine stop_intro ?_))
local macro_rules | `(tactic| walk_at "pyIter ref") => `(tactic| (refine stop_intro ?_))
local macro_rules | `(tactic| walk_at "compareOp NotEq ref") => `(tactic| (refine stop_intro ?_))
local macro_rules | `(tactic| walk_at "compareOp NotEq ref ref") => `(tactic| (refine stop_intro ?_))
-- part P2
section
theorem StrsAre.snoc_inv {vs : List Value} {ys : List PySem.Str} (h : StrsAre vs ys) : ∀ {xs : List PySem.Str} {x : PySem.Str}, ys = xs ++ [x] → ∃ ws u, vs = ws ++ [.str x u] ∧ StrsAre ws xs := by
  induction h with
  | nil => intro xs x e; simp at e
  | cons y t hr ih =>
    intro xs x e
    cases xs with
    | nil =>
      simp only [List.nil_append, List.cons.injEq] at e
      obtain ⟨rfl, rfl⟩ := e
      cases hr
      exact ⟨[], t, rfl, .nil⟩
    | cons z zs =>
      simp only [List.cons_append, List.cons.injEq] at e
      obtain ⟨rfl, e⟩ := e
      obtain ⟨ws, u, rfl, hw⟩ := ih e
      exact ⟨.str y t :: ws, u, rfl, .cons y t hw⟩
theorem kl_last_app : ∀ (l : List Value) (x : Value), kl_last (l ++ [x]) = some (l, x)
  | [], _ => rfl
  | a :: r, x => by simp only [List.cons_append, kl_last, kl_last_app r x]
theorem last_item {prog : Program} {w : World} {A : Around} {E : Value → Shared → Prop} {s : Shared} {D : Addr} {ws : List Value} {v : Value} {u : Tok} {value slice : PySem.Expr} {Q : Value → Shared → Prop}
    (hl : s.heap.IsList D (ws ++ [v]).toArray) (hw : ws.length < 2 ^ 40) (h : Q v s)
    (hs : subscripted slice false (.ref D) (.int (-1) u) = operate [.ref D, .int (-1) u] (getItem (.ref D) (.int (-1) u)) := by with_unfolding_all rfl) :
    wpAny (model prog w) A (subscriptTail value slice (.ref D) (.int (-1) u)) Q E s := by
  refine tail_any hl.typeIs slot_list_getitem.lookup (wpAny_getItem_list_neg hl (by decide) ?_ (by decide) ?_ h) hs
  · simp; omega
  · have : (-1 + ((ws ++ [v]).toArray.size : Int)).toNat = ws.length := by simp; omega
    rw [this]; simp
/-- the ledger behind an _Ignore that is made -/
theorem rdr_news {w : World} {h₀ hb h : Heap} {L : Addr} {m : PySem.Str → Option Value} {news : List (Addr × Obj)} {x dx sd ld d : Addr} {xs : List PySem.Str} {n : Nat} (F : Fr h₀ L hb m) (N : News h₀ L hb news) (R : Rdr w hb h x dx sd ld d xs n) (hk : ∀ b o, hb.get? b = some o → h.get? b = some o) :
    ∃ t1 t2 t3, News h₀ L h ((x, instObj 93 dx) :: (dx, rdO w.params sd ld d t1 t2 t3) :: news) := by
  obtain ⟨t1, t2, t3, odx⟩ := R.odx
  obtain ⟨oL, _, _, hL, _⟩ := F.ns
  have nL : ∀ b, hb.get? b = none → b ≠ L ∧ h₀.get? b = none := by
    intro b e
    refine ⟨fun q => ?_, ?_⟩
    · rw [q, hL] at e; cases e
    · cases q : h₀.get? b with
      | none => rfl
      | some o => rw [F.keep b o q] at e; cases e
  refine ⟨t1, t2, t3, fun p hp => ?_⟩
  rcases List.mem_cons.mp hp with rfl | hp
  · exact ⟨R.ox, nL _ R.nx⟩
  · rcases List.mem_cons.mp hp with rfl | hp
    · exact ⟨odx, nL _ R.ndx⟩
    · exact ⟨hk _ _ (N p hp).1, (N p hp).2⟩
theorem but_fr {h₀ hb h : Heap} {L d : Addr} {m : PySem.Str → Option Value} (F : Fr h₀ L hb m) (nd : hb.get? d = none) (hk : ∀ b o, b ≠ d → hb.get? b = some o → h.get? b = some o) : Fr h₀ L h m := by
  obtain ⟨oL, _, _, hL, _⟩ := id F.ns
  have hLd : L ≠ d := fun q => by rw [← q, hL] at nd; cases nd
  exact ⟨F.ns.at' fun o e => hk L o hLd e, fun b o e => hk b o (fun q => by rw [← q, F.keep b o e] at nd; cases nd) (F.keep b o e), F.above⟩
theorem but_news {h₀ hb h : Heap} {L d : Addr} {news : List (Addr × Obj)} (N : News h₀ L hb news) (nd : hb.get? d = none) (hk : ∀ b o, b ≠ d → hb.get? b = some o → h.get? b = some o) : News h₀ L h news := fun p hp =>
  ⟨hk _ _ (fun q => by rw [← q, (N p hp).1] at nd; cases nd) (N p hp).1, (N p hp).2⟩
local macro_rules | `(tactic| walk_at "exec For Name Name cons nil") => `(tactic| (refine stop_intro ?_))
local macro_rules | `(tactic| walk_at "exec While BoolOp cons nil") => `(tactic| (refine stop_intro ?_))
local macro_rules | `(tactic| walk_at "subscriptTail") => `(tactic| (refine stop_intro ?_))
local macro_rules | `(tactic| walk_at "call builtin:list.append") => `(tactic| (refine stop_intro ?_))
local macro_rules | `(tactic| walk_at "call builtin:list.pop") => `(tactic| (refine stop_intro ?_))
theorem piled_c {w : World} {mean mg mb} {A : Around} {s : Shared} {Q E : Value → Shared → Prop} {a : Addr} {vs : List Value} {xs : List PySem.Str}
    (hh : A.handled = none) (hdp : A.depth + 20 < recursionLimit) (hu : A.units + 300 < cLine)
    (X : (hd.heap_39 w.params).In s.heap) (T : Tp mean mg mb s.heap)
    (hl : s.heap.IsList a vs.toArray) (hi : StrsAre vs xs) (hn : xs.length ≤ 100) (hok : ∀ x ∈ xs, PyData.strOk x = true) (hxl : ∀ x ∈ xs, x.length ≤ 1000) (hns : ∀ x ∈ xs, x ≠ Str.ofString "<string>")
    (h : ∀ l s' as, Gs s s' → Reads s'.heap (.ref l) (.list ((piledOf xs).map pairD)) as → Q (.ref l) s') :
    wpAny (model PySem.Challenge.rw_ny0065_01.row.prog w) A (call (.ref 132) [.ref a]) Q E s := by
  revert X; k_fill; intro X
  obtain ⟨_, dp, fr, gd, un⟩ := A
  dsimp only at hh hdp hu
  subst hh
  refine enterF X T.nolimit (f := 132) (binds := [(Str.ofString "row", .ref a)]) rfl (by k_is) (by dsimp only; omega) (BindsTo.of_eq rfl) (locs rfl) (by decide) rfl rfl rfl (fun L h₁ F N => ?_)
  k_steps
  refine stop_elim ?_
  refine wpAny_For ?_
  k_steps
  refine stop_elim ?_
  rename Fr _ _ _ _ => F1
  rename News _ _ _ _ => N1
  have hl1 := Fr.lst F1 hl
  have halt : a < s.heap.objs.size := let ⟨_, e, _⟩ := hl; Heap.lt_size e
  have hL0 : s.heap.objs.size ≤ L := F1.above
  rename_i tk0 pl ha1 l10 ha2 fl ha3 lpf h2
  have hplf := (N1 _ (.tail _ (.head _))).2
  have hflf := (N1 _ (.head _)).2
  have hpfne : pl ≠ fl := Nat.ne_of_lt lpf
  refine for_list (h₀ := s.heap) rfl hl1 ?_ rfl rfl F1 N1 (fun i m₁ news₁ => (∀ y, y ≠ Str.ofString "name" → m₁ y = if y = Str.ofString "found" then some (Value.ref fl) else if y = Str.ofString "pile" then some (Value.ref pl) else List.lookup y [(Str.ofString "row", Value.ref a)].reverse) ∧ ∃ ws n1 fs n2 tps, news₁ = (fl, listOf fs.toArray n2) :: (pl, listOf ws.toArray n1) :: tps ∧ StrsAre ws ((xs.take i).foldl pstep ([], [])).1.reverse ∧ TupsAre tps fs ((xs.take i).foldl pstep ([], [])).2 ∧ ∀ p ∈ tps, p.1 ≠ pl ∧ p.1 ≠ fl) ?_ ?_ ?_
  · exact Nat.ne_of_gt (Nat.lt_of_lt_of_le halt hL0)
  · exact ⟨fun _ _ => rfl, [], 0, [], 0, [], rfl, .nil, .nil, fun p hp => nomatch hp⟩
  · rintro i v m₁ news₁ s₁ own hv ⟨hm, ws, n1, fs, n2, tps, rfl, hws, hfs, htp⟩ hg ho hown hIown hne hli F2 N2
    obtain ⟨name, tn, rfl, hxi⟩ := StrsAre.at' hi (by simpa using hv)
    have hil : i < xs.length := by rcases Nat.lt_or_ge i xs.length with q | q; exact q; rw [List.getElem?_eq_none q] at hxi; cases hxi
    have hnx : name ∈ xs := List.mem_of_getElem? hxi
    have hlen := pstep_len (xs.take i) ([], [])
    have hmemst : ∀ y ∈ ((xs.take i).foldl pstep ([], [])).1, y ∈ xs := fun y hy => by
      rcases pstep_mem _ _ y hy with q | q
      · cases q
      · exact List.mem_of_mem_take q
    have hnext : (xs.take (i + 1)).foldl pstep ([], []) = pstep ((xs.take i).foldl pstep ([], [])) name := by
      rw [List.take_add_one, hxi, List.foldl_append]; rfl
    generalize hst : ((xs.take i).foldl pstep ([], [])) = PS at hws hfs hlen hmemst hnext
    obtain ⟨st, out⟩ := PS
    dsimp only at hws hfs hlen hmemst
    rw [map_but hm] at F2
    simp only [List.cons_append] at N2
    dsimp only at hg ho hown hne
    have hrest : ∀ p ∈ tps ++ own, p.1 ≠ pl ∧ p.1 ≠ fl := fun p hp => by
      rcases List.mem_append.mp hp with q | q
      · exact htp p q
      · rcases hown p q with e | e
        · exact ⟨fun z => hne _ (.tail _ (.head _)) (z.symm.trans e), fun z => hne _ (.head _) (z.symm.trans e)⟩
        · obtain ⟨ol, hol, _⟩ := hl
          refine ⟨fun z => ?_, fun z => ?_⟩
          · have := hplf.2; rw [← z, e] at this; (try dsimp only at this); rw [this] at hol; cases hol
          · have := hflf.2; rw [← z, e] at this; (try dsimp only at this); rw [this] at hol; cases hol
    generalize htl : tps ++ own = tl at N2 hrest
    clear F1 N1
    k_steps
    refine stop_elim ?_
    refine wpAny_mono (while_g (Q := fun f s₄ => Stop (f = .next ∧ ∃ (ws' : List Value) (n1' : Nat), s₄.gens = s.gens ∧ s₄.os = s.os ∧ Fr s.heap L s₄.heap (fun y => if y = Str.ofString "name" then some (Value.str name tn) else if y = Str.ofString "found" then some (Value.ref fl) else if y = Str.ofString "pile" then some (Value.ref pl) else List.lookup y [(Str.ofString "row", Value.ref a)].reverse) ∧ News s.heap L s₄.heap ((fl, listOf fs.toArray n2) :: (pl, listOf ws'.toArray n1') :: tl) ∧ StrsAre ws' (popR st name).reverse))
      (fun c s₃ => ∃ (st₃ : List PySem.Str) (ws' : List Value) (n1' : Nat), st₃.length = c ∧ (∀ y ∈ st₃, y ∈ xs) ∧ st₃.length ≤ i ∧ popR st name = popR st₃ name ∧ s₃.gens = s.gens ∧ s₃.os = s.os ∧ Fr s.heap L s₃.heap (fun y => if y = Str.ofString "name" then some (Value.str name tn) else if y = Str.ofString "found" then some (Value.ref fl) else if y = Str.ofString "pile" then some (Value.ref pl) else List.lookup y [(Str.ofString "row", Value.ref a)].reverse) ∧ News s.heap L s₃.heap ((fl, listOf fs.toArray n2) :: (pl, listOf ws'.toArray n1') :: tl) ∧ StrsAre ws' st₃.reverse) ?_ st.length ⟨st, ws, n1, rfl, hmemst, ?_, rfl, hg, ho, F2, N2, hws⟩) ?_ (fun _ _ e => e)
    · clear F2 N2 hws
      rintro c s₃ ⟨st₃, ws', n1', rfl, hm3, hl3, hp3, hg3, ho3, F3, N3, hws3⟩
      have keepS : Unit → StrsAre ws' st₃.reverse := fun _ => hws3
      k_steps
      refine stop_elim ?_
      rename Fr _ _ _ _ => F5
      rename News _ _ _ _ => N5
      refine ne_strs (News.isList N5 (.tail _ (.tail _ (.head _)))) (News.isList N5 (.head _)) (keepS ()) .nil (fun x hx => hok x (hm3 x (List.mem_reverse.mp hx))) (fun x hx => nomatch hx) (by dsimp only [Around.deeper]; omega) ?_
      cases hst3 : st₃ with
      | nil =>
        subst hst3
        rw [show (!decide (([] : List PySem.Str).reverse = [])) = false by decide]
        k_steps
        exact stop_elim ⟨trivial, ws', n1', hg3, ho3, F5, fun p hp => N5 p (.tail _ hp), by rw [hp3]; exact keepS ()⟩
      | cons t r =>
        subst hst3
        rw [show (!decide ((t :: r).reverse = [])) = true by simp]
        obtain ⟨wsr, ut, rfl, hwsr⟩ := StrsAre.snoc_inv (keepS ()) (List.reverse_cons ..)
        have hwl := hwsr.length
        have keepR : Unit → StrsAre wsr r.reverse := fun _ => hwsr
        simp only [List.length_reverse, List.length_cons] at hwl hl3
        k_steps
        refine stop_elim ?_
        refine last_item (News.isList N5 (.tail _ (.tail _ (.head _)))) (by omega) ?_
        k_steps
        refine stop_elim ?_
        rename Fr _ _ _ _ => F6
        rename News _ _ _ _ => N6
        refine ign_c rfl (by dsimp only [Around.deeper]; omega) (by dsimp only [Around.deeper]; omega) (X.keeps F6.keep) (T.keeps F6.keep) (News.isList (items := #[Value.str t ut]) N6 (.head _)) (.cons t ut .nil) (by simp) (by simp) (fun x dx sd ld d s6 g6 R6 => ?_)
        obtain ⟨t1, t2, t3, N7⟩ := rdr_news F6 N6 R6 g6.keep
        have F7 := F6.keeps g6.keep
        have lts := R6.lts
        have hts := hns name hnx
        k_steps
        refine stop_elim ?_
        refine names_c rfl (by dsimp only [Around.deeper]; omega) (by dsimp only [Around.deeper]; omega) (X.keeps F6.keep) (T.keeps F6.keep) (by exact g6.keep) (by exact R6) (by decide) hts (fun m hm => by rw [List.mem_singleton.mp hm]; exact hxl t (hm3 t (.head _))) (fun t8 s8 hk8 hg8 ho8 R8 => ?_)
        have hk8' : ∀ b o, b ≠ d → _ → s8.heap.get? b = some o := fun b o hb e => hk8 b o hb (g6.keep b o e)
        have F8 := but_fr F6 R6.nd hk8'
        have N8 := but_news N6 R6.nd hk8'
        have g8 : s8.gens = s.gens := hg8.trans (g6.gens.trans hg3)
        have o8 : s8.os = s.os := ho8.trans (g6.os.trans ho3)
        clear F7 N7 F6 N6
        k_steps
        · rename (ansOf [t] name = 0) => hans
          refine stop_elim ?_
          refine kl_pop (p := wsr) (y := .str t ut) (by exact F8) (by exact N8) ?_ (.tail ?_ (.tail ?_ (.tail ?_ (.head fun p hp => (hrest p hp).1)))) ?_ (fun h9 F9 N9 => ?_)
          · exact kl_last_app _ _
          · exact neN (by dsimp only; omega)
          · exact neN (by dsimp only; omega)
          · exact fun q => hpfne q.symm
          · simp only [sizeLine_eq]; simp; omega
          k_steps
          refine stop_elim ⟨r.length, by simp, r, wsr, n1' + 1, rfl, fun y hy => hm3 y (.tail _ hy), by omega, ?_, g8, o8, F9, fun p hp => N9 p (.tail _ (.tail _ hp)), keepR ()⟩
          rw [hp3]; simp only [popR, hans, if_true]
        · rename (ansOf [t] name ≠ 0) => hans
          refine stop_elim ⟨trivial, _, n1', g8, o8, F8, fun p hp => N8 p (.tail _ (.tail _ hp)), ?_⟩
          rw [hp3]; simp only [popR, hans, if_false]; exact keepS ()
    · have := hlen.1
      simp at this; omega
    · rintro f s₄ ⟨rfl, ws', n1', hg4, ho4, F4, N4, hws4⟩
      clear F2 N2 hws
      have keepS : Unit → StrsAre ws' (popR st name).reverse := fun _ => hws4
      have keepF : Unit → TupsAre tps fs out := fun _ => hfs
      have hfl := hfs.length
      have hwl4 := hws4.length
      have hpl4 := popR_len st name
      obtain ⟨oI, hoI⟩ := hIown
      have hnefl : fl ≠ h2.objs.size := hne _ (.head _)
      have hnepl : pl ≠ h2.objs.size := hne _ (.tail _ (.head _))
      have fin : ∀ (s₆ : Shared) (v2 : Value) (wsx : List Value) (tA lA : Addr), Fr s.heap L s₆.heap (fun y => if y = Str.ofString "name" then some (Value.str name tn) else if y = Str.ofString "found" then some (Value.ref fl) else if y = Str.ofString "pile" then some (Value.ref pl) else List.lookup y [(Str.ofString "row", Value.ref a)].reverse) → s₆.gens = s.gens → s₆.os = s.os →
          News s.heap L s₆.heap ((tA, { cls := .type "tuple", data := .seq #[.str name tn, v2] }) :: (lA, listOf #[] 0) :: (fl, listOf (fs.toArray.push (.ref tA)) (n2 + 1)) :: (pl, listOf (wsx.toArray.push (.str name tn)) (n1' + 1)) :: tl) → OptV v2 (popR st name).head? → (@LT.lt Nat _ fl tA ∧ @LT.lt Nat _ pl tA) → AllLt tA tl → StrsAre wsx (popR st name).reverse →
          (s₆.gens = s.gens ∧ s₆.os = s.os ∧ ∃ m₂ news₂, Fr s.heap L s₆.heap m₂ ∧ News s.heap L s₆.heap (news₂ ++ own) ∧ (∀ p ∈ news₂, p.1 ≠ h2.objs.size) ∧ (∀ y, y ≠ Str.ofString "name" → m₂ y = if y = Str.ofString "found" then some (Value.ref fl) else if y = Str.ofString "pile" then some (Value.ref pl) else List.lookup y [(Str.ofString "row", Value.ref a)].reverse) ∧ ∃ (ws : List Value) (n1 : Nat) (fs : List Value) (n2 : Nat) (tps : List (Addr × Obj)), news₂ = (fl, listOf fs.toArray n2) :: (pl, listOf ws.toArray n1) :: tps ∧ StrsAre ws ((xs.take (i + 1)).foldl pstep ([], [])).1.reverse ∧ TupsAre tps fs ((xs.take (i + 1)).foldl pstep ([], [])).2 ∧ ∀ p ∈ tps, p.1 ≠ pl ∧ p.1 ≠ fl) := by
        intro s₆ v2 wsx tA lA F6 g6 o6 N6 ho2 htA hall hwx
        have htAI : tA ≠ h2.objs.size := by
          have : ∀ {l : List (Addr × Obj)}, AllLt tA l → ∀ p ∈ l, p.1 < tA := by
            intro l
            induction l with
            | nil => intro _ p hp; cases hp
            | cons q r ih => intro h p hp; rcases List.mem_cons.mp hp with rfl | hp; exact h.1; exact ih h.2 p hp
          have := this hall (h2.objs.size, oI) (by rw [← htl]; exact List.mem_append_right _ hoI)
          exact Nat.ne_of_gt this
        simp only [List.push_toArray] at N6
        refine ⟨g6, o6, _, (fl, listOf (fs ++ [Value.ref tA]).toArray (n2 + 1)) :: (pl, listOf (wsx ++ [Value.str name tn]).toArray (n1' + 1)) :: (tA, { cls := .type "tuple", data := .seq #[.str name tn, v2] }) :: tps, F6, fun p hp => N6 p ?_, fun p hp => ?_, fun y hy => by simp [hy], _, _, _, _, _, rfl, ?_, ?_, fun p hp => ?_⟩
        · rw [← htl]
          simp only [List.cons_append, List.mem_cons, List.mem_append] at hp ⊢
          rcases hp with hp | hp | hp | hp | hp
          · exact .inr (.inr (.inl hp))
          · exact .inr (.inr (.inr (.inl hp)))
          · exact .inl hp
          · exact .inr (.inr (.inr (.inr (.inl hp))))
          · exact .inr (.inr (.inr (.inr (.inr hp))))
        · simp only [List.mem_cons] at hp
          rcases hp with rfl | rfl | rfl | hp
          · exact hnefl
          · exact hnepl
          · exact htAI
          · exact hne p (.tail _ (.tail _ hp))
        · rw [hnext]
          simp only [pstep, List.reverse_cons]
          exact StrsAre.app hwx (.cons name tn .nil)
        · rw [hnext]
          simp only [pstep]
          exact TupsAre.app ((keepF ()).mono fun p hp => .tail _ hp) (.cons (.head _) ho2 .nil)
        · rcases List.mem_cons.mp hp with rfl | hp
          · exact ⟨Nat.ne_of_gt htA.2, Nat.ne_of_gt htA.1⟩
          · exact htp p hp
      have hm4 : ∀ y ∈ popR st name, y ∈ xs := fun y hy => hmemst y (popR_mem hy)
      simp only [List.length_reverse, List.length_nil, Nat.zero_add, List.length_take] at hwl4 hlen
      k_steps
      refine stop_elim ?_
      rename Fr _ _ _ _ => F5
      rename News _ _ _ _ => N5
      refine ne_strs (News.isList N5 (.tail _ (.tail _ (.head _)))) (News.isList N5 (.head _)) (keepS ()) .nil (fun x hx => hok x (hm4 x (List.mem_reverse.mp hx))) (fun x hx => nomatch hx) (by dsimp only [Around.deeper]; omega) ?_
      cases hst4 : popR st name with
      | nil =>
        rw [hst4] at keepS
        rw [show (!decide (([] : List PySem.Str).reverse = [])) = false by decide]
        k_steps
        rename Fr _ _ _ _ => F6
        rename News _ _ _ _ => N6
        refine stop_elim ?_
        refine append_K (by exact F6) (by exact N6) (.tail (neN (by dsimp only; omega)) (.tail (neN (by dsimp only; omega)) (.head fun p hp => ?_))) (fun h9 F9 N9 => ?_) (by simp [sizeLine_eq]; omega)
        · rcases List.mem_cons.mp hp with rfl | hp
          · exact hpfne
          · exact (hrest p hp).2
        k_steps
        refine stop_elim ?_
        refine append_K (by exact F9) (by exact N9) (.tail (neN (by dsimp only; omega)) (.tail (neN (by dsimp only; omega)) (.tail (fun q => hpfne q.symm) (.head fun p hp => (hrest p hp).1)))) (fun h10 F10 N10 => ?_) (by simp [sizeLine_eq]; omega)
        k_steps
        refine stop_elim (fin _ .none _ _ _ F10 hg4 ho4 N10 (by rw [hst4]; exact .none) (by omega) (by exact (‹_ ∧ _ ∧ _ ∧ AllLt _ tl›).2.2.2) ?_)
        rw [hst4]; exact keepS ()
      | cons t r =>
        rw [hst4] at keepS hwl4
        rw [show (!decide ((t :: r).reverse = [])) = true by simp]
        obtain ⟨wsr, ut, rfl, hwsr⟩ := StrsAre.snoc_inv (keepS ()) (List.reverse_cons ..)
        have hwrl := hwsr.length
        have hstl : r.length + 1 ≤ st.length := by rw [hst4] at hpl4; exact hpl4
        simp only [List.length_reverse] at hwrl
        k_steps
        refine stop_elim ?_
        refine last_item (News.isList N5 (.tail _ (.tail _ (.head _)))) (by omega) ?_
        k_steps
        rename Fr _ _ _ _ => F6
        rename News _ _ _ _ => N6
        refine stop_elim ?_
        refine append_K (by exact F6) (by exact N6) (.tail (neN (by dsimp only; omega)) (.tail (neN (by dsimp only; omega)) (.head fun p hp => ?_))) (fun h9 F9 N9 => ?_) (by simp [sizeLine_eq]; omega)
        · rcases List.mem_cons.mp hp with rfl | hp
          · exact hpfne
          · exact (hrest p hp).2
        k_steps
        refine stop_elim ?_
        refine append_K (by exact F9) (by exact N9) (.tail (neN (by dsimp only; omega)) (.tail (neN (by dsimp only; omega)) (.tail (fun q => hpfne q.symm) (.head fun p hp => (hrest p hp).1)))) (fun h10 F10 N10 => ?_) (by simp [sizeLine_eq]; omega)
        k_steps
        refine stop_elim (fin _ (.str t ut) _ _ _ F10 hg4 ho4 N10 (by rw [hst4]; exact .str t ut) (by omega) (by exact (‹_ ∧ _ ∧ _ ∧ AllLt _ tl›).2.2.2) ?_)
        rw [hst4]; exact keepS ()
  · rintro s₁ m₁ news₁ hg ho ⟨hm, ws, n1, fs, n2, tps, rfl, hws, hfs, htp⟩ F2 N2
    rw [show vs.toArray.size = xs.length by simp [hi.length], List.take_length] at hfs
    rw [map_self hm] at F2
    generalize m₁ (Str.ofString "name") = nv at F2
    have keepF : Unit → TupsAre tps fs (piledOf xs) := fun _ => hfs
    k_steps
    dsimp only at hg ho
    exact h fl _ _ ⟨F2.keep, hg, ho⟩ (.list (N2 _ (.head _)).1 rfl rfl (by simpa using (keepF ()).reads fun p hp => (N2 p (.tail _ (.tail _ hp))).1))
end
-- part M1
section
section
variable {prog : Program} {w : World} {A : Around} {E : Value → Shared → Prop} {s : Shared}
theorem compLoop_g {R : Result → Shared → Prop} {elt target iter : PySem.Expr} {ifs : List PySem.Expr} {scope : Scope} {pos : Pos} {it acc : Value} {env : Env} (I : Nat → Shared → Prop)
    (turn : ∀ n s, I n s → wpAny (model prog w) A (pyNext it) (fun r s₁ => match r with
      | none => R (.ok .next) s₁
      | some v => wpAny (model prog w) A (letOwnedTupleGo target it v) (fun _ s₁' => wpAny (model prog w) A (assign target env v) (fun _ s₂ =>
          wpAny (model prog w) A (forIn ifs true fun c r => if r = true then do let ok ← isTrue c env (eval c env); pure (ForInStep.yield ok) else pure (ForInStep.yield r)) (fun ok s₃ =>
            if ok = true then wpAny (model prog w) A (eval elt env) (fun x s₄ =>
              wpAny (model prog w) A (call (.builtin "list.append") [acc, x]) (fun _ s₅ => ∃ m, m < n ∧ I m s₅) (fun _ _ => False) s₄) (fun _ _ => False) s₃
            else ∃ m, m < n ∧ I m s₃) (fun _ _ => False) s₂) (fun _ _ => False) s₁') (fun _ _ => False) s₁) (fun _ _ => False) s)
    (n : Nat) (h : I n s) :
    codeAny (model prog w) A (.compLoop (.ListComp elt [⟨target, iter, ifs, 0⟩] scope pos) 0 it acc env) R s := by
  refine codeAny_loop rfl I (fun n s hI => ?_) n h
  show wpAny _ A ((compTurn (.ListComp elt [⟨target, iter, ifs, 0⟩] scope pos) 0 it acc env).onRaise (fun x => do noteFrame x env; theTreesLotGoes x)) _ _ s
  refine wpAny_noted ?_
  rw [compTurn_list]
  refine wpAny_bind (wpAny_standAt (wpAny_bind (wpAny_mono (turn n s hI) (fun r s₁ h₁ => ?_) fun _ _ h' => h'.elim)))
  cases r with
  | none => exact wpAny_pure h₁
  | some v =>
    refine wpAny_bind (wpAny_mono h₁ (fun _ s₁' h₁' => ?_) fun _ _ h' => h'.elim)
    refine wpAny_bind (wpAny_mono h₁' (fun _ s₂ h₂ => wpAny_bind (wpAny_mono h₂ (fun ok s₃ h₃ => ?_) fun _ _ h' => h'.elim)) fun _ _ h' => h'.elim)
    cases ok with
    | false => exact wpAny_pure ⟨rfl, h₃⟩
    | true =>
      exact wpAny_bind (wpAny_bind (wpAny_mono h₃ (fun x s₄ h₄ => wpAny_bind (wpAny_mono h₄ (fun _ s₅ h₅ => wpAny_pure (wpAny_pure ⟨rfl, h₅⟩)) fun _ _ h' => h'.elim)) fun _ _ h' => h'.elim))
open LCg
/-- the turn's end -/
def CEnd (h₀ : Heap) (L : Addr) (m : PySem.Str → Option Value) (s : Shared) (C D : Addr) (oC : Obj) (ys : List Value) (own : List (Addr × Obj)) (off : List Addr) (J : List Value → List (Addr × Obj) → Prop) (ys' : List Value) (s' : Shared) : Prop :=
  s'.gens = s.gens ∧ s'.os = s.os ∧ ∃ news₂, Fr h₀ L s'.heap m ∧ News h₀ L s'.heap ((C, oC) :: (D, lst ys) :: (news₂ ++ own)) ∧ (∀ p ∈ news₂, p.1 ∉ off) ∧ J ys' news₂
end
end
-- part M3
section
open LCg
section
variable {prog : Program} {w : World} {A : Around} {E : Value → Shared → Prop} {s : Shared}
/-- a comprehension over a walk: everything behind the iterator -/
theorem comp_gen {target elt iter : PySem.Expr} {ifs : List PySem.Expr} {scope : Scope} {cl : List (PySem.Str × Addr)} {pos : Pos} {env : Env} {h₀ : Heap} {L I : Addr} {m : PySem.Str → Option Value} {news : List (Addr × Obj)}
    {fp wr : List Addr} {n : Nat} {St : Nat → Heap → Prop} {RR : Value → Addr → Result → Shared → Prop} {B : Nat → (PySem.Str → Option Value) → Prop}
    (Wsub : ∀ b ∈ wr, b ∈ fp) (Wframe : ∀ i h h', St i h → (∀ b ∈ fp, ∀ o, h.get? b = some o → h'.get? b = some o) → St i h')
    (Wdone : ∀ (s : Shared) (Q : Option Value → Shared → Prop) (E : Value → Shared → Prop), St n s.heap → (∀ h' tk, (∀ b o, b ∉ wr → s.heap.get? b = some o → h'.get? b = some o) → Q none { s with heap := h', toks := tk }) → wpAny (model prog w) A (pyNext (.ref I)) Q E s)
    (hself : ∀ i (s : Shared) (Q : Value → Shared → Prop) (E : Value → Shared → Prop), St i s.heap → Q (.ref I) s → wpAny (model prog w) A (pyIter (.ref I)) Q E s)
    (hsz : n ≤ sizeLine) (hcell : ∀ y ∈ scope.names, y.2 ≠ .cell) (hkind : scope.kind = .function)
    (hst : St 0 s.heap) (hfp : ∀ b ∈ fp, b < s.heap.objs.size) (hLf : L ∉ fp) (hI₀ : ∀ b ∈ wr, h₀.get? b = none)
    (F : Fr h₀ L s.heap m) (N : News h₀ L s.heap news) (hnI : ∀ p ∈ news, p.1 ∉ wr)
    (J : Nat → List Value → List (Addr × Obj) → Prop) (hJ0 : J 0 [] news)
    (Wstep : ∀ i C m' (s₁ : Shared) (Q : Shared → Prop), i < n → St i s₁.heap → s₁.heap.Ns C m' → C ∉ fp →
      (∀ s₂ m₂, (∀ b o, b ≠ C → b ∉ wr → s₁.heap.get? b = some o → s₂.heap.get? b = some o) → s₂.gens = s₁.gens → s₂.os = s₁.os → St (i + 1) s₂.heap → s₂.heap.Ns C m₂ → B i m₂ → Q s₂) →
      wpAny (model prog w) A (pyNext (.ref I)) (fun r s₁ => match r with
        | none => False
        | some v => wpAny (model prog w) A (letOwnedTupleGo target (.ref I) v) (fun _ s₁' => wpAny (model prog w) A (assign target (compEnvC scope cl C env) v) (fun _ s₂ => Q s₂) (fun _ _ => False) s₁') (fun _ _ => False) s₁) (fun _ _ => False) s₁)
    (turn : ∀ i ys news₁ s₂ C oC D m₂ own, i < n → J i ys news₁ → ys.length ≤ i → s₂.gens = s.gens → s₂.os = s.os → NsObj oC m₂ → B i m₂ → (∀ p ∈ own, p.1 ∈ fp) → (∀ b ∈ fp, h₀.get? b = none → ∀ o, s₂.heap.get? b = some o → (b, o) ∈ own) → St (i + 1) s₂.heap → (∀ p ∈ news₁, p.1 ∉ (C :: D :: wr)) → (s.heap.objs.size ≤ C ∧ s.heap.objs.size ≤ D ∧ C ≠ D) →
      Fr h₀ L s₂.heap m → News h₀ L s₂.heap ((C, oC) :: (D, lst ys) :: (news₁ ++ own)) →
      wpAny (model prog w) A (forIn ifs true fun c r => if r = true then do let ok ← isTrue c (compEnvC scope cl C env) (eval c (compEnvC scope cl C env)); pure (ForInStep.yield ok) else pure (ForInStep.yield r)) (fun ok s₃ =>
        if ok = true then wpAny (model prog w) A (eval elt (compEnvC scope cl C env)) (fun y s₄ => CEnd h₀ L m s C D oC ys own (C :: D :: wr) (J (i + 1)) (ys ++ [y]) s₄) (fun _ _ => False) s₃
        else CEnd h₀ L m s C D oC ys own (C :: D :: wr) (J (i + 1)) ys s₃) (fun _ _ => False) s₂)
    (hRR : ∀ D C s' m' ys news', J n ys news' → s'.gens = s.gens → s'.os = s.os → Fr h₀ L s'.heap m → News h₀ L s'.heap ((D, lst ys) :: news') → (∀ p ∈ news', p.1 ∉ (C :: D :: wr)) → s'.heap.Ns C m' → h₀.get? C = none → C ≠ L → C ≠ D → s.heap.objs.size ≤ D → RR (.ref D) C (.ok .next) s') :
    wpAny (model prog w) A (newList []) (fun acc s₃ => wpAny (model prog w) A (newFunctionEnv scope env.globals cl [] env.qual none .none (some env)) (fun cenv s₄ =>
      codeAny (model prog w) A (.compStart (.ListComp elt [⟨target, iter, ifs, 0⟩] scope pos) 0 (.ref I) acc { cenv with scope := relabel scope env }) (RR acc cenv.locals) s₄) E s₃) E s := by
  refine wpAny_newObj_type (wpAny_newFunctionEnv hcell (by intro y hy; simp at hy) (fun h₁ hns₁ hsb₁ => ?_) hkind)
  dsimp only at hns₁ hsb₁ ⊢
  generalize hH2 : s.heap.push { cls := .type "list", dict := none, data := .seq ([] : List Value).toArray } = H2 at hns₁ hsb₁ ⊢
  have hC : H2.objs.size = s.heap.objs.size + 1 := by rw [← hH2, Heap.size_push]
  have hDC : s.heap.objs.size ≠ H2.objs.size := by rw [hC]; exact Nat.ne_of_lt (Nat.lt_succ_self _)
  have old : ∀ b o, s.heap.get? b = some o → h₁.get? b = some o := fun b o e => hsb₁.extBut b o (by rw [hC]; exact Nat.ne_of_lt (Nat.lt_succ_of_lt (Heap.lt_size e))) (Heap.get?_push_of_some _ (hH2 ▸ Heap.get?_push_of_some _ e))
  have hacc : h₁.get? s.heap.objs.size = some (lst []) := hsb₁.extBut _ _ hDC (Heap.get?_push_of_some _ (hH2 ▸ Heap.get?_push_size _ rfl))
  have hDltC : @LT.lt Nat _ s.heap.objs.size H2.objs.size := by rw [hC]; exact Nat.lt_succ_self _
  clear hC
  generalize hCe : H2.objs.size = C at *
  generalize hDe : s.heap.objs.size = D at *
  have hLlt : L < D := by rw [← hDe]; exact F.ns.lt
  have hDf : D ∉ fp := fun hm => Nat.lt_irrefl _ (hfp _ hm)
  have hCf : C ∉ fp := fun hm => Nat.lt_asymm hDltC (hfp _ hm)
  have fresh₀ : ∀ b, D ≤ b → h₀.get? b = none := fun b hb => by
    cases e : h₀.get? b with
    | none => rfl
    | some o' => have := Heap.lt_size (F.keep b o' e); rw [hDe] at this; exact absurd this (Nat.not_lt.mpr hb)
  have hD₀ := fresh₀ D (Nat.le_refl _)
  have hC₀ := fresh₀ C (Nat.le_of_lt hDltC)
  have hDL : D ≠ L := Nat.ne_of_gt hLlt
  have hCL : C ≠ L := Nat.ne_of_gt (Nat.lt_trans hLlt hDltC)
  have hCI : C ∉ wr := fun q => hCf (Wsub _ q)
  have hDI : D ∉ wr := fun q => hDf (Wsub _ q)
  have hLI : L ∉ wr := fun q => hLf (Wsub _ q)
  have hNlt : ∀ p ∈ news, p.1 < D := fun p hp => by rw [← hDe]; exact Heap.lt_size (N p hp).1
  have hst₁ : St 0 h₁ := Wframe _ _ _ hst fun b _ o e => old b o e
  have loop : ∀ s₃ : Shared, s₃ = { s with heap := h₁, toks := s.toks + ([] : List (PySem.Str × Value)).length } →
      codeAny (model prog w) A (.compLoop (.ListComp elt [⟨target, iter, ifs, 0⟩] scope pos) 0 (.ref I) (.ref D) (compEnvC scope cl C env)) (RR (.ref D) C) s₃ := by
    rintro s₃ rfl
    refine compLoop_g (fun k s' => ∃ i ys m' news', i ≤ n ∧ k = n + 1 - i ∧ ys.length ≤ i ∧ St i s'.heap ∧ Fr h₀ L s'.heap m ∧ s'.heap.Ns C m' ∧ News h₀ L s'.heap ((D, lst ys) :: news') ∧ (∀ p ∈ news', p.1 ∉ (C :: D :: wr)) ∧ J i ys news' ∧ s'.gens = s.gens ∧ s'.os = s.os) ?_ (n + 1)
      ⟨0, [], _, news, Nat.zero_le _, rfl, Nat.le_refl _, hst₁, F.keeps old, hns₁, fun p hp => ?_, fun p hp => ?_, hJ0, rfl, rfl⟩
    · rintro k s' ⟨i, ys, m', news', hi, rfl, hyl, hst', F', hn', N', off', hJ, hg', ho'⟩
      by_cases hlt : i < n
      · refine wpAny_mono (Wstep i C m' s' (fun s₂ => wpAny (model prog w) A (forIn ifs true fun c r => if r = true then do let ok ← isTrue c (compEnvC scope cl C env) (eval c (compEnvC scope cl C env)); pure (ForInStep.yield ok) else pure (ForInStep.yield r)) (fun ok s₃ =>
            if ok = true then wpAny (model prog w) A (eval elt (compEnvC scope cl C env)) (fun x s₄ =>
              wpAny (model prog w) A (call (.builtin "list.append") [.ref D, x]) (fun _ s₅ => ∃ m_1, m_1 < n + 1 - i ∧ ∃ i ys m' news', i ≤ n ∧ m_1 = n + 1 - i ∧ ys.length ≤ i ∧ St i s₅.heap ∧ Fr h₀ L s₅.heap m ∧ s₅.heap.Ns C m' ∧ News h₀ L s₅.heap ((D, lst ys) :: news') ∧ (∀ p ∈ news', p.1 ∉ (C :: D :: wr)) ∧ J i ys news' ∧ s₅.gens = s.gens ∧ s₅.os = s.os) (fun _ _ => False) s₄) (fun _ _ => False) s₃
            else ∃ m_1, m_1 < n + 1 - i ∧ ∃ i ys m' news', i ≤ n ∧ m_1 = n + 1 - i ∧ ys.length ≤ i ∧ St i s₃.heap ∧ Fr h₀ L s₃.heap m ∧ s₃.heap.Ns C m' ∧ News h₀ L s₃.heap ((D, lst ys) :: news') ∧ (∀ p ∈ news', p.1 ∉ (C :: D :: wr)) ∧ J i ys news' ∧ s₃.gens = s.gens ∧ s₃.os = s.os) (fun _ _ => False) s₂) hlt hst' hn' hCf fun s₃ m₂ hk₃ hg₃ ho₃ hst₃ hn₃ hB => ?_) (fun r s₁ hr => by cases r with
              | none => exact hr.elim
              | some v => exact hr) fun _ _ e => e
        have keep3 : ∀ b o, b ≠ C → b ∉ wr → s'.heap.get? b = some o → s₃.heap.get? b = some o := hk₃
        obtain ⟨oC, heC, hoC⟩ := ns_obj hn₃
        have F₃ : Fr h₀ L s₃.heap m := ⟨F'.ns.at' fun o e => keep3 L o (Ne.symm hCL) hLI e, fun b o e => keep3 b o (fun q => by rw [q, hC₀] at e; cases e) (fun q => by rw [hI₀ b q] at e; cases e) (F'.keep b o e), F'.above⟩
        have Nown : News h₀ L s₃.heap (ownOf h₀ fp s₃.heap) := news_ownOf hLf
        have N₃ : News h₀ L s₃.heap ((C, oC) :: (D, lst ys) :: (news' ++ ownOf h₀ fp s₃.heap)) := fun p hp => by
          rcases List.mem_cons.mp hp with rfl | hp
          · exact ⟨heC, hCL, hC₀⟩
          · rcases List.mem_cons.mp hp with rfl | hp
            · exact ⟨keep3 _ _ (Nat.ne_of_lt hDltC) hDI (N' _ (.head _)).1, hDL, hD₀⟩
            · rcases List.mem_append.mp hp with hp | hp
              · have q := off' p hp
                simp only [List.mem_cons, not_or] at q
                exact ⟨keep3 _ _ q.1 q.2.2 (N' p (.tail _ hp)).1, (N' p (.tail _ hp)).2⟩
              · exact Nown p hp
        refine wpAny_mono (turn i ys news' s₃ C oC D m₂ (ownOf h₀ fp s₃.heap) hlt hJ hyl (hg₃.trans hg') (ho₃.trans ho') hoC hB ownOf_sub (fun b hb hn o e => mem_ownOf hb hn e) hst₃ off' ⟨Nat.le_of_lt hDltC, Nat.le_refl _, Nat.ne_of_gt hDltC⟩ F₃ N₃) (fun ok s₄ h₄ => ?_) fun _ _ e => e
        have stOf : ∀ (s₅ : Shared) news₂, Fr h₀ L s₅.heap m → News h₀ L s₅.heap ((C, oC) :: (D, lst ys) :: (news₂ ++ ownOf h₀ fp s₃.heap)) → St (i + 1) s₅.heap := fun s₅ news₂ F₅ N₅ => Wframe _ _ _ hst₃ fun b hb o e => by
          cases hn : h₀.get? b with
          | some o₀ =>
            have : o₀ = o := by have := F₃.keep b o₀ hn; rw [e] at this; exact (Option.some.inj this).symm
            exact this ▸ F₅.keep b o₀ hn
          | none => exact (N₅ _ (.tail _ (.tail _ (List.mem_append_right _ (mem_ownOf hb hn e))))).1
        cases ok with
        | false =>
          simp only [Bool.false_eq_true, if_false] at h₄ ⊢
          obtain ⟨g4, o4, news₂, F₄, N₄, off₄, J₄⟩ := h₄
          exact ⟨n + 1 - (i + 1), by omega, i + 1, ys, m₂, news₂, hlt, rfl, by omega, stOf s₄ news₂ F₄ N₄, F₄, hoC.ns (N₄ _ (.head _)).1, fun p hp => by
            rcases List.mem_cons.mp hp with rfl | hp
            · exact N₄ _ (.tail _ (.head _))
            · exact N₄ _ (.tail _ (.tail _ (List.mem_append_left _ hp))), off₄, J₄, g4, o4⟩
        | true =>
          simp only [if_true] at h₄ ⊢
          refine wpAny_mono h₄ (fun y s₅ h₅ => ?_) fun _ _ e => e
          obtain ⟨g4, o4, news₂, F₄, N₄, off₄, J₄⟩ := h₅
          have hst₅ := stOf s₅ news₂ F₄ N₄
          refine append_at (hsz := by show ys.toArray.size ≤ sizeLine; rw [List.size_toArray]; omega) (N₄ _ (.tail _ (.head _))).1 fun h₆ hs₆ hD₆ => ?_
          refine ⟨n + 1 - (i + 1), by omega, i + 1, ys ++ [y], m₂, news₂, hlt, rfl, by simp; omega, Wframe _ _ _ hst₅ fun b hb o e => hs₆.extBut b o (fun q => hDf (q ▸ hb)) e, F₄.change hs₆ hDL hD₀,
            (hoC.ns (N₄ _ (.head _)).1).sameBut hs₆ (Nat.ne_of_gt hDltC), fun p hp => ?_, off₄, J₄, g4, o4⟩
          rcases List.mem_cons.mp hp with rfl | hp
          · exact ⟨hD₆.trans (congrArg some (lst_snoc ys y)), hDL, hD₀⟩
          · have q := off₄ p hp
            simp only [List.mem_cons, not_or] at q
            have z := N₄ p (.tail _ (.tail _ (List.mem_append_left _ hp)))
            exact ⟨hs₆.extBut _ _ q.2.1 z.1, z.2⟩
      · obtain rfl : i = n := Nat.le_antisymm hi (Nat.not_lt.mp hlt)
        refine Wdone _ _ _ hst' fun h₂ tk₂ hk₂ => ?_
        have hk₂' : ∀ b o, b ∉ wr → s'.heap.get? b = some o → h₂.get? b = some o := fun b o hb e => hk₂ b o hb e
        refine hRR D C { s' with heap := h₂, toks := tk₂ } m' ys news' hJ hg' ho' ⟨F'.ns.at' fun o e => hk₂' L o hLI e, fun b o e => hk₂' b o (fun q => by rw [hI₀ b q] at e; cases e) (F'.keep b o e), F'.above⟩ (fun p hp => ?_) off' (hn'.at' fun o e => hk₂' _ o hCI e) hC₀ hCL (Nat.ne_of_gt hDltC) (Nat.le_refl _)
        rcases List.mem_cons.mp hp with rfl | hp
        · exact ⟨hk₂' _ _ hDI (N' _ (.head _)).1, hDL, hD₀⟩
        · have q := off' p hp
          simp only [List.mem_cons, not_or] at q
          exact ⟨hk₂' _ _ q.2.2 (N' p (.tail _ hp)).1, (N' p (.tail _ hp)).2⟩
    · rcases List.mem_cons.mp hp with rfl | hp
      · exact ⟨hacc, hDL, hD₀⟩
      · exact ⟨old _ _ (N p hp).1, (N p hp).2⟩
    · have := hNlt p hp
      simp only [List.mem_cons, not_or]
      exact ⟨Nat.ne_of_lt (Nat.lt_trans this hDltC), Nat.ne_of_lt this, hnI p hp⟩
  exact codeAny_compStart_list (loop _ rfl) (hself 0 _ _ _ hst₁ (loop _ rfl))
theorem CEnd.off {h₀ : Heap} {L : Addr} {m : PySem.Str → Option Value} {s : Shared} {C D : Addr} {oC : Obj} {ys : List Value} {own : List (Addr × Obj)} {off off' : List Addr} {J : List Value → List (Addr × Obj) → Prop} {ys' : List Value} {s' : Shared} (h : CEnd h₀ L m s C D oC ys own off J ys' s') (hs : ∀ b, b ∈ off' → b ∈ off) : CEnd h₀ L m s C D oC ys own off' J ys' s' := by
  obtain ⟨a, b, news₂, c, d, e, f⟩ := h
  exact ⟨a, b, news₂, c, d, fun p hp q => e p hp (hs _ q), f⟩
theorem off3 {I C D b : Addr} : b ∈ [I, C, D] ↔ b ∈ (C :: D :: [I]) := by
  simp only [List.mem_cons, List.not_mem_nil, or_false]
  constructor
  · rintro (h | h | h) <;> simp [h]
  · rintro (h | h | h) <;> simp [h]
/-- a comprehension over a walk: everything behind the iterator -/
theorem comp_core {target elt iter : PySem.Expr} {ifs : List PySem.Expr} {scope : Scope} {cl : List (PySem.Str × Addr)} {pos : Pos} {env : Env} {h₀ : Heap} {L I : Addr} {m : PySem.Str → Option Value} {news : List (Addr × Obj)}
    {fp : List Addr} {n : Nat} {P : Nat → Value → Prop} {St : Nat → Heap → Prop} {RR : Value → Addr → Result → Shared → Prop} {B : Value → (PySem.Str → Option Value) → Prop}
    (W : Wk prog w A I fp [I] n P St) (hself : ∀ i (s : Shared) (Q : Value → Shared → Prop) (E : Value → Shared → Prop), St i s.heap → Q (.ref I) s → wpAny (model prog w) A (pyIter (.ref I)) Q E s)
    (hsz : n ≤ sizeLine) (hcell : ∀ y ∈ scope.names, y.2 ≠ .cell) (hkind : scope.kind = .function)
    (hst : St 0 s.heap) (hfp : ∀ b ∈ fp, b < s.heap.objs.size) (hLf : L ∉ fp) (hI₀ : h₀.get? I = none)
    (F : Fr h₀ L s.heap m) (N : News h₀ L s.heap news) (hnI : ∀ p ∈ news, p.1 ≠ I)
    (J : Nat → List Value → List (Addr × Obj) → Prop) (hJ0 : J 0 [] news)
    (hbind : ∀ i v C m' (s₁ : Shared) (Q : Unit → Shared → Prop), P i v → St (i + 1) s₁.heap → s₁.heap.Ns C m' → C ∉ fp →
      (∀ s₂ m₂, (∀ b o, b ≠ C → b ≠ I → s₁.heap.get? b = some o → s₂.heap.get? b = some o) → s₂.gens = s₁.gens → s₂.os = s₁.os → St (i + 1) s₂.heap → s₂.heap.Ns C m₂ → B v m₂ → Q () s₂) →
      wpAny (model prog w) A (letOwnedTupleGo target (.ref I) v) (fun _ s₁' => wpAny (model prog w) A (assign target (compEnvC scope cl C env) v) Q (fun _ _ => False) s₁') (fun _ _ => False) s₁)
    (turn : ∀ i v ys news₁ s₂ C oC D m₂ own, i < n → P i v → J i ys news₁ → ys.length ≤ i → s₂.gens = s.gens → s₂.os = s.os → NsObj oC m₂ → B v m₂ → (∀ p ∈ own, p.1 ∈ fp) → (∀ b ∈ fp, h₀.get? b = none → ∀ o, s₂.heap.get? b = some o → (b, o) ∈ own) → St (i + 1) s₂.heap → (∀ p ∈ news₁, p.1 ∉ [I, C, D]) → (s.heap.objs.size ≤ C ∧ s.heap.objs.size ≤ D ∧ C ≠ D) →
      Fr h₀ L s₂.heap m → News h₀ L s₂.heap ((C, oC) :: (D, lst ys) :: (news₁ ++ own)) →
      wpAny (model prog w) A (forIn ifs true fun c r => if r = true then do let ok ← isTrue c (compEnvC scope cl C env) (eval c (compEnvC scope cl C env)); pure (ForInStep.yield ok) else pure (ForInStep.yield r)) (fun ok s₃ =>
        if ok = true then wpAny (model prog w) A (eval elt (compEnvC scope cl C env)) (fun y s₄ => CEnd h₀ L m s C D oC ys own [I, C, D] (J (i + 1)) (ys ++ [y]) s₄) (fun _ _ => False) s₃
        else CEnd h₀ L m s C D oC ys own [I, C, D] (J (i + 1)) ys s₃) (fun _ _ => False) s₂)
    (hRR : ∀ D C s' m' ys news', J n ys news' → s'.gens = s.gens → s'.os = s.os → Fr h₀ L s'.heap m → News h₀ L s'.heap ((D, lst ys) :: news') → (∀ p ∈ news', p.1 ∉ [I, C, D]) → s'.heap.Ns C m' → h₀.get? C = none → C ≠ L → C ≠ D → s.heap.objs.size ≤ D → RR (.ref D) C (.ok .next) s') :
    wpAny (model prog w) A (newList []) (fun acc s₃ => wpAny (model prog w) A (newFunctionEnv scope env.globals cl [] env.qual none .none (some env)) (fun cenv s₄ =>
      codeAny (model prog w) A (.compStart (.ListComp elt [⟨target, iter, ifs, 0⟩] scope pos) 0 (.ref I) acc { cenv with scope := relabel scope env }) (RR acc cenv.locals) s₄) E s₃) E s := by
  refine comp_gen (wr := [I]) (B := fun i m₂ => ∃ v, P i v ∧ B v m₂) W.sub W.frame W.done hself hsz hcell hkind hst hfp hLf (fun b hb => by rw [List.mem_singleton.mp hb]; exact hI₀) F N (fun p hp q => hnI p hp (List.mem_singleton.mp q)) J hJ0 ?_ ?_ ?_
  · intro i C m' s₁ Q hi hst₁ hn hCf hQ
    refine W.item i _ _ _ hi hst₁ fun v h' tk hP hst' hk => ?_
    have hCI : C ∉ [I] := fun q => hCf (W.sub _ q)
    refine hbind i v C m' _ _ hP hst' (hn.at' fun o e => hk _ o hCI e) hCf fun s₂ m₂ k1 k2 k3 k4 k5 k6 => ?_
    exact hQ s₂ m₂ (fun b o h1 h2 e => k1 b o h1 (fun q => h2 (List.mem_singleton.mpr q)) (hk b o h2 e)) k2 k3 k4 k5 ⟨v, hP, k6⟩
  · rintro i ys news₁ s₂ C oC D m₂ own hi hJ hyl hg ho hoC ⟨v, hP, hB⟩ hown hall hst₂ hoff hCD F₂ N₂
    refine wpAny_mono (turn i v ys news₁ s₂ C oC D m₂ own hi hP hJ hyl hg ho hoC hB hown hall hst₂ (fun p hp q => hoff p hp (off3.mp q)) hCD F₂ N₂) (fun ok s₃ q => ?_) fun _ _ e => e
    cases ok with
    | true =>
      simp only [if_true] at q ⊢
      exact wpAny_mono q (fun y s₄ r => r.off fun b hb => off3.mpr hb) fun _ _ e => e
    | false =>
      simp only [Bool.false_eq_true, if_false] at q ⊢
      exact q.off fun b hb => off3.mpr hb
  · intro D C s' m' ys news' hJ hg ho F' N' off
    exact hRR D C s' m' ys news' hJ hg ho F' N' (fun p hp q => off p hp (off3.mp q))
end
end
-- part M2
section
open LCg
section
variable {prog : Program} {w : World} {A : Around} {E : Value → Shared → Prop} {s : Shared}
theorem bind_name {scope : Scope} {cl : List (PySem.Str × Addr)} {env : Env} {x : PySem.Str} {px : Pos} {fp : List Addr} {I : Addr} {n : Nat} {P : Nat → Value → Prop} {St : Nat → Heap → Prop}
    (W : Wk prog w A I fp [I] n P St) (hkind : scope.kind = .function) (hx : scope.names.lookup x = some .local) :
    ∀ i v C m' (s₁ : Shared) (Q : Unit → Shared → Prop), P i v → St (i + 1) s₁.heap → s₁.heap.Ns C m' → C ∉ fp →
      (∀ s₂ m₂, (∀ b o, b ≠ C → b ≠ I → s₁.heap.get? b = some o → s₂.heap.get? b = some o) → s₂.gens = s₁.gens → s₂.os = s₁.os → St (i + 1) s₂.heap → s₂.heap.Ns C m₂ → m₂ x = some v → Q () s₂) →
      wpAny (model prog w) A (letOwnedTupleGo (.Name x px) (.ref I) v) (fun _ s₁' => wpAny (model prog w) A (assign (.Name x px) (compEnvC scope cl C env) v) Q (fun _ _ => False) s₁') (fun _ _ => False) s₁ := by
  intro i v C m' s₁ Q hP hst hn hCf hQ
  refine wpAny_pure ?_
  refine wpAny_assign_Name (wpAny_storeName_local (lookup_relabel_local hx) hn (fun h₂ hn₂ hs₂ => ?_) (by simp [compEnvC, relabel, hkind]))
  exact hQ _ _ (fun b o h1 _ e => hs₂.extBut b o h1 e) rfl rfl (W.frame _ _ _ hst fun b hb o e => hs₂.extBut b o (fun q => hCf (by have q' : b = C := q; rw [← q']; exact hb)) e) hn₂ (by simp)
/-- a block's end, the list handed on -/
theorem done_eval {h₀ : Heap} {L I : Addr} {m : PySem.Str → Option Value} {Q : Value → Shared → Prop} {sz : Nat} {Jn : List Value → List (Addr × Obj) → Prop}
    (h : ∀ D s' ys news', Jn ys news' → s'.gens = s.gens → s'.os = s.os → Fr h₀ L s'.heap m → News h₀ L s'.heap ((D, lst ys) :: news') → (∀ p ∈ news', p.1 ≠ D) → sz ≤ D → Q (.ref D) s') :
    ∀ D C s' m' ys news', Jn ys news' → s'.gens = s.gens → s'.os = s.os → Fr h₀ L s'.heap m → News h₀ L s'.heap ((D, lst ys) :: news') → (∀ p ∈ news', p.1 ∉ [I, C, D]) → s'.heap.Ns C m' → h₀.get? C = none → C ≠ L → C ≠ D → sz ≤ D → compPost (model prog w) A E none Q (.ref D) C (.ok .next) s' := by
  intro D C s' m' ys news' hJ hg ho F N off hn hC₀ hCL hCD hD
  refine ⟨m', hn, fun h' hs => h D _ ys news' hJ hg ho (F.change hs hCL hC₀) (fun p hp => ?_) (fun p hp => ?_) hD⟩
  · refine ⟨hs.extBut _ _ ?_ (N p hp).1, (N p hp).2⟩
    rcases List.mem_cons.mp hp with rfl | hp
    · exact Ne.symm hCD
    · have q := off p hp; simp only [List.mem_cons, List.not_mem_nil, or_false, not_or] at q; exact q.2.1
  · have q := off p hp; simp only [List.mem_cons, List.not_mem_nil, or_false, not_or] at q; exact q.2.2
/-- a block's end, the list stored under a local name -/
theorem done_assign {h₀ : Heap} {I : Addr} {env : Env} {y : PySem.Str} {py : Pos} {m : PySem.Str → Option Value} {Q : Value → Shared → Prop} {sz : Nat} {Jn : List Value → List (Addr × Obj) → Prop}
    (hy : env.kindOf y = some .local) (hp : (env.scope.kind == .class || (env.scope.kind == .module && env.locals != env.globals)) = false)
    (h : ∀ D s' ys news', Jn ys news' → s'.gens = s.gens → s'.os = s.os → Fr h₀ env.locals s'.heap (fun z => if z = y then some (.ref D) else m z) → News h₀ env.locals s'.heap ((D, lst ys) :: news') → (∀ p ∈ news', p.1 ≠ D) → sz ≤ D → Q .none s') :
    ∀ D C s' m' ys news', Jn ys news' → s'.gens = s.gens → s'.os = s.os → Fr h₀ env.locals s'.heap m → News h₀ env.locals s'.heap ((D, lst ys) :: news') → (∀ p ∈ news', p.1 ∉ [I, C, D]) → s'.heap.Ns C m' → h₀.get? C = none → C ≠ env.locals → C ≠ D → sz ≤ D →
      compPost (model prog w) A E (some (assign (.Name y py) env)) Q (.ref D) C (.ok .next) s' := by
  intro D C s' m' ys news' hJ hg ho F N off hn hC₀ hCL hCD hD
  show wpAny _ A (assign (.Name y py) env (.ref D)) _ _ _
  refine wpAny_assign_Name (wpAny_storeName_local hy F.ns (fun h₂ hn₂ hs₂ => ?_) hp)
  have F₂ := F.set hn₂ hs₂
  refine ⟨m', hn.sameBut hs₂ hCL, fun h' hs => h D _ ys news' hJ hg ho (F₂.change hs hCL hC₀) (fun p hp => ?_) (fun p hp => ?_) hD⟩
  · refine ⟨hs.extBut _ _ ?_ (N.set hs₂ p hp).1, (N p hp).2⟩
    rcases List.mem_cons.mp hp with rfl | hp
    · exact Ne.symm hCD
    · have q := off p hp; simp only [List.mem_cons, List.not_mem_nil, or_false, not_or] at q; exact q.2.1
  · have q := off p hp; simp only [List.mem_cons, List.not_mem_nil, or_false, not_or] at q; exact q.2.2
theorem comp_eval {elt target iter : PySem.Expr} {ifs : List PySem.Expr} {scope : Scope} {cl : List (PySem.Str × Addr)} {pos : Pos} {env : Env} {Q : Value → Shared → Prop}
    (hclos : closureFor scope env = pure cl) (hkind : scope.kind = .function) (hnames : ∀ y ∈ scope.names, y.2 = .local → scope.names.lookup y.1 = some .local)
    (h : wpAny (model prog w) A (eval iter env) (fun xv s₁ => wpAny (model prog w) A (pyIter xv) (fun it s₂ => wpAny (model prog w) A (newList []) (fun acc s₃ => wpAny (model prog w) A (newFunctionEnv scope env.globals cl [] env.qual none .none (some env)) (fun cenv s₄ =>
      codeAny (model prog w) A (.compStart (.ListComp elt [⟨target, iter, ifs, 0⟩] scope pos) 0 it acc { cenv with scope := relabel scope env }) (compPost (model prog w) A E none Q acc cenv.locals) s₄) E s₃) E s₂) E s₁) E s)
    (hs : ∀ x, foldedSetIterable iter env x = pure x := by intro _; rfl) :
    wpAny (model prog w) A (eval (.ListComp elt [⟨target, iter, ifs, 0⟩] scope pos) env) Q E s := by
  rw [eval_ListComp]
  exact wpAny_comprehension_free (use := none) rfl hs hclos hkind hnames h
theorem comp_assign {elt target iter : PySem.Expr} {ifs : List PySem.Expr} {scope : Scope} {cl : List (PySem.Str × Addr)} {y : PySem.Str} {py pos spos : Pos} {env : Env} {Q : Flow → Shared → Prop}
    (hsw : swapsWith (.ListComp elt [⟨target, iter, ifs, 0⟩] scope pos) (some (.Name y py)) spos.line env = pure true)
    (hclos : closureFor scope env = pure cl) (hkind : scope.kind = .function) (hnames : ∀ y ∈ scope.names, y.2 = .local → scope.names.lookup y.1 = some .local)
    (h : wpAny (model prog w) A (eval iter env) (fun xv s₁ => wpAny (model prog w) A (pyIter xv) (fun it s₂ => wpAny (model prog w) A (newList []) (fun acc s₃ => wpAny (model prog w) A (newFunctionEnv scope env.globals cl [] env.qual none .none (some env)) (fun cenv s₄ =>
      codeAny (model prog w) A (.compStart (.ListComp elt [⟨target, iter, ifs, 0⟩] scope pos) 0 it acc { cenv with scope := relabel scope env }) (compPost (model prog w) A E (some (assign (.Name y py) env)) (fun _ s' => Q .next s') acc cenv.locals) s₄) E s₃) E s₂) E s₁) E s)
    (hs : ∀ x, foldedSetIterable iter env x = pure x := by intro _; rfl) :
    wpAny (model prog w) A (exec (.Assign [.Name y py] (.ListComp elt [⟨target, iter, ifs, 0⟩] scope pos) spos) env) Q E s := by
  rw [exec_Assign_Name_used _ _ _ _ hsw]
  refine wpAny_bind (wpAny_standAt (wpAny_bind ?_))
  show wpAny _ A (do let _ ← comprehension (.ListComp elt [⟨target, iter, ifs, 0⟩] scope pos) scope env _ (newList []) false (eval iter env) (some (assign (.Name y py) env))) _ _ s
  exact wpAny_bind (wpAny_mono (wpAny_comprehension_free (use := some (assign (.Name y py) env)) (Q := fun _ s' => Q .next s') rfl hs hclos hkind hnames h) (fun _ s' hq => wpAny_pure (wpAny_pure hq)) fun _ _ e => e)
/-- over a list, one name -/
theorem comp_list {elt iter : PySem.Expr} {x : PySem.Str} {px : Pos} {ifs : List PySem.Expr} {scope : Scope} {cl : List (PySem.Str × Addr)} {pos : Pos} {env : Env} {h₀ : Heap} {L a : Addr} {m : PySem.Str → Option Value} {news : List (Addr × Obj)} {items : Array Value} {RR : Value → Addr → Result → Shared → Prop}
    (hh : A.handled = none) (hl : s.heap.IsList a items) (haL : L ≠ a) (hsz : items.size ≤ sizeLine) (hcell : ∀ y ∈ scope.names, y.2 ≠ .cell) (hkind : scope.kind = .function) (hx : scope.names.lookup x = some .local)
    (F : Fr h₀ L s.heap m) (N : News h₀ L s.heap news) (J : Nat → List Value → List (Addr × Obj) → Prop) (hJ0 : J 0 [] news)
    (turn : ∀ i v ys news₁ s₂ C oC D m₂ own, items[i]? = some v → J i ys news₁ → ys.length ≤ i → s₂.gens = s.gens → s₂.os = s.os → NsObj oC m₂ → m₂ x = some v → (∀ p ∈ own, p.1 = s.heap.objs.size ∨ p.1 = a) → (∃ o, (s.heap.objs.size, o) ∈ own) → (∀ p ∈ news₁, p.1 ∉ [s.heap.objs.size, C, D]) → (s.heap.objs.size < C ∧ s.heap.objs.size < D ∧ C ≠ D) → s₂.heap.IsList a items →
      Fr h₀ L s₂.heap m → News h₀ L s₂.heap ((C, oC) :: (D, lst ys) :: (news₁ ++ own)) →
      wpAny (model prog w) A (forIn ifs true fun c r => if r = true then do let ok ← isTrue c (compEnvC scope cl C env) (eval c (compEnvC scope cl C env)); pure (ForInStep.yield ok) else pure (ForInStep.yield r)) (fun ok s₃ =>
        if ok = true then wpAny (model prog w) A (eval elt (compEnvC scope cl C env)) (fun y s₄ => CEnd h₀ L m s C D oC ys own [s.heap.objs.size, C, D] (J (i + 1)) (ys ++ [y]) s₄) (fun _ _ => False) s₃
        else CEnd h₀ L m s C D oC ys own [s.heap.objs.size, C, D] (J (i + 1)) ys s₃) (fun _ _ => False) s₂)
    (hRR : ∀ D C s' m' ys news', J items.size ys news' → s'.gens = s.gens → s'.os = s.os → Fr h₀ L s'.heap m → News h₀ L s'.heap ((D, lst ys) :: news') → (∀ p ∈ news', p.1 ∉ [s.heap.objs.size, C, D]) → s'.heap.Ns C m' → h₀.get? C = none → C ≠ L → C ≠ D → s.heap.objs.size + 1 ≤ D → RR (.ref D) C (.ok .next) s') :
    wpAny (model prog w) A (pyIter (.ref a)) (fun it s₂ => wpAny (model prog w) A (newList []) (fun acc s₃ => wpAny (model prog w) A (newFunctionEnv scope env.globals cl [] env.qual none .none (some env)) (fun cenv s₄ =>
      codeAny (model prog w) A (.compStart (.ListComp elt [⟨.Name x px, iter, ifs, 0⟩] scope pos) 0 it acc { cenv with scope := relabel scope env }) (RR acc cenv.locals) s₄) E s₃) E s₂) E s := by
  have halt : a < s.heap.objs.size := let ⟨_, e, _⟩ := hl; Heap.lt_size e
  have hI0 : h₀.get? s.heap.objs.size = none := by
    cases hq : h₀.get? s.heap.objs.size with
    | none => rfl
    | some o' => exact absurd (Heap.lt_size (F.keep _ _ hq)) (Nat.lt_irrefl _)
  have hpsz : ∀ o, (s.heap.push o).objs.size = s.heap.objs.size + 1 := fun o => Heap.size_push ..
  refine wpAny_pyIter_list hl ?_
  have W := Walks.list (prog := prog) (w := w) hh s.heap.objs.size a (Nat.ne_of_lt halt) items
  refine comp_core (s := { s with heap := s.heap.push { cls := .type "list_iterator", data := .fields #[.ref a, .int 0 0] } }) (Wk.of W) W.self hsz hcell hkind ⟨⟨_, Heap.get?_push_size _ rfl, rfl, rfl⟩, hl.push _⟩ ?_ ?_ hI0 (F.push _) (N.grown fun b o e => Heap.get?_push_of_some _ e) (fun p hp => Nat.ne_of_lt (Heap.lt_size (N p hp).1)) J hJ0 (bind_name (Wk.of W) hkind hx) ?_ ?_
  · intro b hb
    show b < (s.heap.push _).objs.size
    rw [hpsz]
    simp only [List.mem_cons, List.not_mem_nil, or_false] at hb
    rcases hb with rfl | rfl
    · exact Nat.lt_succ_self _
    · exact Nat.lt_succ_of_lt halt
  · intro hm
    simp only [List.mem_cons, List.not_mem_nil, or_false] at hm
    rcases hm with e | e
    · exact absurd F.ns.lt (Nat.not_lt.mpr (Nat.le_of_eq e.symm))
    · exact haL e
  · intro i v ys news₁ s₂ C oC D m₂ own hi hP hJ hyl hg ho hoC hB hown hall hst hoff hCD F₂ N₂
    have hCD' : s.heap.objs.size < C ∧ s.heap.objs.size < D ∧ C ≠ D := by
      have h1 := hCD.1; have h2 := hCD.2.1
      rw [hpsz] at h1 h2
      exact ⟨h1, h2, hCD.2.2⟩
    obtain ⟨oI, hoI, _⟩ := id hst.1
    exact turn i v ys news₁ s₂ C oC D m₂ own hP hJ hyl hg ho hoC hB (fun p hp => by simpa using hown p hp) ⟨oI, hall _ (by simp) hI0 _ hoI⟩ hoff hCD' hst.2 F₂ N₂
  · intro D C s' m' ys news' hJ hg ho F' N' off hn h1 h2 h3 h4
    rw [hpsz] at h4
    exact hRR D C s' m' ys news' hJ hg ho F' N' off hn h1 h2 h3 h4
end
end
-- part A1
section
open LCg
theorem enterC {w : World} {A : Around} {s : Shared} {K : Frag} {Q E : Value → Shared → Prop} {name qual : PySem.Str} {params : Arguments} {body : List Stmt} {scope : Scope} {dV kV doc pm cdv ct oc : Value} {an od : Option Addr} {osl : Array (Option Value)} {f : Addr} {vals : List Value} {binds : List (PySem.Str × Value)}
    (X : K.In s.heap) (hlim : s.heap.NoLimit)
    (ho : K.lookup f = some ⟨oc, od, .func (fnOf name qual params body scope dV kV doc pm an cdv ct), osl⟩) (hcd : codeIn K cdv qual = true) (hroom : A.depth < recursionLimit)
    (hbind : BindsTo s (fnOf name qual params body scope dV kV doc pm an cdv ct) ⟨vals, []⟩ binds) (hkind : (binds.all fun y => scope.names.lookup y.1 == some .local || scope.names.lookup y.1 == some .cell) = true)
    (hnd : ((cellsFrom 0 scope.names []).map (·.1)).Nodup)
    (hco : scope.isCoroutine = false) (hgen : scope.isGenerator = false) (hk : scope.kind = .function)
    (h : ∀ L h₁ tk cells, Fr s.heap L h₁ (bindL (envOfC qual scope L f cdv).kindOf binds fun _ => none) → News s.heap L h₁ cells →
      CellsAre (bindC (envOfC qual scope L f cdv).kindOf binds fun _ => none) (cellsFrom (L + 1) scope.names []) cells →
      wpAny (model PP w) (A.deeper (envOfC qual scope L f cdv)) (execs body (envOfC qual scope L f cdv))
        (fun fl s' => Q (match fl with | .ret v => v | _ => .none) s') (fun _ _ => False)
        { s with heap := h₁, toks := tk }) :
    wpAny (model PP w) A (call (.ref f) vals) Q E s := by
  refine wpAny_call ?_
  refine codeAny_call_function hroom (X _ _ ho) rfl hco hgen rfl (codeRec_of X hcd) (hbind _ _ _ _ ?_)
  refine wpAny_newFunctionEnv_cells hk (kindsX hkind _) fun env' he s' x => ?_
  subst he
  refine ⟨hlim.keeps x.toInCall.keep, codeAny_func ?_⟩
  obtain ⟨h₁, tk, rfl, _⟩ := x.done
  have hk₁ := x.toInCall.keep
  obtain ⟨cells, NC, Y⟩ := Cl.news (h₀ := s.heap) (Nat.le_refl _) fun n c hm => ⟨x.cell n c (lookup_of_mem_nodup (cellsFrom_names scope.names 0 (s.heap.objs.size + 1) [] [] rfl ▸ hnd) hm), x.above n c hm⟩
  exact wpAny_mono (h s.heap.objs.size h₁ tk cells ⟨x.toInCall.ns, hk₁, Nat.le_refl _⟩ NC Y) (fun _ _ q => q) (fun _ _ q => q.elim)
theorem fresh_of {h₀ h : Heap} {L : Addr} {m : PySem.Str → Option Value} (F : Fr h₀ L h m) : ∀ q, h.get? q = none → q ≠ L ∧ h₀.get? q = none := by
  intro q e
  obtain ⟨oL, _, _, hL, _⟩ := id F.ns
  refine ⟨fun z => ?_, ?_⟩
  · rw [z, hL] at e; cases e
  · cases z : h₀.get? q with
    | none => rfl
    | some o => rw [F.keep q o z] at e; cases e
theorem leN {a b : Nat} (h : a ≤ b) : a ≤ b := h
theorem news_but1 {h₀ h h' : Heap} {L d : Addr} {news pre post : List (Addr × Obj)} {o o' : Obj} (N : News h₀ L h news) (ho : h'.get? d = some o') (hk : ∀ b o, b ≠ d → h.get? b = some o → h'.get? b = some o)
    (e : news = pre ++ (d, o) :: post) (h1 : ∀ p ∈ pre, p.1 ≠ d) (h2 : ∀ p ∈ post, p.1 ≠ d) : News h₀ L h' (pre ++ (d, o') :: post) := by
  subst e
  intro p hp
  rcases List.mem_append.mp hp with q | q
  · exact ⟨hk _ _ (h1 p q) (N p (List.mem_append_left _ q)).1, (N p (List.mem_append_left _ q)).2⟩
  · rcases List.mem_cons.mp q with rfl | q
    · exact ⟨ho, (N (d, o) (List.mem_append_right _ (.head _))).2⟩
    · exact ⟨hk _ _ (h2 p q) (N p (List.mem_append_right _ (.tail _ q))).1, (N p (List.mem_append_right _ (.tail _ q))).2⟩
theorem but_fr2 {h₀ h h' : Heap} {L d : Addr} {m : PySem.Str → Option Value} (F : Fr h₀ L h m) (hdL : d ≠ L) (nd : h₀.get? d = none) (hk : ∀ b o, b ≠ d → h.get? b = some o → h'.get? b = some o) : Fr h₀ L h' m :=
  ⟨F.ns.at' fun o e => hk L o (Ne.symm hdL) e, fun b o e => hk b o (fun q => by rw [q, nd] at e; cases e) (F.keep b o e), F.above⟩
theorem answers_c {w : World} {mean mg mb} {A : Around} {s : Shared} {Q E : Value → Shared → Prop} {a b : Addr} {us vs : List Value} {ls xs : List PySem.Str}
    (hh : A.handled = none) (hdp : A.depth + 20 < recursionLimit) (hu : A.units + 300 < cLine)
    (X : (hd.heap_39 w.params).In s.heap) (T : Tp mean mg mb s.heap)
    (hla : s.heap.IsList a us.toArray) (hia : StrsAre us ls) (hna : ls.length ≤ 100) (hne0 : ls ≠ [])
    (hl : s.heap.IsList b vs.toArray) (hi : StrsAre vs xs) (hn : xs.length ≤ 100) (hll : ∀ x ∈ ls, x.length ≤ 1000) (hns : ∀ x ∈ xs, x ≠ Str.ofString "<string>")
    (h : ∀ l ws n s', Gs s s' → s'.heap.get? l = some (listOf ws.toArray n) → StrsAre ws (xs.map fun x => if ansOf ls x = 0 then Str.ofString "0" else Str.ofString "1") → s.heap.get? l = none → Q (.ref l) s') :
    wpAny (model PySem.Challenge.rw_ny0065_01.row.prog w) A (call (.ref 137) [.ref a, .ref b]) Q E s := by
  revert X; k_fill; intro X
  obtain ⟨_, dp, fr, gd, un⟩ := A
  dsimp only at hh hdp hu
  subst hh
  refine enterC X T.nolimit (f := 137) (binds := [(Str.ofString "listed", .ref a), (Str.ofString "names", .ref b)]) rfl (by k_is) (by dsimp only; omega) (BindsTo.of_eq rfl) rfl (by decide +kernel) rfl rfl rfl (fun L h₁ tk cells F N Y => ?_)
  k_cells Y
  try dsimp only
  try k_fold
  have hla1 := Fr.lst F hla
  have cellne : ∀ q, h₁.get? q = none → L + 1 ≠ q := fun q e z => by rw [← z, (N _ (.head _)).1] at e; cases e
  k_steps
  refine stop_elim ?_
  refine ign_c rfl (by dsimp only [Around.deeper]; omega) (by dsimp only [Around.deeper]; omega) (X.keeps F.keep) (T.keeps F.keep) hla1 hia (by omega) hne0 (fun x dx sd ld d s6 g6 R6 => ?_)
  have F6 := F.keeps g6.keep
  have bls : @LT.lt Nat _ (L + 1) h₁.objs.size := Heap.lt_size (N _ (.head _)).1
  obtain ⟨t1, t2, t3, odx⟩ := R6.odx
  obtain ⟨es, ep, tb, S, osd, HS, hS⟩ := R6.osd
  obtain ⟨kvs, hdo, hkl, hcache⟩ := R6.od
  obtain ⟨od, hod, hdict⟩ := Heap.dictOf_iff.mp hdo
  have lts := R6.lts
  have hge := R6.ge
  dsimp only at hge
  have nL := fresh_of F
  have N6 : News s.heap L s6.heap [(L + 1, _), (d, od), (ld, listOf #[] 0), (sd, setO es ep tb), (x, instObj 93 dx), (dx, rdO w.params sd ld d t1 t2 t3)] := fun p hp => by
    simp only [List.mem_cons, List.not_mem_nil, or_false] at hp
    rcases hp with rfl | rfl | rfl | rfl | rfl | rfl
    · exact ⟨g6.keep _ _ (N _ (.head _)).1, (N _ (.head _)).2⟩
    · exact ⟨hod, nL _ R6.nd⟩
    · exact ⟨R6.old, nL _ R6.nld⟩
    · exact ⟨osd, nL _ R6.nsd⟩
    · exact ⟨R6.ox, nL _ R6.nx⟩
    · exact ⟨odx, nL _ R6.ndx⟩
  k_steps
  refine stop_elim ?_
  rename Fr _ _ _ _ => F7
  rename News _ _ _ _ => N7
  rename (_ = Data.cell (some (Value.ref x))) => hcl
  rename Obj => oc
  refine comp_eval (by with_unfolding_all rfl) rfl (by decide) ?_
  have hl7 := Fr.lst F7 hl
  have hbL : L ≠ b := Nat.ne_of_gt (Nat.lt_of_lt_of_le (let ⟨_, e, _⟩ := hl; Heap.lt_size e) F7.above)
  have d7 : @LT.lt Nat _ d _ := Heap.lt_size (N7 _ (.tail _ (.head _))).1
  k_steps
  refine stop_elim ?_
  refine comp_list rfl hl7 hbL ?_ (by decide) rfl rfl F7 N7 (fun i ys news₁ => ∃ od kvs, news₁ = [(L + 1, oc), (d, od), (ld, listOf #[] 0), (sd, setO es ep tb), (x, instObj 93 dx), (dx, rdO w.params sd ld d t1 t2 t3)] ∧ od.IsDictOf (strKind PP w) kvs ∧ kvs.length ≤ i + 1 ∧ CacheOk ls (valueAt kvs) ∧ StrsAre ys ((xs.take i).map fun x => if ansOf ls x = 0 then Str.ofString "0" else Str.ofString "1")) ⟨od, kvs, rfl, hdict, hkl, hcache, .nil⟩ ?_ (done_eval ?_)
  · simp [hi.length, sizeLine_eq]; omega
  · rintro i v ys news₁ s₂ C oC D m₂ own hv ⟨od', kvs', rfl, hdict', hkl', hcache', hys⟩ hyl hg ho hoC hB hown hIown hoff hCD hlist F8 N8
    obtain ⟨name, tn, rfl, hxi⟩ := StrsAre.at' hi (by simpa using hv)
    have hil : i < xs.length := by rcases Nat.lt_or_ge i xs.length with q | q; exact q; rw [List.getElem?_eq_none q] at hxi; cases hxi
    simp only [List.cons_append, List.nil_append] at N8
    refine wpAny_tests_nil ?_
    simp only [if_true]
    dsimp only at hg ho hown hIown hoff hCD
    have hbs : @LT.lt Nat _ b s.heap.objs.size := let ⟨_, e, _⟩ := hl; Heap.lt_size e
    have hsL : @LE.le Nat _ s.heap.objs.size L := F8.above
    have hC1 : @LT.lt Nat _ _ C := hCD.1
    have hD1 : @LT.lt Nat _ _ D := hCD.2.1
    have ex := N8 _ (.tail _ (.tail _ (.tail _ (.tail _ (.tail _ (.tail _ (.head _)))))))
    have edx := N8 _ (.tail _ (.tail _ (.tail _ (.tail _ (.tail _ (.tail _ (.tail _ (.head _))))))))
    have esd := N8 _ (.tail _ (.tail _ (.tail _ (.tail _ (.tail _ (.head _))))))
    have eld := N8 _ (.tail _ (.tail _ (.tail _ (.tail _ (.head _)))))
    have ed := N8 _ (.tail _ (.tail _ (.tail _ (.head _))))
    have R8 : Rdr w s.heap s₂.heap x dx sd ld d ls (i + 1) := ⟨ex.1, ⟨t1, t2, t3, edx.1⟩, ⟨es, ep, tb, S, esd.1, HS, hS⟩, eld.1, ⟨kvs', Heap.dictOf_iff.mpr ⟨od', ed.1, hdict'⟩, hkl', hcache'⟩, ex.2.2, edx.2.2, esd.2.2, eld.2.2, ed.2.2, lts, R6.lo, leN (by omega)⟩
    have hnx : name ∈ xs := List.mem_of_getElem? hxi
    have hts := hns name hnx
    have keepY : Unit → StrsAre ys ((xs.take i).map fun x => if ansOf ls x = 0 then Str.ofString "0" else Str.ofString "1") := fun _ => hys
    k_steps
    refine stop_elim ?_
    refine names_c rfl (by dsimp only [Around.deeper]; omega) (by dsimp only [Around.deeper]; omega) X T (by exact F8.keep) (by exact R8) (by omega) hts hll (fun t9 s9 hk9 hg9 ho9 R9 => ?_)
    obtain ⟨kvs9, hdo9, hkl9, hc9⟩ := R9.od
    obtain ⟨od9, hod9, hdict9⟩ := Heap.dictOf_iff.mp hdo9
    dsimp only at hk9 hg9 ho9
    have F9 := but_fr2 F8 ed.2.1 ed.2.2 hk9
    have N9 := news_but1 N8 hod9 hk9 (pre := [(C, oC), (D, lst ys), _]) (post := (ld, listOf #[] 0) :: (sd, setO es ep tb) :: (x, instObj 93 dx) :: (dx, rdO w.params sd ld d t1 t2 t3) :: own) rfl ?_ ?_
    · simp only [List.cons_append, List.nil_append] at N9
      clear F8 N8 R8 ex edx esd eld
      have h01 : ansOf ls name = 0 ∨ ansOf ls name = 1 := by unfold ansOf; split <;> simp
      have off9 : ∀ p ∈ [(L + 1, oc), (d, od9), (ld, listOf #[] 0), (sd, setO es ep tb), (x, instObj 93 dx), (dx, rdO w.params sd ld d t1 t2 t3)], p.1 ∉ [_, C, D] := fun p hp => by
        simp only [List.mem_cons, List.not_mem_nil, or_false] at hp
        rcases hp with rfl | rfl | rfl | rfl | rfl | rfl
        · exact hoff _ (.head _)
        · exact hoff (d, od') (.tail _ (.head _))
        · exact hoff _ (.tail _ (.tail _ (.head _)))
        · exact hoff _ (.tail _ (.tail _ (.tail _ (.head _))))
        · exact hoff _ (.tail _ (.tail _ (.tail _ (.tail _ (.head _)))))
        · exact hoff _ (.tail _ (.tail _ (.tail _ (.tail _ (.tail _ (.head _))))))
      have hnx1 : (xs.take (i + 1)).map (fun x => if ansOf ls x = 0 then Str.ofString "0" else Str.ofString "1") = (xs.take i).map (fun x => if ansOf ls x = 0 then Str.ofString "0" else Str.ofString "1") ++ [if ansOf ls name = 0 then Str.ofString "0" else Str.ofString "1"] := by
        rw [List.take_add_one, hxi]; simp
      rcases h01 with h01 | h01
      · rw [h01]
        k_steps
        refine ⟨hg9.trans hg, ho9.trans ho, _, F9, N9, off9, od9, kvs9, rfl, hdict9, by omega, hc9, ?_⟩
        rw [hnx1, if_pos h01]
        exact StrsAre.app (keepY ()) (.cons _ _ .nil)
      · rw [h01]
        k_steps
        refine ⟨hg9.trans hg, ho9.trans ho, _, F9, N9, off9, od9, kvs9, rfl, hdict9, by omega, hc9, ?_⟩
        rw [hnx1, if_neg (by omega)]
        exact StrsAre.app (keepY ()) (.cons _ _ .nil)
    · intro p hp
      simp only [List.mem_cons, List.not_mem_nil, or_false] at hp
      rcases hp with rfl | rfl | rfl <;> exact neN (by dsimp only; omega)
    · intro p hp
      simp only [List.mem_cons] at hp
      rcases hp with rfl | rfl | rfl | rfl | hp
      · exact neN (by dsimp only; omega)
      · exact neN (by dsimp only; omega)
      · exact neN (by dsimp only; omega)
      · exact neN (by dsimp only; omega)
      · rcases hown p hp with e | e
        · rw [e]; exact neN (by omega)
        · rw [e]; exact neN (by omega)
  · rintro D s' ys news' ⟨od', kvs', rfl, _, _, _, hys⟩ hg ho F8 N8 hoff hD
    rw [show vs.toArray.size = xs.length by simp [hi.length], List.take_length] at hys
    dsimp only at hg ho
    refine h D ys ys.length s' ⟨F8.keep, hg.trans g6.gens, ho.trans g6.os⟩ (N8 _ (.head _)).1 hys (N8 _ (.head _)).2.2
end
-- part M4
section
open LCg
section
variable {prog : Program} {w : World} {A : Around} {E : Value → Shared → Prop} {s : Shared}
theorem step_pair {x y : PySem.Str} {px py tp : Pos} {tk : Nat} {scope : Scope} {cl : List (PySem.Str × Addr)} {env : Env} {fp wr : List Addr} {I : Addr} {n : Nat} {Pt : Nat → Array Value → Prop} {St : Nat → Heap → Prop} {Mid : Nat → Addr → Heap → Prop}
    (hh : A.handled = none) (W : WalksU prog w A I fp wr n Pt St Mid) (hP2 : ∀ i vals, Pt i vals → ∃ v₁ v₂, vals = #[v₁, v₂]) (hkind : scope.kind = .function) (hx : scope.names.lookup x = some .local) (hy : scope.names.lookup y = some .local) (hxy : x ≠ y) :
    ∀ i C m' (s₁ : Shared) (Q : Shared → Prop), i < n → St i s₁.heap → s₁.heap.Ns C m' → C ∉ fp →
      (∀ s₂ m₂, (∀ b o, b ≠ C → b ∉ wr → s₁.heap.get? b = some o → s₂.heap.get? b = some o) → s₂.gens = s₁.gens → s₂.os = s₁.os → St (i + 1) s₂.heap → s₂.heap.Ns C m₂ → (∃ v₁ v₂, Pt i #[v₁, v₂] ∧ m₂ x = some v₁ ∧ m₂ y = some v₂) → Q s₂) →
      wpAny (model prog w) A (pyNext (.ref I)) (fun r s₁ => match r with
        | none => False
        | some v => wpAny (model prog w) A (letOwnedTupleGo (.Tuple [.Name x px, .Name y py] tk tp) (.ref I) v) (fun _ s₁' => wpAny (model prog w) A (assign (.Tuple [.Name x px, .Name y py] tk tp) (compEnvC scope cl C env) v) (fun _ s₂ => Q s₂) (fun _ _ => False) s₁') (fun _ _ => False) s₁) (fun _ _ => False) s₁ := by
  intro i C m' s₁ Q hi hst hn hCf hQ
  have hCw : C ∉ wr := fun q => hCf (W.sub _ q)
  refine W.item i s₁ _ _ hi hst fun T vals h₁ tk₁ hP hT hM hk₁ => ?_
  obtain ⟨v₁, v₂, rfl⟩ := hP2 i vals hP
  refine W.go _ _ _ i T _ _ _ hM fun h₂ hst₂ hk₂ => ?_
  obtain ⟨oT, hoT, hcT, nT, hdT⟩ := hT
  have ht : IsTup h₂ T #[v₁, v₂] := ⟨oT, hk₂ _ _ (W.apart _ _ _ hM) hoT, hcT, nT, hdT⟩
  refine assign_Tuple_tuple hh ht rfl rfl fun h₅ he => ?_
  have he' : ∀ b o, h₂.get? b = some o → h₅.get? b = some o := fun b o e => he b o (Nat.ne_of_lt (Heap.lt_size e)) e
  have old : ∀ b o, b ∉ wr → s₁.heap.get? b = some o → h₅.get? b = some o := fun b o hb e => he' _ _ (hk₂ b o hb (hk₁ b o hb e))
  refine assignInOrder_cons (wpAny_assign_Name (wpAny_storeName_local (lookup_relabel_local hx) (hn.at' fun o e => old _ o hCw e) (fun h₆ hn₆ hs₆ => ?_) (by simp [compEnvC, relabel, hkind])))
  refine assignInOrder_cons (wpAny_assign_Name (wpAny_storeName_local (lookup_relabel_local hy) hn₆ (fun h₃ hn₃ hs₃ => ?_) (by simp [compEnvC, relabel, hkind])))
  refine assignInOrder_nil ?_
  refine hQ _ _ (fun b o h1 h2 e => hs₃.extBut b o h1 (hs₆.extBut b o h1 (old b o h2 e))) rfl rfl (W.frame _ _ _ hst₂ fun b hb o e => ?_) hn₃ ⟨v₁, v₂, hP, by simp [hxy], by simp⟩
  have hbC : b ≠ C := fun q => hCf (by rw [← q]; exact hb)
  exact hs₃.extBut b o hbC (hs₆.extBut b o hbC (he' b o e))
theorem done_eval2 {h₀ : Heap} {L : Addr} {wr : List Addr} {m : PySem.Str → Option Value} {Q : Value → Shared → Prop} {sz : Nat} {Jn : List Value → List (Addr × Obj) → Prop}
    (h : ∀ D s' ys news', Jn ys news' → s'.gens = s.gens → s'.os = s.os → Fr h₀ L s'.heap m → News h₀ L s'.heap ((D, lst ys) :: news') → (∀ p ∈ news', p.1 ≠ D) → sz ≤ D → Q (.ref D) s') :
    ∀ D C s' m' ys news', Jn ys news' → s'.gens = s.gens → s'.os = s.os → Fr h₀ L s'.heap m → News h₀ L s'.heap ((D, lst ys) :: news') → (∀ p ∈ news', p.1 ∉ (C :: D :: wr)) → s'.heap.Ns C m' → h₀.get? C = none → C ≠ L → C ≠ D → sz ≤ D → compPost (model prog w) A E none Q (.ref D) C (.ok .next) s' := by
  intro D C s' m' ys news' hJ hg ho F N off hn hC₀ hCL hCD hD
  exact done_eval (I := C) h D C s' m' ys news' hJ hg ho F N (fun p hp q => off p hp (by simp only [List.mem_cons, List.not_mem_nil, or_false] at q ⊢; rcases q with q | q | q <;> simp [q])) hn hC₀ hCL hCD hD
theorem done_assign2 {h₀ : Heap} {wr : List Addr} {env : Env} {y : PySem.Str} {py : Pos} {m : PySem.Str → Option Value} {Q : Value → Shared → Prop} {sz : Nat} {Jn : List Value → List (Addr × Obj) → Prop}
    (hy : env.kindOf y = some .local) (hp : (env.scope.kind == .class || (env.scope.kind == .module && env.locals != env.globals)) = false)
    (h : ∀ D s' ys news', Jn ys news' → s'.gens = s.gens → s'.os = s.os → Fr h₀ env.locals s'.heap (fun z => if z = y then some (.ref D) else m z) → News h₀ env.locals s'.heap ((D, lst ys) :: news') → (∀ p ∈ news', p.1 ≠ D) → sz ≤ D → Q .none s') :
    ∀ D C s' m' ys news', Jn ys news' → s'.gens = s.gens → s'.os = s.os → Fr h₀ env.locals s'.heap m → News h₀ env.locals s'.heap ((D, lst ys) :: news') → (∀ p ∈ news', p.1 ∉ (C :: D :: wr)) → s'.heap.Ns C m' → h₀.get? C = none → C ≠ env.locals → C ≠ D → sz ≤ D →
      compPost (model prog w) A E (some (assign (.Name y py) env)) Q (.ref D) C (.ok .next) s' := by
  intro D C s' m' ys news' hJ hg ho F N off hn hC₀ hCL hCD hD
  exact done_assign (I := C) hy hp h D C s' m' ys news' hJ hg ho F N (fun p hp q => off p hp (by simp only [List.mem_cons, List.not_mem_nil, or_false] at q ⊢; rcases q with q | q | q <;> simp [q])) hn hC₀ hCL hCD hD
/-- over zip of two lists, two names -/
theorem comp_zip {elt iter : PySem.Expr} {x y : PySem.Str} {px py tp : Pos} {tk : Nat} {ifs : List PySem.Expr} {scope : Scope} {cl : List (PySem.Str × Addr)} {pos : Pos} {env : Env} {h₀ : Heap} {L l1 l2 : Addr} {m : PySem.Str → Option Value} {news : List (Addr × Obj)} {xs ys : Array Value} {RR : Value → Addr → Result → Shared → Prop}
    (hh : A.handled = none) (hl1 : s.heap.IsList l1 xs) (hl2 : s.heap.IsList l2 ys) (hL1 : L ≠ l1) (hL2 : L ≠ l2) (hsz : xs.size ≤ sizeLine) (hsame : xs.size = ys.size) (hcell : ∀ y ∈ scope.names, y.2 ≠ .cell) (hkind : scope.kind = .function) (hx : scope.names.lookup x = some .local) (hy : scope.names.lookup y = some .local) (hxy : x ≠ y)
    (F : Fr h₀ L s.heap m) (N : News h₀ L s.heap news) (J : Nat → List Value → List (Addr × Obj) → Prop) (hJ0 : J 0 [] news)
    (turn : ∀ i v₁ v₂ zs news₁ s₂ C oC D m₂ own, xs[i]? = some v₁ → ys[i]? = some v₂ → J i zs news₁ → zs.length ≤ i → s₂.gens = s.gens → s₂.os = s.os → NsObj oC m₂ → m₂ x = some v₁ → m₂ y = some v₂ → (∀ p ∈ news₁, p.1 ∉ (C :: D :: [s.heap.objs.size + 4, s.heap.objs.size + 3, s.heap.objs.size, s.heap.objs.size + 1])) → (s.heap.objs.size + 4 < C ∧ s.heap.objs.size + 4 < D ∧ C ≠ D) → s₂.heap.IsList l1 xs → s₂.heap.IsList l2 ys →
      Fr h₀ L s₂.heap m → News h₀ L s₂.heap ((C, oC) :: (D, lst zs) :: (news₁ ++ own)) →
      wpAny (model prog w) A (forIn ifs true fun c r => if r = true then do let ok ← isTrue c (compEnvC scope cl C env) (eval c (compEnvC scope cl C env)); pure (ForInStep.yield ok) else pure (ForInStep.yield r)) (fun ok s₃ =>
        if ok = true then wpAny (model prog w) A (eval elt (compEnvC scope cl C env)) (fun y s₄ => CEnd h₀ L m s C D oC zs own (C :: D :: [s.heap.objs.size + 4, s.heap.objs.size + 3, s.heap.objs.size, s.heap.objs.size + 1]) (J (i + 1)) (zs ++ [y]) s₄) (fun _ _ => False) s₃
        else CEnd h₀ L m s C D oC zs own (C :: D :: [s.heap.objs.size + 4, s.heap.objs.size + 3, s.heap.objs.size, s.heap.objs.size + 1]) (J (i + 1)) zs s₃) (fun _ _ => False) s₂)
    (hRR : ∀ D C s' m' zs news', J xs.size zs news' → s'.gens = s.gens → s'.os = s.os → Fr h₀ L s'.heap m → News h₀ L s'.heap ((D, lst zs) :: news') → (∀ p ∈ news', p.1 ∉ (C :: D :: [s.heap.objs.size + 4, s.heap.objs.size + 3, s.heap.objs.size, s.heap.objs.size + 1])) → s'.heap.Ns C m' → h₀.get? C = none → C ≠ L → C ≠ D → s.heap.objs.size ≤ D → RR (.ref D) C (.ok .next) s') :
    wpAny (model prog w) A (call (.type "zip") [.ref l1, .ref l2]) (fun xv s₁ => wpAny (model prog w) A (pyIter xv) (fun it s₂ => wpAny (model prog w) A (newList []) (fun acc s₃ => wpAny (model prog w) A (newFunctionEnv scope env.globals cl [] env.qual none .none (some env)) (fun cenv s₄ =>
      codeAny (model prog w) A (.compStart (.ListComp elt [⟨.Tuple [.Name x px, .Name y py] tk tp, iter, ifs, 0⟩] scope pos) 0 it acc { cenv with scope := relabel scope env }) (RR acc cenv.locals) s₄) E s₃) E s₂) E s₁) E s := by
  have a1 : l1 < s.heap.objs.size := let ⟨_, e, _⟩ := hl1; Heap.lt_size e
  have a2 : l2 < s.heap.objs.size := let ⟨_, e, _⟩ := hl2; Heap.lt_size e
  have aL : L < s.heap.objs.size := F.ns.lt
  have fresh : ∀ b, @LE.le Nat _ s.heap.objs.size b → h₀.get? b = none := fun b hb => by
    cases hq : h₀.get? b with
    | none => rfl
    | some o' => exact absurd (Heap.lt_size (F.keep _ _ hq)) (Nat.not_lt.mpr hb)
  have nw : ∀ p ∈ news, @LT.lt Nat _ p.1 s.heap.objs.size := fun p hp => Heap.lt_size (N p hp).1
  refine call_zip_2 hl1 hl2 fun h₁ hz hTI hTO hi1 hi2 hsize hk => ?_
  refine wpAny_pyIter_zip hz ?_
  have a1' : @LT.lt Nat _ l1 s.heap.objs.size := a1
  have a2' : @LT.lt Nat _ l2 s.heap.objs.size := a2
  have aL' : @LT.lt Nat _ L s.heap.objs.size := aL
  have ap : ZipApart (s.heap.objs.size + 4) (s.heap.objs.size + 2) (s.heap.objs.size + 3) s.heap.objs.size (s.heap.objs.size + 1) l1 l2 := by
    constructor <;> exact neN (by omega)
  have W := (WalksT.zip2 (prog := prog) (w := w) hh _ _ _ _ _ _ _ ap xs ys).toU
  have hmin : min xs.size ys.size = xs.size := by rw [← hsame, Nat.min_self]
  rw [hmin] at W
  refine comp_gen (s := { s with heap := h₁ }) (wr := [s.heap.objs.size + 4, s.heap.objs.size + 3, s.heap.objs.size, s.heap.objs.size + 1]) W.sub W.frame W.done W.self hsz hcell hkind ⟨hz, hTI, ⟨_, _, hTO⟩, hi1, hi2, hl1.at fun o e => hk _ o e, hl2.at fun o e => hk _ o e⟩ ?_ ?_ ?_ (F.keeps hk) (N.grown hk) ?_ J hJ0
    (step_pair hh W (fun i vals ⟨a, b, _, _, e⟩ => ⟨a, b, e⟩) hkind hx hy hxy) ?_ ?_
  · intro b hb
    show b < h₁.objs.size
    rw [hsize]
    simp only [List.mem_cons, List.not_mem_nil, or_false] at hb
    rcases hb with rfl | rfl | rfl | rfl | rfl | rfl | rfl <;> exact ltN (by omega)
  · intro hm
    simp only [List.mem_cons, List.not_mem_nil, or_false] at hm
    rcases hm with e | e | e | e | e | e | e
    · exact absurd e (neN (by omega))
    · exact absurd e (neN (by omega))
    · exact absurd e (neN (by omega))
    · exact absurd e (neN (by omega))
    · exact absurd e (neN (by omega))
    · exact hL1 e
    · exact hL2 e
  · intro b hb
    simp only [List.mem_cons, List.not_mem_nil, or_false] at hb
    rcases hb with rfl | rfl | rfl | rfl <;> exact fresh _ (by omega)
  · intro p hp hb
    have := nw p hp
    simp only [List.mem_cons, List.not_mem_nil, or_false] at hb
    rcases hb with e | e | e | e <;> exact absurd e (neN (by omega))
  · rintro i zs news₁ s₂ C oC D m₂ own hi hJ hyl hg ho hoC ⟨v₁, v₂, ⟨w₁, w₂, hw₁, hw₂, e⟩, hmx, hmy⟩ hown hall hst hoff hCD F₂ N₂
    obtain ⟨rfl, rfl⟩ : v₁ = w₁ ∧ v₂ = w₂ := by simpa using e
    have hCD' : s.heap.objs.size + 4 < C ∧ s.heap.objs.size + 4 < D ∧ C ≠ D := by
      have h1 := hCD.1; have h2 := hCD.2.1
      change h₁.objs.size ≤ _ at h1 h2
      rw [hsize] at h1 h2
      exact ⟨Nat.lt_of_lt_of_le (by omega) h1, Nat.lt_of_lt_of_le (by omega) h2, hCD.2.2⟩
    exact turn i v₁ v₂ zs news₁ s₂ C oC D m₂ own hw₁ hw₂ hJ hyl hg ho hoC hmx hmy hoff hCD' hst.2.2.2.2.2.1 hst.2.2.2.2.2.2 F₂ N₂
  · intro D C s' m' ys news' hJ hg ho F' N' off hn h1 h2 h3 h4
    change h₁.objs.size ≤ _ at h4
    rw [hsize] at h4
    exact hRR D C s' m' ys news' hJ hg ho F' N' off hn h1 h2 h3 (Nat.le_trans (by omega) h4)
end
end
-- part M5
section
open LCg
theorem TupsAre.fns {tps : List (Addr × Obj)} {vs : List Value} {out : List (PySem.Str × Option PySem.Str)} (h : TupsAre tps vs out) :
    ∃ (Ts : Nat → Addr) (vals : Nat → Array Value), ∀ j, j < vs.length → vs[j]? = some (.ref (Ts j)) ∧ ∃ x u v2 o k, vals j = #[.str x u, v2] ∧ OptV v2 o ∧ out[j]? = some (x, o) ∧ (Ts j, ({ cls := .type "tuple", data := .seq #[.str x u, v2] k } : Obj)) ∈ tps := by
  induction h with
  | nil => exact ⟨fun _ => 0, fun _ => #[], fun j hj => by simp at hj⟩
  | @cons t x u v2 o k vs out hm ho _ ih =>
    obtain ⟨Ts, vals, H⟩ := ih
    refine ⟨fun j => match j with | 0 => t | j + 1 => Ts j, fun j => match j with | 0 => #[.str x u, v2] | j + 1 => vals j, fun j hj => ?_⟩
    cases j with
    | zero => exact ⟨rfl, x, u, v2, o, k, rfl, ho, rfl, hm⟩
    | succ j =>
      obtain ⟨a, b⟩ := H j (by simpa using hj)
      exact ⟨by simpa using a, by simpa using b⟩
section
variable {prog : Program} {w : World} {A : Around} {E : Value → Shared → Prop} {s : Shared}
/-- over a list of pairs, two names -/
theorem comp_tups {elt iter : PySem.Expr} {x y : PySem.Str} {px py tp : Pos} {tk : Nat} {ifs : List PySem.Expr} {scope : Scope} {cl : List (PySem.Str × Addr)} {pos : Pos} {env : Env} {h₀ : Heap} {L a : Addr} {m : PySem.Str → Option Value} {news tps : List (Addr × Obj)} {vs : List Value} {out : List (PySem.Str × Option PySem.Str)} {RR : Value → Addr → Result → Shared → Prop}
    (hh : A.handled = none) (hl : s.heap.IsList a vs.toArray) (ht : TupsAre tps vs out) (htp : ∀ p ∈ tps, s.heap.get? p.1 = some p.2 ∧ p.1 ≠ L) (haL : L ≠ a) (hsz : vs.length ≤ sizeLine) (hcell : ∀ y ∈ scope.names, y.2 ≠ .cell) (hkind : scope.kind = .function) (hx : scope.names.lookup x = some .local) (hy : scope.names.lookup y = some .local) (hxy : x ≠ y)
    (F : Fr h₀ L s.heap m) (N : News h₀ L s.heap news) (J : Nat → List Value → List (Addr × Obj) → Prop) (hJ0 : J 0 [] news)
    (turn : ∀ i z u v₂ o zs news₁ s₂ C oC D m₂ own, out[i]? = some (z, o) → OptV v₂ o → J i zs news₁ → zs.length ≤ i → s₂.gens = s.gens → s₂.os = s.os → NsObj oC m₂ → m₂ x = some (.str z u) → m₂ y = some v₂ → (∀ p ∈ news₁, p.1 ∉ (C :: D :: [s.heap.objs.size])) → (s.heap.objs.size < C ∧ s.heap.objs.size < D ∧ C ≠ D) →
      Fr h₀ L s₂.heap m → News h₀ L s₂.heap ((C, oC) :: (D, lst zs) :: (news₁ ++ own)) →
      wpAny (model prog w) A (forIn ifs true fun c r => if r = true then do let ok ← isTrue c (compEnvC scope cl C env) (eval c (compEnvC scope cl C env)); pure (ForInStep.yield ok) else pure (ForInStep.yield r)) (fun ok s₃ =>
        if ok = true then wpAny (model prog w) A (eval elt (compEnvC scope cl C env)) (fun y s₄ => CEnd h₀ L m s C D oC zs own (C :: D :: [s.heap.objs.size]) (J (i + 1)) (zs ++ [y]) s₄) (fun _ _ => False) s₃
        else CEnd h₀ L m s C D oC zs own (C :: D :: [s.heap.objs.size]) (J (i + 1)) zs s₃) (fun _ _ => False) s₂)
    (hRR : ∀ D C s' m' zs news', J out.length zs news' → s'.gens = s.gens → s'.os = s.os → Fr h₀ L s'.heap m → News h₀ L s'.heap ((D, lst zs) :: news') → (∀ p ∈ news', p.1 ∉ (C :: D :: [s.heap.objs.size])) → s'.heap.Ns C m' → h₀.get? C = none → C ≠ L → C ≠ D → s.heap.objs.size ≤ D → RR (.ref D) C (.ok .next) s') :
    wpAny (model prog w) A (pyIter (.ref a)) (fun it s₂ => wpAny (model prog w) A (newList []) (fun acc s₃ => wpAny (model prog w) A (newFunctionEnv scope env.globals cl [] env.qual none .none (some env)) (fun cenv s₄ =>
      codeAny (model prog w) A (.compStart (.ListComp elt [⟨.Tuple [.Name x px, .Name y py] tk tp, iter, ifs, 0⟩] scope pos) 0 it acc { cenv with scope := relabel scope env }) (RR acc cenv.locals) s₄) E s₃) E s₂) E s := by
  have halt : a < s.heap.objs.size := let ⟨_, e, _⟩ := hl; Heap.lt_size e
  have fresh : ∀ b, @LE.le Nat _ s.heap.objs.size b → h₀.get? b = none := fun b hb => by
    cases hq : h₀.get? b with
    | none => rfl
    | some o' => exact absurd (Heap.lt_size (F.keep _ _ hq)) (Nat.not_lt.mpr hb)
  have hpsz : ∀ o, (s.heap.push o).objs.size = s.heap.objs.size + 1 := fun o => Heap.size_push ..
  obtain ⟨Ts, vals, H⟩ := ht.fns
  have hvl : vs.toArray.size = vs.length := by simp
  have tlt : ∀ j, j < vs.length → Ts j < s.heap.objs.size ∧ Ts j ≠ L ∧ s.heap.IsTuple (Ts j) (vals j) := fun j hj => by
    obtain ⟨_, x, u, v2, o, k, e, _, _, hm⟩ := H j hj
    have := htp _ hm
    exact ⟨Heap.lt_size this.1, this.2, ⟨_, this.1, rfl, k, by rw [e]⟩⟩
  refine wpAny_pyIter_list hl ?_
  have W := WalksU.listOfTuples (prog := prog) (w := w) hh s.heap.objs.size a (Nat.ne_of_lt halt) vs.toArray Ts vals (fun j hj => by rw [List.getElem?_toArray]; exact (H j (by simpa using hj)).1) (fun j hj => Nat.ne_of_lt (tlt j (by simpa using hj)).1)
  rw [hvl] at W
  have hP2 : ∀ i vals', (i < vs.length ∧ vals' = vals i) → ∃ v₁ v₂, vals' = #[v₁, v₂] := fun i vals' e => by
    obtain ⟨_, x, u, v2, o, k, e2, _⟩ := H i e.1
    exact ⟨_, _, e.2.trans e2⟩
  refine comp_gen (s := { s with heap := s.heap.push { cls := .type "list_iterator", data := .fields #[.ref a, .int 0 0] } }) (wr := [s.heap.objs.size]) W.sub W.frame W.done W.self hsz hcell hkind ⟨⟨_, Heap.get?_push_size _ rfl, rfl, rfl⟩, hl.push _, fun k hk => (tlt k hk).2.2.at fun o e => Heap.get?_push_of_some _ e⟩ ?_ ?_ ?_ (F.push _) (N.grown fun b o e => Heap.get?_push_of_some _ e) ?_ J hJ0
    (B := fun i m₂ => ∃ v₁ v₂, (#[v₁, v₂] : Array Value) = vals i ∧ i < vs.length ∧ m₂ x = some v₁ ∧ m₂ y = some v₂) (fun i C m' s₁ Q hi hst hn hCf hQ => step_pair hh (W.bound) hP2 hkind hx hy hxy i C m' s₁ Q hi hst hn hCf (fun s₂ m₂ k1 k2 k3 k4 k5 ⟨v₁, v₂, e, k6, k7⟩ => hQ s₂ m₂ k1 k2 k3 k4 k5 ⟨v₁, v₂, e.2, hi, k6, k7⟩)) ?_ ?_
  · intro b hb
    show b < (s.heap.push _).objs.size
    rw [hpsz]
    simp only [List.mem_cons, List.mem_map, List.mem_range] at hb
    rcases hb with rfl | rfl | ⟨j, hj, rfl⟩
    · exact Nat.lt_succ_self _
    · exact Nat.lt_succ_of_lt halt
    · exact Nat.lt_succ_of_lt (tlt j hj).1
  · intro hm
    simp only [List.mem_cons, List.mem_map, List.mem_range] at hm
    rcases hm with e | e | ⟨j, hj, e⟩
    · exact absurd F.ns.lt (Nat.not_lt.mpr (Nat.le_of_eq e.symm))
    · exact haL e
    · exact (tlt j hj).2.1 e
  · intro b hb
    rw [List.mem_singleton] at hb
    subst hb
    exact fresh _ (Nat.le_refl _)
  · intro p hp hb
    rw [List.mem_singleton] at hb
    exact Nat.ne_of_lt (Heap.lt_size (N p hp).1) hb
  · rintro i zs news₁ s₂ C oC D m₂ own hi hJ hyl hg ho hoC ⟨v₁, v₂, e, _, hmx, hmy⟩ hown hall hst hoff hCD F₂ N₂
    obtain ⟨_, z, u, v2, o, k, e2, hov, hout, _⟩ := H i hi
    rw [e2] at e
    obtain ⟨rfl, rfl⟩ : v₁ = .str z u ∧ v₂ = v2 := by simpa using e
    have hCD' : s.heap.objs.size < C ∧ s.heap.objs.size < D ∧ C ≠ D := by
      have h1 := hCD.1; have h2 := hCD.2.1
      rw [hpsz] at h1 h2
      exact ⟨h1, h2, hCD.2.2⟩
    exact turn i z u v₂ o zs news₁ s₂ C oC D m₂ own hout hov hJ hyl hg ho hoC hmx hmy hoff hCD' F₂ N₂
  · intro D C s' m' ys news' hJ hg ho F' N' off hn h1 h2 h3 h4
    rw [hpsz] at h4
    rw [ht.length] at hJ
    exact hRR D C s' m' ys news' hJ hg ho F' N' off hn h1 h2 h3 (Nat.le_of_succ_le h4)
end
end
-- part Z1
section
theorem top_of {s₁ s' : Shared} {cl mean} {ns : List Int} (hg : s₁.gens = #[]) (g : Gs s₁ s') : GoodWG PySem.Challenge.rw_ny0065_01.row.claim cl mean [ofPy (PyData.list (ns.map PyData.int))] s₁ (Except.ok (Flow.ret (.bool true))) s' := by
  refine GoodW.toG ⟨.inl ⟨_, .bool true, [], rfl, fun cls => ?_, ?_, ?_, ?_⟩, g.keep, g.os, g.gens.trans hg⟩
  · rfl
  · exact .bool true
  · wrow_post
  · intro _; exact ⟨.nil, fun _ h => nomatch h⟩
theorem holds_of (LC : ∀ {w : World} {mean mg mb} {A : Around} {s : Shared} {Q E : Value → Shared → Prop} {a : Addr} {vs : List Value} {ns : List Int},
    A.handled = none → A.depth + 40 < recursionLimit → A.units + 600 < cLine → (hd.heap_39 w.params).In s.heap → Tp mean mg mb s.heap → s.heap.IsList a vs.toArray → IntsAre vs ns → ns.length ≤ 63 → (∀ s', Gs s s' → Q (.bool true) s') →
    wpAny (model PySem.Challenge.rw_ny0065_01.row.prog w) A (call (.ref 142) [.ref a]) Q E s) : PySem.Challenge.rw_ny0065_01.Holds := hd (by
  k_fill
  intro w s₀ s₁ mg mb G Y fa o pm cd doc dV kV ho hd hcd hD hmg hg args vals as hpre hlay hrd hwl hlo
  have KX := kIn_of Y
  refine Ground.open G ?_
  intro T B D TE TW
  try (refine guard_noD D (by decide +kernel) ?_; clear D)
  have e1 := mg_of (n := PySem.Str.ofString "law") (v := .ref 142) KX T.g (by kernel_rfl)
  have e2 : fa = 142 := by
    have h1 : mg (PySem.Str.ofString "law") = some (.ref fa) := hmg
    rw [e1] at h1
    injection h1 with h1
    injection h1 with h1
    exact h1.symm
  clear hmg e1
  subst e2
  wrow_args hpre hlay hrd hwl hlo
  rename IntsAre _ _ => hI
  rename Heap.IsList _ _ _ => hL
  exact LC rfl (by decide) (by decide) KX T hL hI (by omega) (fun s' g => top_of hg g))
end
-- part Q1
section
/-- the codes that are asked -/
def Vd (c : Int) : Prop := 25 ≤ c ∧ c < 125 ∧ c % 5 ≠ 2 ∧ c / 5 % 5 ≠ 2 ∧ (c / 5 % 5 = 0 → c % 5 = 0)
def Vc : List Int := [25, 30, 31, 33, 34, 40, 41, 43, 44, 45, 46, 48, 49, 50, 55, 56, 58, 59, 65, 66, 68, 69, 70, 71, 73, 74, 75, 80, 81, 83, 84, 90, 91, 93, 94, 95, 96, 98, 99, 100, 105, 106, 108, 109, 115, 116, 118, 119, 120, 121, 123, 124]
theorem vc_of {c : Int} (h : Vd c) : c ∈ Vc := by
  obtain ⟨h1, h2, h3, h4, h5⟩ := h
  have hk : ∀ n : Fin 125, 25 ≤ (n.val : Int) → (n.val : Int) % 5 ≠ 2 → (n.val : Int) / 5 % 5 ≠ 2 → ((n.val : Int) / 5 % 5 = 0 → (n.val : Int) % 5 = 0) → (n.val : Int) ∈ Vc := by decide +kernel
  have e : ((⟨c.toNat, by omega⟩ : Fin 125).val : Int) = c := by dsimp only; omega
  have := hk ⟨c.toNat, by omega⟩
  rw [e] at this
  exact this h1 h3 h4 h5
theorem vc_V : ∀ c ∈ Vc, Vd c := by unfold Vd; decide +kernel
/-- c is d itself or one of its fronts -/
def hits (c d : Int) : Bool := decide (c = d ∨ c = d - d % 5 ∨ c = d - d % 25)
def lab' (k : Int) : List Nat := if k = 1 then [48] else if k = 3 then [97] else if k = 4 then [97, 48] else []
def nm (c : Int) : List Nat := (if c / 25 = 2 then [67] else lab' (c / 25)) ++ (if c / 5 % 5 = 0 then [] else 46 :: lab' (c / 5 % 5)) ++ (if c % 5 = 0 then [] else 46 :: lab' (c % 5))
theorem nm_ok : ∀ c ∈ Vc, (nameOf c).cps.toList = nm c := by decide +kernel
theorem nm_lt : ∀ c ∈ Vc, ∀ d ∈ Vc, decide (nm c < nm d) = decide (c < d) := by decide +kernel
theorem nm_hits : ∀ c ∈ Vc, ∀ d ∈ Vc, (nm c == nm d || (nm c ++ [46]).isPrefixOf (nm d)) = hits c d := by decide +kernel
theorem hits_front : ∀ c ∈ Vc, ∀ d ∈ Vc, hits c d = true → hits (c - c % 25) d = true ∧ hits (c - c % 5) d = true := by decide +kernel
theorem str_eq {a b : PySem.Str} : (a == b) = (a.cps.toList == b.cps.toList) := by
  obtain ⟨a⟩ := a; obtain ⟨b⟩ := b
  by_cases h : a = b
  · subst h; simp
  · have h1 : (⟨a⟩ : PySem.Str) ≠ ⟨b⟩ := fun e => h (by simpa using e)
    have h2 : a.toList ≠ b.toList := fun e => h (Array.toList_inj.mp e)
    rw [beq_eq_false_iff_ne.mpr h1, beq_eq_false_iff_ne.mpr h2]
theorem starts_eq (x y : PySem.Str) : Txt.startswith x y = y.cps.toList.isPrefixOf x.cps.toList := by
  rw [Bool.eq_iff_iff, List.isPrefixOf_iff_prefix]
  unfold Txt.startswith Builtin.Str.subAt Str.length
  simp only [Nat.zero_add, Bool.and_eq_true, decide_eq_true_eq, beq_iff_eq]
  constructor
  · rintro ⟨_, e⟩
    have := congrArg Array.toList e
    rw [Array.toList_extract, List.extract_eq_take_drop] at this
    simp at this
    rw [← this]; exact List.take_prefix _ _
  · intro h
    have hl := h.length_le
    simp at hl
    refine ⟨hl, ?_⟩
    apply Array.toList_inj.mp
    rw [Array.toList_extract, List.extract_eq_take_drop]
    simp
    have := List.prefix_iff_eq_take.mp h
    simpa using this.symm
theorem dot_cps : (Str.ofString ".").cps.toList = [46] := by decide +kernel
theorem app_cps (a b : PySem.Str) : (a ++ b).cps.toList = a.cps.toList ++ b.cps.toList := by
  show (a.cps ++ b.cps).toList = _
  simp
theorem ans_hits {c d : Int} (hc : Vd c) (hd : Vd d) : (nameOf c == nameOf d || Txt.startswith (nameOf d) (nameOf c ++ Str.ofString ".")) = hits c d := by
  rw [str_eq, starts_eq, app_cps, dot_cps, nm_ok _ (vc_of hc), nm_ok _ (vc_of hd)]
  exact nm_hits _ (vc_of hc) _ (vc_of hd)
theorem strLt_names {c d : Int} (hc : Vd c) (hd : Vd d) : strLt (nameOf c) (nameOf d) = decide (c < d) := by
  unfold strLt
  have := nm_lt _ (vc_of hc) _ (vc_of hd)
  rw [← nm_ok _ (vc_of hc), ← nm_ok _ (vc_of hd)] at this
  exact this
theorem coll_names {c d : Int} (hc : Vd c) (hd : Vd d) : (collOf (nameOf c) (nameOf d) < 0 ↔ c < d) ∧ (collOf (nameOf c) (nameOf d) = 0 ↔ c = d) := by
  unfold collOf
  rw [strLt_names hc hd, strLt_names hd hc]
  by_cases h1 : c < d <;> by_cases h2 : d < c <;> simp [h1, h2] <;> omega
theorem ansOf_eq {L : List Int} {d : Int} (hL : ∀ c ∈ L, Vd c) (hd : Vd d) : ansOf (L.map nameOf) (nameOf d) = if ∃ c ∈ L, hits c d = true then 1 else 0 := by
  unfold ansOf
  have : ((L.map nameOf).any fun m => m == nameOf d || Txt.startswith (nameOf d) (m ++ Str.ofString ".")) = true ↔ ∃ c ∈ L, hits c d = true := by
    rw [List.any_eq_true]
    constructor
    · rintro ⟨x, hx, e⟩
      obtain ⟨c, hc, rfl⟩ := List.mem_map.mp hx
      exact ⟨c, hc, by rw [← ans_hits (hL c hc) hd]; exact e⟩
    · rintro ⟨c, hc, e⟩
      exact ⟨_, List.mem_map_of_mem hc, by rw [ans_hits (hL c hc) hd]; exact e⟩
  by_cases h : ∃ c ∈ L, hits c d = true
  · rw [if_pos h, if_pos (this.mpr h)]
  · rw [if_neg h, if_neg (fun q => h (this.mp q))]
/-- the row -/
theorem down_ok {R : List Int} {c : Int} (hR : ∀ x ∈ R, Vd x) (hc : Vd c) (hs : R.Pairwise (· < ·)) : ∀ k, k ≤ R.length → (∀ x ∈ R.drop k, c < x) →
    (∀ x ∈ R.drop (downTo (R.map nameOf) (nameOf c) k), c < x) ∧ (downTo (R.map nameOf) (nameOf c) k = 0 ∨ R.getD (downTo (R.map nameOf) (nameOf c) k - 1) 0 ≤ c)
  | 0, _, h => by simp only [downTo]; exact ⟨h, .inl trivial⟩
  | k + 1, hk, h => by
    have hg : (R.map nameOf).getD k Str.empty = nameOf (R.getD k 0) := by
      simp [List.getD, show k < R.length by omega]
    have hm : R.getD k 0 ∈ R := by
      simp [List.getD, show k < R.length by omega]
    have hcl := coll_names hc (hR _ hm)
    simp only [downTo, hg]
    split
    · rename_i hlt
      refine down_ok hR hc hs k (by omega) ?_
      intro x hx
      rw [List.drop_eq_getElem_cons (by omega)] at hx
      rcases List.mem_cons.mp hx with rfl | hx
      · have := hcl.1.mp hlt
        simpa [List.getD, show k < R.length by omega] using this
      · exact h x hx
    · rename_i hlt
      refine ⟨h, .inr ?_⟩
      have : ¬ c < R.getD k 0 := fun q => hlt (hcl.1.mpr q)
      simp only [Nat.add_sub_cancel]
      omega
theorem ins_ok {R : List Int} {c : Int} (hR : ∀ x ∈ R, Vd x) (hc : Vd c) (hs : R.Pairwise (· < ·)) : ∃ R' : List Int, insRow (R.map nameOf) (nameOf c) = R'.map nameOf ∧ R'.Pairwise (· < ·) ∧ ∀ x, x ∈ R' ↔ x = c ∨ x ∈ R := by
  have hd := down_ok hR hc hs R.length (Nat.le_refl _) (by simp)
  have hle := downTo_le (R.map nameOf) (nameOf c) R.length
  unfold insRow
  rw [List.length_map]
  generalize downTo (R.map nameOf) (nameOf c) R.length = D at hd hle
  have hg : D ≠ 0 → (R.map nameOf).getD (D - 1) Str.empty = nameOf (R.getD (D - 1) 0) := fun h => by
    simp [List.getD, show D - 1 < R.length by omega]
  have hm : D ≠ 0 → R.getD (D - 1) 0 ∈ R := fun h => by
    simp [List.getD, show D - 1 < R.length by omega]
  have htake : D ≠ 0 → ∀ x ∈ R.take D, x ≤ R.getD (D - 1) 0 := fun h x hx => by
    obtain ⟨i, hi, rfl⟩ := List.mem_iff_getElem.mp hx
    simp only [List.length_take] at hi
    rw [List.getElem_take]
    by_cases hq : i = D - 1
    · subst hq; simp [List.getD, show D - 1 < R.length by omega]
    · have := List.pairwise_iff_getElem.mp hs i (D - 1) (by omega) (by omega) (by omega)
      simp [List.getD, show D - 1 < R.length by omega]; omega
  split
  · rename_i h
    have hlt : ∀ x ∈ R.take D, x < c := fun x hx => by
      by_cases h0 : D = 0
      · subst h0; simp at hx
      · have h1 := htake h0 x hx
        have h2 := hd.2.resolve_left h0
        have h3 := h.resolve_left h0
        rw [hg h0] at h3
        have h4 : c ≠ R.getD (D - 1) 0 := fun e => h3 ((coll_names hc (hR _ (hm h0))).2.mpr e)
        omega
    refine ⟨R.take D ++ c :: R.drop D, by simp [List.map_take, List.map_drop], ?_, fun x => ?_⟩
    · rw [List.pairwise_append]
      refine ⟨hs.sublist (List.take_sublist _ _), List.pairwise_cons.mpr ⟨hd.1, hs.sublist (List.drop_sublist _ _)⟩, fun a ha b hb => ?_⟩
      rcases List.mem_cons.mp hb with rfl | hb
      · exact hlt a ha
      · have := hlt a ha; have := hd.1 b hb; omega
    · have e : x ∈ R ↔ x ∈ R.take D ∨ x ∈ R.drop D := by
        rw [← List.mem_append, List.take_append_drop]
      rw [e, List.mem_append, List.mem_cons]
      constructor
      · rintro (h | h | h) <;> simp [h]
      · rintro (h | h | h) <;> simp [h]
  · rename_i h
    rw [not_or] at h
    have h0 := h.1
    have h1 : collOf (nameOf c) ((R.map nameOf).getD (D - 1) Str.empty) = 0 := Decidable.not_not.mp h.2
    rw [hg h0] at h1
    have h2 := (coll_names hc (hR _ (hm h0))).2.mp h1
    refine ⟨R, rfl, hs, fun x => ⟨.inr, ?_⟩⟩
    rintro (rfl | h)
    · rw [h2]; exact hm h0
    · exact h
theorem row_fold {cs : List Int} (hv : ∀ c ∈ cs, Vd c) : ∀ (R : List Int), (∀ x ∈ R, Vd x) → R.Pairwise (· < ·) → ∃ R' : List Int, (cs.map nameOf).foldl insRow (R.map nameOf) = R'.map nameOf ∧ R'.Pairwise (· < ·) ∧ ∀ x, x ∈ R' ↔ x ∈ cs ∨ x ∈ R := by
  induction cs with
  | nil => intro R _ hs; exact ⟨R, rfl, hs, fun x => by simp⟩
  | cons c cs ih =>
    intro R hR hs
    obtain ⟨R1, e1, s1, m1⟩ := ins_ok hR (hv c (.head _)) hs
    obtain ⟨R2, e2, s2, m2⟩ := ih (fun x hx => hv x (.tail _ hx)) R1 (fun x hx => ((m1 x).mp hx).elim (fun e => e ▸ hv c (.head _)) (hR x)) s1
    refine ⟨R2, by rw [List.map_cons, List.foldl_cons, e1, e2], s2, fun x => ?_⟩
    rw [m2, m1, List.mem_cons]
    constructor
    · rintro (h | h | h) <;> simp [h]
    · rintro ((h | h) | h) <;> simp [h]
theorem sorted_ext : ∀ {xs ys : List Int}, xs.Pairwise (· < ·) → ys.Pairwise (· < ·) → (∀ x, x ∈ xs ↔ x ∈ ys) → xs = ys
  | [], [], _, _, _ => rfl
  | [], y :: ys, _, _, h => by have := (h y).mpr (.head _); cases this
  | x :: xs, [], _, _, h => by have := (h x).mp (.head _); cases this
  | x :: xs, y :: ys, hx, hy, h => by
    have hx' := List.pairwise_cons.mp hx
    have hy' := List.pairwise_cons.mp hy
    have e : x = y := by
      rcases List.mem_cons.mp ((h x).mp (.head _)) with e | q
      · exact e
      · rcases List.mem_cons.mp ((h y).mpr (.head _)) with e | r
        · exact e.symm
        · have := hx'.1 y r; have := hy'.1 x q; omega
    subst e
    congr 1
    refine sorted_ext hx'.2 hy'.2 fun z => ?_
    constructor
    · intro q
      rcases List.mem_cons.mp ((h z).mp (.tail _ q)) with e | r
      · have := hx'.1 z q; omega
      · exact r
    · intro q
      rcases List.mem_cons.mp ((h z).mpr (.tail _ q)) with e | r
      · have := hy'.1 z q; omega
      · exact r
theorem row_ok {ds cs : List Int} (hv : ∀ c ∈ ds, Vd c) (hs : cs.Pairwise (· < ·)) (hm : ∀ x, x ∈ cs ↔ x ∈ ds) : rowOf (ds.map nameOf) = cs.map nameOf := by
  obtain ⟨R, e, s, m⟩ := row_fold hv [] (fun _ h => nomatch h) .nil
  unfold rowOf
  have e' : (ds.map nameOf).foldl insRow [] = R.map nameOf := e
  rw [e', sorted_ext s hs fun x => by rw [m, hm]; simp]
/-- the pile -/
theorem popR_names {st : List Int} {d : Int} (hst : ∀ x ∈ st, Vd x) (hd : Vd d) : popR (st.map nameOf) (nameOf d) = (st.dropWhile fun c => !hits c d).map nameOf := by
  induction st with
  | nil => rfl
  | cons t r ih =>
    have ha : ansOf [nameOf t] (nameOf d) = if ∃ c ∈ [t], hits c d = true then 1 else 0 := ansOf_eq (L := [t]) (fun c hc => hst c (by simp at hc; simp [hc])) hd
    simp only [List.mem_singleton, exists_eq_left] at ha
    simp only [List.map_cons, popR, ha]
    cases hq : hits t d with
    | true => simp [hq]
    | false => simp only [List.dropWhile_cons, hq, Bool.not_false, if_true]; simp; exact ih fun x hx => hst x (.tail _ hx)
def aboveO (c : Int) (cs : List Int) : Option PySem.Str := if aboveOf c cs > 0 then some (nameOf (aboveOf c cs)) else none
theorem hits_iff {c d : Int} : hits c d = true ↔ c = d ∨ c = d - d % 5 ∨ c = d - d % 25 := by simp [hits]
theorem head_drop {st : List Int} {d : Int} {cs : List Int} (hs : st.Pairwise (· > ·)) (hsub : ∀ x ∈ st, x ∈ cs ∧ x < d) (hall : ∀ x ∈ cs, x < d → hits x d = true → x ∈ st) (hd : Vd d) :
    ((st.dropWhile fun c => !hits c d).map nameOf).head? = aboveO d cs := by
  have hd25 := hd.1
  -- what is on top of the pile
  have key : ∀ st' : List Int, st'.Pairwise (· > ·) → (∀ x ∈ st', x ∈ cs ∧ x < d) → (∀ x ∈ cs, x < d → hits x d = true → x ∈ st') → ((st'.dropWhile fun c => !hits c d).map nameOf).head? = aboveO d cs := by
    intro st'
    induction st' with
    | nil =>
      intro _ _ hal
      simp only [List.dropWhile_nil, List.map_nil, List.head?_nil]
      unfold aboveO
      rw [if_neg]
      unfold aboveOf
      split
      · rename_i q
        exact absurd (hal _ q.2 (by omega) (hits_iff.mpr (.inr (.inl rfl)))) (by simp)
      · split
        · rename_i q
          exact absurd (hal _ q.2 (by omega) (hits_iff.mpr (.inr (.inr rfl)))) (by simp)
        · omega
    | cons t r ih =>
      intro hp hsb hal
      have hp' := List.pairwise_cons.mp hp
      cases hq : hits t d with
      | false =>
        simp only [List.dropWhile_cons, hq, Bool.not_false, if_true]
        refine ih hp'.2 (fun x hx => hsb x (.tail _ hx)) fun x hx h1 h2 => ?_
        rcases List.mem_cons.mp (hal x hx h1 h2) with rfl | h
        · rw [hq] at h2; cases h2
        · exact h
      | true =>
        simp only [List.dropWhile_cons, hq, Bool.not_true, Bool.false_eq_true, if_false, List.map_cons, List.head?_cons]
        have ht := hsb t (.head _)
        have hh := hits_iff.mp hq
        have e : aboveOf d cs = t := by
          unfold aboveOf
          split
          · rename_i q
            rcases List.mem_cons.mp (hal _ q.2 (by omega) (hits_iff.mpr (.inr (.inl rfl)))) with e | e
            · exact e
            · have := hp'.1 _ e; omega
          · rename_i q
            rw [if_pos]
            · rcases hh with h | h | h
              · omega
              · exact absurd ⟨by omega, by rw [← h]; exact ht.1⟩ q
              · exact h.symm
            · rcases hh with h | h | h
              · omega
              · exact absurd ⟨by omega, by rw [← h]; exact ht.1⟩ q
              · exact ⟨by omega, by rw [← h]; exact ht.1⟩
        unfold aboveO
        rw [e, if_pos (by rcases hh with h | h | h <;> omega)]
  exact key st hs hsub hall
theorem mem_drop {st : List Int} {d c : Int} (hm : c ∈ st) (hh : hits c d = true) : c ∈ st.dropWhile fun c => !hits c d := by
  induction st with
  | nil => cases hm
  | cons t r ih =>
    cases hq : hits t d with
    | true => simp only [List.dropWhile_cons, hq, Bool.not_true, Bool.false_eq_true, if_false]; exact hm
    | false =>
      simp only [List.dropWhile_cons, hq, Bool.not_false, if_true]
      rcases List.mem_cons.mp hm with rfl | h
      · rw [hh] at hq; cases hq
      · exact ih h
theorem piled_fold {cs : List Int} : ∀ (post pre st : List Int) (out : List (PySem.Str × Option PySem.Str)), cs = pre ++ post → cs.Pairwise (· < ·) → (∀ x ∈ cs, Vd x) → st.Pairwise (· > ·) → (∀ x ∈ st, x ∈ pre) → (∀ x ∈ pre, ∀ d ∈ post, hits x d = true → x ∈ st) →
    ((post.map nameOf).foldl pstep (st.map nameOf, out)).2 = out ++ post.map fun c => (nameOf c, aboveO c cs)
  | [], _, _, out, _, _, _, _, _, _ => by simp
  | d :: post, pre, st, out, e, hs, hv, hst, hsub, hall => by
    subst e
    have hv' : ∀ x ∈ st, Vd x := fun x hx => hv x (List.mem_append_left _ (hsub x hx))
    have hdV : Vd d := hv d (by simp)
    have hpw := List.pairwise_append.mp hs
    have hpd := List.pairwise_cons.mp hpw.2.1
    have hlt : ∀ x ∈ pre, x < d := fun x hx => hpw.2.2 x hx d (.head _)
    simp only [List.map_cons, List.foldl_cons, pstep]
    rw [popR_names hv' hdV, head_drop hst (fun x hx => ⟨List.mem_append_left _ (hsub x hx), hlt x (hsub x hx)⟩) ?_ hdV]
    · have hdw : (st.dropWhile fun c => !hits c d).Sublist st := List.dropWhile_sublist _
      have := piled_fold (cs := pre ++ d :: post) post (pre ++ [d]) (d :: st.dropWhile fun c => !hits c d) (out ++ [(nameOf d, aboveO d (pre ++ d :: post))]) (by simp) hs hv (List.pairwise_cons.mpr ⟨fun x hx => hlt x (hsub x (hdw.subset hx)), hst.sublist hdw⟩) ?_ ?_
      · rw [List.map_cons] at this
        rw [this]; simp
      · intro x hx
        rcases List.mem_cons.mp hx with rfl | hx
        · simp
        · exact List.mem_append_left _ (hsub x (hdw.subset hx))
      · intro x hx e he hh
        rcases List.mem_append.mp hx with hx | hx
        · refine List.mem_cons_of_mem _ (mem_drop (hall x hx e (.tail _ he) hh) ?_)
          have h1 := hlt x hx
          have h2 := hpd.1 e he
          have h3 := hits_iff.mp hh
          rw [hits_iff]
          omega
        · rw [List.mem_singleton.mp hx]; exact .head _
    · intro x hx hxd hh
      rcases List.mem_append.mp hx with h | h
      · exact hall x h d (.head _) hh
      · rcases List.mem_cons.mp h with rfl | h
        · omega
        · have := hpd.1 x h; omega
theorem piled_ok {cs : List Int} (hs : cs.Pairwise (· < ·)) (hv : ∀ x ∈ cs, Vd x) : piledOf (cs.map nameOf) = cs.map fun c => (nameOf c, aboveO c cs) := by
  have := piled_fold (cs := cs) cs [] [] [] rfl hs hv .nil (fun _ h => nomatch h) (fun _ h => nomatch h)
  unfold piledOf
  simpa using this
/-- the answers -/
def topsC (cs : List Int) : List Int := cs.filter fun c => decide (¬ aboveOf c cs > 0)
def ansC (d : Int) (cs : List Int) : PySem.Str := if d ∈ cs ∨ aboveOf d cs > 0 then Str.ofString "1" else Str.ofString "0"
theorem above_pos {d : Int} {cs : List Int} (hd : 25 ≤ d) : aboveOf d cs > 0 ↔ (d - d % 5 ≠ d ∧ d - d % 5 ∈ cs) ∨ (d - d % 25 ≠ d ∧ d - d % 25 ∈ cs) := by
  unfold aboveOf
  split
  · rename_i q; exact ⟨fun _ => .inl q, fun _ => by omega⟩
  · rename_i q
    split
    · rename_i r; exact ⟨fun _ => .inr r, fun _ => by omega⟩
    · rename_i r; exact ⟨fun h => by omega, fun h => (h.elim q r).elim⟩
theorem hits_all {d : Int} {cs : List Int} (hd : 25 ≤ d) : (∃ c ∈ cs, hits c d = true) ↔ d ∈ cs ∨ aboveOf d cs > 0 := by
  rw [above_pos hd]
  constructor
  · rintro ⟨c, hc, h⟩
    rcases hits_iff.mp h with rfl | rfl | rfl
    · exact .inl hc
    · by_cases q : d - d % 5 = d
      · rw [q] at hc; exact .inl hc
      · exact .inr (.inl ⟨q, hc⟩)
    · by_cases q : d - d % 25 = d
      · rw [q] at hc; exact .inl hc
      · exact .inr (.inr ⟨q, hc⟩)
  · rintro (h | h | h)
    · exact ⟨d, h, hits_iff.mpr (.inl rfl)⟩
    · exact ⟨_, h.2, hits_iff.mpr (.inr (.inl rfl))⟩
    · exact ⟨_, h.2, hits_iff.mpr (.inr (.inr rfl))⟩
theorem mem_tops {c : Int} {cs : List Int} : c ∈ topsC cs ↔ c ∈ cs ∧ ¬ aboveOf c cs > 0 := by
  unfold topsC; rw [List.mem_filter]; simp
theorem hits_tops {d : Int} {cs : List Int} (hv : ∀ x ∈ cs, Vd x) (hd : Vd d) : (∃ c ∈ topsC cs, hits c d = true) ↔ ∃ c ∈ cs, hits c d = true := by
  constructor
  · rintro ⟨c, hc, h⟩; exact ⟨c, (mem_tops.mp hc).1, h⟩
  · rintro ⟨c, hc, h⟩
    have h25 := (hv c hc).1
    have hh := hits_front c (vc_of (hv c hc)) d (vc_of hd) h
    by_cases h1 : c - c % 25 ∈ cs
    · refine ⟨c - c % 25, mem_tops.mpr ⟨h1, fun q => ?_⟩, hh.1⟩
      rcases (above_pos (by omega)).mp q with q | q
      · exact q.1 (by omega)
      · exact q.1 (by omega)
    · by_cases h2 : c - c % 5 ∈ cs
      · refine ⟨c - c % 5, mem_tops.mpr ⟨h2, fun q => ?_⟩, hh.2⟩
        rcases (above_pos (by omega)).mp q with q | q
        · exact q.1 (by omega)
        · refine h1 ?_
          have e : c - c % 5 - (c - c % 5) % 25 = c - c % 25 := by omega
          rw [← e]; exact q.2
      · refine ⟨c, mem_tops.mpr ⟨hc, fun q => ?_⟩, h⟩
        rcases (above_pos h25).mp q with q | q
        · exact h2 q.2
        · exact h1 q.2
theorem ans_all {cs : List Int} {d : Int} (hv : ∀ x ∈ cs, Vd x) (hd : Vd d) : (if ansOf (cs.map nameOf) (nameOf d) = 0 then Str.ofString "0" else Str.ofString "1") = ansC d cs := by
  rw [ansOf_eq hv hd]
  unfold ansC
  have := hits_all (cs := cs) hd.1
  by_cases h : ∃ c ∈ cs, hits c d = true
  · rw [if_pos h, if_pos (this.mp h)]; rfl
  · rw [if_neg h, if_neg (fun q => h (this.mpr q))]; rfl
theorem ans_tops {cs : List Int} {d : Int} (hv : ∀ x ∈ cs, Vd x) (hd : Vd d) : (if ansOf ((topsC cs).map nameOf) (nameOf d) = 0 then Str.ofString "0" else Str.ofString "1") = ansC d cs := by
  rw [← ans_all hv hd, ansOf_eq (fun x hx => hv x (mem_tops.mp hx).1) hd, ansOf_eq hv hd]
  simp only [hits_tops hv hd]
theorem ans_rest {cs : List Int} (hv : ∀ x ∈ cs, Vd x) (hs : cs.Pairwise (· < ·)) {k : Nat} {d : Int} (hk : (topsC cs)[k]? = some d) : ansOf (((topsC cs).take k ++ (topsC cs).drop (k + 1)).map nameOf) (nameOf d) = 0 := by
  have hts : (topsC cs).Pairwise (· < ·) := hs.sublist List.filter_sublist
  have hd : d ∈ topsC cs := List.mem_of_getElem? hk
  have hdv := hv d (mem_tops.mp hd).1
  have hkl : k < (topsC cs).length := by rcases Nat.lt_or_ge k (topsC cs).length with q | q; exact q; rw [List.getElem?_eq_none q] at hk; cases hk
  have hkd : (topsC cs)[k] = d := by rw [List.getElem?_eq_getElem hkl] at hk; exact Option.some.inj hk
  have hmem : ∀ x ∈ (topsC cs).take k ++ (topsC cs).drop (k + 1), x ∈ topsC cs ∧ x ≠ d := fun x hx => by
    rcases List.mem_append.mp hx with h | h
    · refine ⟨List.mem_of_mem_take h, ?_⟩
      obtain ⟨i, hi, rfl⟩ := List.mem_iff_getElem.mp h
      simp only [List.length_take] at hi
      rw [List.getElem_take, ← hkd]
      have := List.pairwise_iff_getElem.mp hts i k (by omega) hkl (by omega)
      omega
    · refine ⟨List.mem_of_mem_drop h, ?_⟩
      obtain ⟨i, hi, rfl⟩ := List.mem_iff_getElem.mp h
      simp only [List.length_drop] at hi
      rw [List.getElem_drop, ← hkd]
      have := List.pairwise_iff_getElem.mp hts k (k + 1 + i) hkl (by omega) (by omega)
      omega
  rw [ansOf_eq (fun x hx => hv x (mem_tops.mp (hmem x hx).1).1) hdv, if_neg]
  rintro ⟨c, hc, h⟩
  obtain ⟨h1, h2⟩ := hmem c hc
  have h3 := (mem_tops.mp h1).1
  refine (mem_tops.mp hd).2 ((above_pos hdv.1).mpr ?_)
  rcases hits_iff.mp h with e | e | e
  · exact absurd e h2
  · exact .inl ⟨by omega, e ▸ h3⟩
  · exact .inr ⟨by omega, e ▸ h3⟩
theorem codes_V : ∀ f ∈ [(0 : Int), 1, 2, 3], ∀ p ∈ [(1 : Int), 3, 4], ∀ q ∈ [(1 : Int), 3, 4], 25 * (1 + f) ∈ Vc ∧ 25 * (1 + f) + 5 * p ∈ Vc ∧ 25 * (1 + f) + 5 * p + q ∈ Vc := by decide +kernel
theorem codeOf_V (x : Int) : Vd (codeOf x) := by
  have h : ∀ k, pick3 k ∈ [(1 : Int), 3, 4] := fun k => by unfold pick3; split; simp; split <;> simp
  have hf : x / 3 % 4 ∈ [(0 : Int), 1, 2, 3] := by
    have h1 := Int.emod_nonneg (x / 3) (show (4 : Int) ≠ 0 by decide)
    have h2 := Int.emod_lt_of_pos (x / 3) (show (0 : Int) < 4 by decide)
    generalize x / 3 % 4 = f at h1 h2
    simp only [List.mem_cons, List.not_mem_nil, or_false]
    omega
  have hall := codes_V _ hf _ (h (x / 12 % 3)) _ (h (x / 36 % 3))
  refine vc_V _ ?_
  unfold codeOf
  split
  · exact hall.1
  · split
    · exact hall.2.1
    · exact hall.2.2
theorem asked_V : ∀ c ∈ Vc, c - c % 25 ∈ Vc ∧ c - c % 25 + 15 ∈ Vc ∧ (c % 25 > 0 → c - c % 5 + 3 ∈ Vc) := by decide +kernel
end
-- part W0
section
open LCg
section
variable {prog : Program} {w : World} {A : Around} {E : Value → Shared → Prop} {s : Shared}
theorem done_assignL {h₀ : Heap} {I L : Addr} {env : Env} {y : PySem.Str} {py : Pos} {m : PySem.Str → Option Value} {Q : Value → Shared → Prop} {sz : Nat} {Jn : List Value → List (Addr × Obj) → Prop} (hL : env.locals = L)
    (hy : env.kindOf y = some .local) (hp : (env.scope.kind == .class || (env.scope.kind == .module && env.locals != env.globals)) = false)
    (h : ∀ D s' ys news', Jn ys news' → s'.gens = s.gens → s'.os = s.os → Fr h₀ L s'.heap (fun z => if z = y then some (.ref D) else m z) → News h₀ L s'.heap ((D, lst ys) :: news') → (∀ p ∈ news', p.1 ≠ D) → sz ≤ D → Q .none s') :
    ∀ D C s' m' ys news', Jn ys news' → s'.gens = s.gens → s'.os = s.os → Fr h₀ L s'.heap m → News h₀ L s'.heap ((D, lst ys) :: news') → (∀ p ∈ news', p.1 ∉ [I, C, D]) → s'.heap.Ns C m' → h₀.get? C = none → C ≠ L → C ≠ D → sz ≤ D →
      compPost (model prog w) A E (some (assign (.Name y py) env)) Q (.ref D) C (.ok .next) s' := by
  subst hL; exact done_assign hy hp h
theorem done_assignL2 {h₀ : Heap} {wr : List Addr} {L : Addr} {env : Env} {y : PySem.Str} {py : Pos} {m : PySem.Str → Option Value} {Q : Value → Shared → Prop} {sz : Nat} {Jn : List Value → List (Addr × Obj) → Prop} (hL : env.locals = L)
    (hy : env.kindOf y = some .local) (hp : (env.scope.kind == .class || (env.scope.kind == .module && env.locals != env.globals)) = false)
    (h : ∀ D s' ys news', Jn ys news' → s'.gens = s.gens → s'.os = s.os → Fr h₀ L s'.heap (fun z => if z = y then some (.ref D) else m z) → News h₀ L s'.heap ((D, lst ys) :: news') → (∀ p ∈ news', p.1 ≠ D) → sz ≤ D → Q .none s') :
    ∀ D C s' m' ys news', Jn ys news' → s'.gens = s.gens → s'.os = s.os → Fr h₀ L s'.heap m → News h₀ L s'.heap ((D, lst ys) :: news') → (∀ p ∈ news', p.1 ∉ (C :: D :: wr)) → s'.heap.Ns C m' → h₀.get? C = none → C ≠ L → C ≠ D → sz ≤ D →
      compPost (model prog w) A E (some (assign (.Name y py) env)) Q (.ref D) C (.ok .next) s' := by
  subst hL; exact done_assign2 hy hp h
theorem set_ints {l : Addr} {vs : List Value} {ns : List Int} {Q : Value → Shared → Prop} (hh : A.handled = none) (hl : s.heap.IsList l vs.toArray) (hI : IntsAre vs ns) (h60 : vs.length < 60)
    (h : ∀ (c : Addr) (s' : Shared) es ep t ms, s'.heap.get? c = some (setO es ep t) → s.heap.get? c = none → t.fits es.size = true → Tab w t → IntsAre (es.toList.map (·.2)) ms → ms.Nodup → (∀ k, k ∈ ms ↔ k ∈ ns) → es.size ≤ vs.length → Gs s s' → Q (.ref c) s') :
    wpAny (model prog w) A (call (.type "set") [.ref l]) Q E s := by
  have hlen := hI.length
  have hget : ∀ i v, vs.toArray[i]? = some v → (intKind prog w).is (ns.getD i 0) v = true ∧ v.scannable = true := by
    clear h hl h60 hlen
    induction hI with
    | nil => intro i v e; simp at e
    | cons n t _ ih =>
      intro i v e
      cases i with
      | zero => simp at e; subst e; exact ⟨by simp [intKind, Value.isInt], rfl⟩
      | succ i => exact ih i v (by simpa using e)
  refine set_of_list (knd := intKind _ _) (items := vs.toArray) (fun i => ns.getD i 0) hh hl hget (by unfold scanBound; simp; omega) (fun h2 tk2 es ep tb S ho2 H2 hS hle hk2 => ?_)
  obtain ⟨ms, m1, m2, m3⟩ := elems_ints H2.el H2.nd
  refine h _ _ es ep tb ms ho2 ?_ H2.fit H2.tab m1 m2 (fun k => ?_) (by simpa using hle) ⟨fun b o e => hk2 b o (Heap.lt_size e) e, rfl, rfl⟩
  · cases z : s.heap.get? s.heap.objs.size with
    | none => rfl
    | some o => exact absurd (Heap.lt_size z) (Nat.lt_irrefl _)
  · rw [m3 k, ← H2.mem k, hS k]
    constructor
    · rintro ⟨j, hj, rfl⟩
      have : j < ns.length := by simp at hj; omega
      rw [List.getD_eq_getElem?_getD, List.getElem?_eq_getElem this]; exact List.getElem_mem _
    · intro hk
      obtain ⟨j, hj, rfl⟩ := List.mem_iff_getElem.mp hk
      exact ⟨j, by simp; omega, by rw [List.getD_eq_getElem?_getD, List.getElem?_eq_getElem hj]; rfl⟩
end
theorem ints_at {vs : List Value} {ns : List Int} (h : IntsAre vs ns) {i : Nat} {v : Value} (e : vs[i]? = some v) : ∃ n t, v = .int n t ∧ ns[i]? = some n := by
  induction h generalizing i with
  | nil => simp at e
  | cons n t _ ih =>
    cases i with
    | zero => simp at e; exact ⟨n, t, e.symm, rfl⟩
    | succ i => simpa using ih (by simpa using e)
theorem codeOf_ok (x : Int) : 25 ≤ codeOf x ∧ codeOf x < 125 := ⟨(codeOf_V x).1, (codeOf_V x).2.1⟩
theorem frE {h₀ h : Heap} {s s' : Shared} {L : Addr} {m : PySem.Str → Option Value} (F : Fr h₀ L h m) (g : Gs s s') (e : s.heap = h := by rfl) : Fr h₀ L s'.heap m := by subst e; exact frGs F g
theorem newsE {h₀ h : Heap} {s s' : Shared} {L : Addr} {news : List (Addr × Obj)} (N : News h₀ L h news) (g : Gs s s') (e : s.heap = h := by rfl) : News h₀ L s'.heap news := by subst e; exact newsGs N g
/-- a piece of a body, read where the def lies -/
theorem unlock {K : Frag} {f : Addr} {P : PySem.Str → List Stmt → Scope → Value → Prop} {name qual name' qual' : PySem.Str} {params params' : Arguments} {body body' : List Stmt} {scope scope' : Scope} {dV kV doc pm cdv ct oc dV' kV' doc' pm' cdv' ct' oc' : Value} {an od an' od' : Option Addr} {osl osl' : Array (Option Value)}
    (h1 : K.lookup f = some ⟨oc, od, .func (fnOf name qual params body scope dV kV doc pm an cdv ct), osl⟩)
    (h2 : K.lookup f = some ⟨oc', od', .func (fnOf name' qual' params' body' scope' dV' kV' doc' pm' an' cdv' ct'), osl'⟩)
    (h : P qual' body' scope' cdv') : P qual body scope cdv := by
  rw [h1] at h2
  simp only [Option.some.injEq, Obj.mk.injEq, Data.func.injEq, fnOf, FuncData.mk.injEq, FuncBody.stmts.injEq] at h2
  obtain ⟨_, _, h3, _⟩ := h2
  obtain ⟨_, e2, _, e4, e5, _, _, _, _, _, _, _, e12, _⟩ := h3
  subst e2 e4 e5 e12
  exact h
theorem canLay_pairs {ps : List (PySem.Str × Option PySem.Str)} (h : ∀ p ∈ ps, PyData.strOk p.1 = true ∧ ∀ x, p.2 = some x → PyData.strOk x = true) : PyData.canLayAll0 (ps.map pairD) = true := by
  induction ps with
  | nil => rfl
  | cons p ps ih =>
    obtain ⟨x, o⟩ := p
    have h1 := h _ (.head _)
    have h2 := ih fun p hp => h p (.tail _ hp)
    cases o with
    | none => simp only [List.map_cons, pairD, optD, PyData.canLayAll0, PyData.canLay0, h1.1, h2]; rfl
    | some y => simp only [List.map_cons, pairD, optD, PyData.canLayAll0, PyData.canLay0, h1.1, h1.2 y rfl, h2]; rfl
theorem depth_pairs (ps : List (PySem.Str × Option PySem.Str)) : PyData.depthAll (ps.map pairD) ≤ 1 := by
  induction ps with
  | nil => decide
  | cons p ps ih =>
    obtain ⟨x, o⟩ := p
    cases o <;> simp [pairD, optD, PyData.depthAll, PyData.depth] <;> omega
theorem shaped_pairs {ps : List (PySem.Str × Option PySem.Str)} (h : ∀ p ∈ ps, PyData.strOk p.1 = true ∧ ∀ x, p.2 = some x → PyData.strOk x = true) : SeqAt.shaped (.list (ps.map pairD)) = true := by
  have h1 := canLay_pairs h
  have h2 := depth_pairs ps
  simp only [SeqAt.shaped, PyData.canLay0, PyData.depth, h1, Bool.true_and]
  exact decide_eq_true (by omega)
theorem eqv_pairs : ∀ ps : List (PySem.Str × Option PySem.Str), PyData.eqvAll (ps.map pairD) (ps.map pairD) = true
  | [] => rfl
  | (x, o) :: ps => by
    cases o <;> simp [pairD, optD, PyData.eqvAll, PyData.eqv, eqv_pairs ps]
theorem name_facts : ∀ c ∈ Vc, PyData.strOk (nameOf c) = true ∧ (nameOf c).length ≤ 1000 ∧ nameOf c ≠ Str.ofString "<string>" := by decide +kernel
theorem nameOk {c : Int} (h : Vd c) : PyData.strOk (nameOf c) = true := (name_facts c (vc_of h)).1
theorem nameLen {c : Int} (h : Vd c) : (nameOf c).length ≤ 1000 := (name_facts c (vc_of h)).2.1
theorem nameNs {c : Int} (h : Vd c) : nameOf c ≠ Str.ofString "<string>" := (name_facts c (vc_of h)).2.2
theorem strs_at {vs : List Value} {xs : List PySem.Str} (h : StrsAre vs xs) : vs.length = xs.length := h.length
end
-- part I1
section
section
variable {prog : Program} {w : World} {A : Around} {E : Value → Shared → Prop} {s : Shared}
theorem seq_list_iadd : seqSlot? (.type "list") (dunderI "add") = pure (some (.builtin "list.__iadd__")) := PySem.seqSlot_of PySem.F.slot_list_iadd.lookup (by decide +kernel)
theorem noFillI_list : fillsInplaceSlot (.type "list") "add" (Operator.Add == .Add) = pure false := by
  unfold fillsInplaceSlot
  show (typeLookup (.type "list") (dunderI "add") >>= fun fi => pure (fi.isSome && !isSeqSlot fi)) = pure false
  rw [PySem.F.slot_list_iadd.lookup]
  show (pure ((some (Value.builtin "list.__iadd__")).isSome && !isSeqSlot (some (Value.builtin "list.__iadd__"))) : Sem Bool) = pure false
  rw [show isSeqSlot (some (Value.builtin "list.__iadd__")) = true by decide +kernel]
  rfl
theorem list_iadd {D b : Addr} {its its2 : Array Value} {n n2 : Nat} {Q : Value → Shared → Prop}
    (hD : s.heap.get? D = some { cls := .type "list", dict := none, data := .seq its n, slots := #[] }) (hb : s.heap.get? b = some { cls := .type "list", dict := none, data := .seq its2 n2, slots := #[] })
    (hz : its.size + its2.size ≤ 1000)
    (h : ∀ h' n', h'.get? D = some (listOf (its ++ its2) n') → (∀ c o, c ≠ D → s.heap.get? c = some o → h'.get? c = some o) → Q (.ref D) { s with heap := h' }) :
    wpAny (model prog w) A (inplaceOp .Add (.ref D) (.ref b)) Q E s := by
  unfold inplaceOp
  refine wpAny_holding ?_
  have ha : s.TypeIs (.ref D) "list" := ⟨_, hD, rfl⟩
  have hb' : s.TypeIs (.ref b) "list" := ⟨_, hb, rfl⟩
  refine wpAny_bind (wpAny_typeOf ha (wpAny_bind (wpAny_of_eq noFillI_list ?_)))
  show wpAny _ A (if false = true then _ else _) Q E s
  rw [if_neg Bool.false_ne_true]
  refine wpAny_bind (wpAny_binaryOp1_none (nm := "add") ha hb' noFill_list_add ?_)
  refine wpAny_bind (wpAny_of_eq seq_list_iadd ?_)
  refine wpAny_bind (wpAny_rule ?_)
  have hbig : Builtin.List.listTooLong (its.size + its2.size) = false := by
    unfold Builtin.List.listTooLong
    simp only [decide_eq_false_iff_not]
    rw [sizeLine_eq]
    omega
  have hz1 : its.size ≤ sizeLine := by rw [sizeLine_eq]; omega
  have hz2 : its.size + its2.size ≤ sizeLine + 1 := by rw [sizeLine_eq]; omega
  have q := PySem.IsL.update hD (fun x => x ++ its2)
  refine call_meets PySem.F.slot_list_iadd ha PySem.F.entry_list_iadd (PySem.F.args_list_iadd_2 _ _) (PySem.AutoSeq1.list___iadd___list_list_0 D its n b its2 n2 (by rw [hbig]; simp) hz1 hz2) ⟨hD, hb, h _ _ q (fun c o hc e => ?_)⟩
  rw [Heap.get?_update_ne _ _ _ _ hc]; exact e
theorem two_le {l : List Int} {a b : Int} (ha : a ∈ l) (hb : b ∈ l) (h : a ≠ b) : 2 ≤ l.length := by
  match l, ha, hb with
  | [x], ha, hb => simp at ha hb; omega
  | _ :: _ :: _, _, _ => simp
theorem range_ok : ∀ n : Fin 12, Builtin.Range.rangeSize 0 (n.val : Int) 1 = (n.val : Int) ∧ Builtin.Range.small 0 (n.val : Int) 1 = true := by decide +kernel
theorem for_range {env : Env} {h₀ : Heap} {Q : Flow → Shared → Prop} {x : PySem.Str} {px : Pos} {body : List Stmt} {r : Addr} {n : Nat} {tu tv tw : Tok} {m : PySem.Str → Option Value} {news : List (Addr × Obj)} {E' : Value → Shared → Prop}
    (hh : A.handled = none) (hr : IsRange s.heap r 0 (n : Int) 1 tu tv tw) (hn : n ≤ 11) (hx : env.kindOf x = some .local)
    (hp : (env.scope.kind == .class || (env.scope.kind == .module && env.locals != env.globals)) = false)
    (F : Fr h₀ env.locals s.heap m) (N : News h₀ env.locals s.heap news)
    (J : Nat → (PySem.Str → Option Value) → List (Addr × Obj) → Prop) (h0 : J 0 m news)
    (turn : ∀ i tk m₁ news₁ s₁ own, i < n → J i m₁ news₁ → s₁.gens = s.gens → s₁.os = s.os → (∀ p ∈ own, p.1 = s.heap.objs.size) → (∀ p ∈ news₁, p.1 ≠ s.heap.objs.size) →
      Fr h₀ env.locals s₁.heap (fun y => if y = x then some (.int (i : Nat) tk) else m₁ y) → News h₀ env.locals s₁.heap (news₁ ++ own) →
      wpAny (model prog w) A (execs body env) (fun f s₂ => match f with
        | .ret v => Q (.ret v) s₂
        | .brk => Q .next s₂
        | _ => Stop (s₂.gens = s.gens ∧ s₂.os = s.os ∧ ∃ m₂ news₂, Fr h₀ env.locals s₂.heap m₂ ∧ News h₀ env.locals s₂.heap (news₂ ++ own) ∧ (∀ p ∈ news₂, p.1 ≠ s.heap.objs.size) ∧ J (i + 1) m₂ news₂)) (fun _ _ => False) s₁)
    (done : ∀ s₁ m₁ news₁, s₁.gens = s.gens → s₁.os = s.os → J n m₁ news₁ → Fr h₀ env.locals s₁.heap m₁ → News h₀ env.locals s₁.heap news₁ → Q .next s₁) :
    wpAny (model prog w) A (pyIter (.ref r)) (fun it s₂ => codeAny (model prog w) A (.forLoop (.Name x px) it body [] env) (fun r s' => match r with | .ok f => Q f s' | .error e => cameBackBy (model prog w) A env E e s') s₂) E' s := by
  have hok := range_ok ⟨n, by omega⟩
  dsimp only at hok
  have hI0 : h₀.get? s.heap.objs.size = none := by
    cases hq : h₀.get? s.heap.objs.size with
    | none => rfl
    | some o' => exact absurd (Heap.lt_size (F.keep _ _ hq)) (Nat.lt_irrefl _)
  refine wpAny_pyIter_range hr hok.2 ?_
  rw [hok.1]
  refine for_g (h₀ := h₀) (Wk.of (Walks.range hh s.heap.objs.size 0 1 n)) hx hp ?_ hI0 (fun p hp => Nat.ne_of_lt (Heap.lt_size (N p hp).1)) ?_ (F.push _) (N.grown fun b o e => Heap.get?_push_of_some _ e) J h0 ?_ done
  · intro hm
    rw [List.mem_singleton] at hm
    exact absurd F.ns.lt (Nat.not_lt.mpr (Nat.le_of_eq hm.symm))
  · have q := Heap.get?_push_size s.heap (o := { cls := .type "range_iterator", data := .fields #[rawInt 0, rawInt (n : Int), rawInt 1] }) rfl
    simpa using q
  · rintro i v m₁ news₁ s₁ own hi ⟨tk, rfl⟩ hJ hg ho hown hall hne hst F₁ N₁
    rw [show (0 : Int) + (i : Nat) * 1 = (i : Nat) by omega] at F₁
    exact turn i tk m₁ news₁ s₁ own hi hJ hg ho (fun p hp => by simpa using hown p hp) hne F₁ N₁
end
end
section
local macro_rules | `(tactic| walk_at "execs cons") => `(tactic| (refine stop_intro ?_))
-- part W6
section
open LCg
local macro_rules | `(tactic| walk_at "exec For Name Call cons nil") => `(tactic| (refine stop_intro ?_))
local macro_rules | `(tactic| walk_at "call builtin:len") => `(tactic| (refine stop_intro ?_))
local macro_rules | `(tactic| walk_at "binaryOp Add ref ref") => `(tactic| (refine stop_intro ?_))
theorem segF {w : World} {mean mg mb} {dp : Nat} {fr : Option (List Env)} {gd : Option (List Code)} {un : Nat} {s s4 : Shared} {Q : Value → Shared → Prop} {L Dt : Addr} {ps : List Value} {m0 : PySem.Str → Option Value} {cs : List Int}
    {name qual : PySem.Str} {params : Arguments} {body : List Stmt} {scope : Scope} {dV kV doc pm cdv ct oc : Value} {an od : Option Addr} {osl : Array (Option Value)}
    (ho : (hd.heap_39 w.params).lookup 142 = some ⟨oc, od, .func (fnOf name qual params body scope dV kV doc pm an cdv ct), osl⟩)
    (hdp : dp + 40 < recursionLimit) (hu : un + 600 < cLine)
    (X : (hd.heap_39 w.params).In s.heap) (T : Tp mean mg mb s.heap)
    (F : Fr s.heap L s4.heap (fun z => if z = Str.ofString "tops" then some (.ref Dt) else m0 z))
    (N : News s.heap L s4.heap ((Dt, lst ps) :: []))
    (hg : s4.gens = s.gens) (hos : s4.os = s.os)
    (hps : StrsAre ps ((topsC cs).map nameOf))
    (hcV : ∀ c ∈ cs, Vd c) (hcl11 : cs.length ≤ 11) (hsort : cs.Pairwise (· < ·)) (h75 : 75 ∈ cs) (h100 : 100 ∈ cs)
    (h : ∀ s', Gs s s' → Q (.bool true) s') :
    wpAny (model PySem.Challenge.rw_ny0065_01.row.prog w) (Around.deeper ⟨none, dp, fr, gd, un⟩ (envOfC qual scope L 142 cdv)) (execs (body.drop 11) (envOfC qual scope L 142 cdv)) (fun fl s' => Q (match fl with | .ret v => v | _ => .none) s') (fun _ _ => False) s4 := by
  revert X ho; k_fill; intro ho X
  refine unlock (P := fun qual body scope cdv => wpAny (model PySem.Challenge.rw_ny0065_01.row.prog w) (Around.deeper ⟨none, dp, fr, gd, un⟩ (envOfC qual scope L 142 cdv)) (execs (body.drop 11) (envOfC qual scope L 142 cdv)) (fun fl s' => Q (match fl with | .ret v => v | _ => .none) s') (fun _ _ => False) s4) ho rfl ?_
  clear ho
  simp only [List.drop_succ_cons, List.drop_zero]
  try k_fold
  have keepP : Unit → StrsAre ps _ := fun _ => hps
  have htl : (topsC cs).length ≤ 11 := Nat.le_trans (List.length_filter_le ..) hcl11
  have htV : ∀ c ∈ topsC cs, Vd c := fun c hc => hcV c (mem_tops.mp hc).1
  have ht75 : 75 ∈ topsC cs := mem_tops.mpr ⟨h75, fun q => by rcases (above_pos (by omega)).mp q with q | q <;> exact q.1 (by decide)⟩
  have ht100 : 100 ∈ topsC cs := mem_tops.mpr ⟨h100, fun q => by rcases (above_pos (by omega)).mp q with q | q <;> exact q.1 (by decide)⟩
  have hpl := hps.length
  rw [List.length_map] at hpl
  clear hps
  refine wpAny_execs_cons ?_
  try dsimp only
  k_steps
  refine stop_elim ?_
  refine wpAny_For ?_
  k_steps
  refine stop_elim ?_
  have hdt := N _ (.head _)
  refine len_strsA (by exact ⟨_, hdt.1, rfl, _, rfl⟩) (keepP ()) (by rw [List.length_map]; omega) ?_
  rw [List.length_map]
  k_steps
  refine stop_elim ?_
  rename Fr _ _ _ _ => F5
  rename News _ _ _ _ => N5
  rename IsRange _ _ _ _ _ _ _ _ => R5
  rename_i h5 tk5 t5 u5 v5 hk5
  refine for_range (h₀ := s.heap) rfl (by exact R5) htl rfl rfl F5 N5 (fun i m₁ news₁ => (∀ y, y ≠ Str.ofString "k" → m₁ y = if y = Str.ofString "tops" then some (.ref Dt) else m0 y) ∧ news₁ = [(Dt, lst ps)]) ⟨fun _ _ => rfl, rfl⟩ ?_ ?_
  · rintro i tk m₁ news₁ s₁ own hi ⟨hm, rfl⟩ hg1 ho1 hown hne F6 N6
    rw [map_but hm] at F6
    simp only [List.cons_append, List.nil_append] at N6
    change Fr s.heap L _ _ at F6
    change News s.heap L _ _ at N6
    have hps := keepP ()
    clear F5 N5 hdt
    refine wpAny_execs_cons ?_
    try dsimp only
    k_steps
    refine stop_elim ?_
    rename Fr _ _ _ _ => F7
    rename News _ _ _ _ => N7
    have ei : ((i : Nat) : Int) + 1 = ((i + 1 : Nat) : Int) := by omega
    rw [ei, PySem.slicePick_from', PySem.slicePick_upto'] at N7
    simp only [List.toList_toArray] at N7
    have ha := N7 _ (.tail _ (.head _))
    have hb := N7 _ (.head _)
    refine add_lists (vs := ps.take i) (ws := ps.drop (i + 1)) (by exact F7) (by exact N7) (by exact ⟨_, ha.1, rfl, _, rfl⟩) (by exact ⟨_, hb.1, rfl, _, rfl⟩) (fun h8 F8 N8 => ?_) (by simp only [List.length_take, List.length_drop]; rw [sizeLine_eq]; omega)
    clear ha hb F7 N7
    have hps := keepP ()
    k_steps
    refine stop_elim ?_
    rename Fr _ _ _ _ => F9
    rename News _ _ _ _ => N9
    rename_i t9 l9 h9 l19
    have ed : (((topsC cs).map nameOf).getD ((i : Nat) : Int).toNat Str.empty) = nameOf (topsC cs)[i] := by
      simp [List.getD, hi]
    rw [ed] at N9
    have hdi : (topsC cs)[i]? = some (topsC cs)[i] := List.getElem?_eq_getElem hi
    have hdm : (topsC cs)[i] ∈ topsC cs := List.getElem_mem hi
    generalize (topsC cs)[i] = d at ed N9 hdi hdm
    have hdV := htV d hdm
    have hrest := ans_rest hcV hsort hdi
    have hrs : StrsAre (ps.take i ++ ps.drop (i + 1)) (((topsC cs).take i ++ (topsC cs).drop (i + 1)).map nameOf) := by
      rw [List.map_append, List.map_take, List.map_drop]
      exact StrsAre.app (StrsAre.take (keepP ()) i) (StrsAre.drop (keepP ()) (i + 1))
    have hrn : ((topsC cs).take i ++ (topsC cs).drop (i + 1)).map nameOf ≠ [] := fun e => by
      have e1 := congrArg List.length (List.map_eq_nil_iff.mp e)
      have := two_le ht75 ht100 (by decide)
      simp only [List.length_append, List.length_take, List.length_drop, List.length_nil] at e1
      omega
    have hrl : (((topsC cs).take i ++ (topsC cs).drop (i + 1)).map nameOf).length ≤ 100 := by
      simp only [List.length_map, List.length_append, List.length_take, List.length_drop]
      omega
    have hrV : ∀ x ∈ ((topsC cs).take i ++ (topsC cs).drop (i + 1)).map nameOf, x.length ≤ 1000 := by
      intro x hx
      obtain ⟨c, hc, rfl⟩ := List.mem_map.mp hx
      refine nameLen (htV c ?_)
      rcases List.mem_append.mp hc with q | q
      · exact List.mem_of_mem_take q
      · exact List.mem_of_mem_drop q
    have ha := N9 _ (.tail _ (.head _))
    have hb := N9 _ (.head _)
    clear hps
    refine answers_c (ls := ((topsC cs).take i ++ (topsC cs).drop (i + 1)).map nameOf) (xs := [nameOf d]) rfl (by dsimp only [Around.deeper]; omega) (by dsimp only [Around.deeper]; omega) (X.keeps (by exact F9.keep)) (T.keeps (by exact F9.keep)) (by exact ⟨_, ha.1, rfl, _, rfl⟩) hrs hrl hrn (by exact ⟨_, hb.1, rfl, _, rfl⟩) (.cons _ _ .nil) (by simp) hrV (fun x hx => by rw [List.mem_singleton.mp hx]; exact nameNs hdV) (fun l10 ws10 n10 s10 g10 hl10 hw10 hf10 => ?_)
    rw [List.map_cons, List.map_nil, if_pos hrest] at hw10
    have keepW : Unit → StrsAre ws10 [Str.ofString "0"] := fun _ => hw10
    have F10 := frE F9 g10
    have N10 := newsE N9 g10
    have hl10' : s10.heap.IsList l10 ws10.toArray := ⟨_, hl10, rfl, _, rfl⟩
    have N11 : News s.heap L s10.heap ((l10, listOf ws10.toArray n10) :: (Dt, lst ps) :: own) := fun p hp => by
      simp only [List.mem_cons] at hp
      rcases hp with rfl | rfl | hp
      · exact ⟨hl10, fresh_of F9 _ hf10⟩
      · exact N10 _ (.tail _ (.tail _ (.tail _ (.tail _ (.head _)))))
      · exact N10 _ (.tail _ (.tail _ (.tail _ (.tail _ (.tail _ hp)))))
    clear ha hb F9 N9 hw10 N10 hrs
    k_steps
    refine stop_elim ?_
    rename Fr _ _ _ _ => F12
    rename News _ _ _ _ => N12
    have ha := N12 _ (.tail _ (.head _))
    have hb := N12 _ (.head _)
    have h0ok : ∀ x ∈ [Str.ofString "0"], PyData.strOk x = true := fun x hx => by rw [List.mem_singleton.mp hx]; decide +kernel
    refine ne_strs (ws := [_]) (ys := [Str.ofString "0"]) (by exact ⟨_, ha.1, rfl, _, rfl⟩) (by exact ⟨_, hb.1, rfl, _, rfl⟩) (keepW ()) (.cons _ _ .nil) h0ok h0ok (by dsimp only [Around.deeper]; omega) ?_
    simp only [decide_true, Bool.not_true]
    clear ha hb
    k_steps
    refine stop_elim ⟨g10.gens.trans hg1, g10.os.trans ho1, _, [(Dt, lst ps)], F12, fun p hp => N12 p (.tail _ (.tail _ hp)), hne, fun y hy => by simp [hy], rfl⟩
  · rintro s₁ m₁ news₁ hg1 ho1 ⟨hm, rfl⟩ F6 N6
    change Fr s.heap L _ _ at F6
    change News s.heap L _ _ at N6
    refine wpAny_execs_cons ?_
    try dsimp only
    k_steps
    exact h _ ⟨F6.keep, hg1.trans hg, ho1.trans hos⟩
end
-- part W5
section
open LCg
theorem segE {w : World} {mean mg mb} {dp : Nat} {fr : Option (List Env)} {gd : Option (List Code)} {un : Nat} {s s4 : Shared} {Q : Value → Shared → Prop} {L Dt Dw Dn Da De : Addr} {ps ts zs us : List Value} {tps : List (Addr × Obj)} {m0 : PySem.Str → Option Value} {ks cs : List Int}
    {name qual : PySem.Str} {params : Arguments} {body : List Stmt} {scope : Scope} {dV kV doc pm cdv ct oc : Value} {an od : Option Addr} {osl : Array (Option Value)}
    (ho : (hd.heap_39 w.params).lookup 142 = some ⟨oc, od, .func (fnOf name qual params body scope dV kV doc pm an cdv ct), osl⟩)
    (hdp : dp + 40 < recursionLimit) (hu : un + 600 < cLine)
    (X : (hd.heap_39 w.params).In s.heap) (T : Tp mean mg mb s.heap)
    (F : Fr s.heap L s4.heap (fun z => if z = Str.ofString "tops" then some (.ref Dt) else if z = Str.ofString "answers" then some (.ref Dw) else if z = Str.ofString "names" then some (.ref Dn) else if z = Str.ofString "asked" then some (.ref Da) else if z = Str.ofString "due" then some (.ref De) else m0 z))
    (N : News s.heap L s4.heap ((Dt, lst ps) :: (Dw, lst ts) :: (Dn, lst zs) :: (De, lst us) :: tps))
    (hg : s4.gens = s.gens) (hos : s4.os = s.os)
    (hps : StrsAre ps ((topsC cs).map nameOf)) (hts : StrsAre ts (ks.map fun c => ansC c cs)) (hzs : StrsAre zs (ks.map nameOf)) (hus : TupsAre tps us (cs.map fun c => (nameOf c, aboveO c cs)))
    (hkl : ks.length ≤ 44) (hkV : ∀ c ∈ ks, Vd c) (hcV : ∀ c ∈ cs, Vd c) (hcl11 : cs.length ≤ 11) (hsort : cs.Pairwise (· < ·)) (h75 : 75 ∈ cs) (h100 : 100 ∈ cs)
    (h : ∀ s', Gs s s' → Q (.bool true) s') :
    wpAny (model PySem.Challenge.rw_ny0065_01.row.prog w) (Around.deeper ⟨none, dp, fr, gd, un⟩ (envOfC qual scope L 142 cdv)) (execs (body.drop 10) (envOfC qual scope L 142 cdv)) (fun fl s' => Q (match fl with | .ret v => v | _ => .none) s') (fun _ _ => False) s4 := by
  revert X ho; k_fill; intro ho X
  refine unlock (P := fun qual body scope cdv => wpAny (model PySem.Challenge.rw_ny0065_01.row.prog w) (Around.deeper ⟨none, dp, fr, gd, un⟩ (envOfC qual scope L 142 cdv)) (execs (body.drop 10) (envOfC qual scope L 142 cdv)) (fun fl s' => Q (match fl with | .ret v => v | _ => .none) s') (fun _ _ => False) s4) ho rfl ?_
  clear ho
  simp only [List.drop_succ_cons, List.drop_zero]
  try k_fold
  have keepU : Unit → TupsAre tps us _ := fun _ => hus
  have keepP : Unit → StrsAre ps _ := fun _ => hps
  have keepT : Unit → StrsAre ts _ := fun _ => hts
  have keepZ : Unit → StrsAre zs _ := fun _ => hzs
  have htl : (topsC cs).length ≤ 11 := Nat.le_trans (List.length_filter_le ..) hcl11
  have htV : ∀ c ∈ topsC cs, Vd c := fun c hc => hcV c (mem_tops.mp hc).1
  have ht75 : 75 ∈ topsC cs := mem_tops.mpr ⟨h75, fun q => by rcases (above_pos (by omega)).mp q with q | q <;> exact q.1 (by decide)⟩
  have hne : (topsC cs).map nameOf ≠ [] := fun e => by rw [List.map_eq_nil_iff.mp e] at ht75; cases ht75
  have hnec : cs.map nameOf ≠ [] := fun e => by rw [List.map_eq_nil_iff.mp e] at h75; cases h75
  clear hus hps hts hzs
  refine wpAny_execs_cons ?_
  try dsimp only
  k_steps
  refine stop_elim ?_
  have hdt := N _ (.head _)
  have hdn := N _ (.tail _ (.tail _ (.head _)))
  refine answers_c rfl (by dsimp only [Around.deeper]; omega) (by dsimp only [Around.deeper]; omega) (X.keeps (by exact F.keep)) (T.keeps (by exact F.keep)) (by exact ⟨_, hdt.1, rfl, _, rfl⟩) (keepP ()) (by rw [List.length_map]; omega) hne (by exact ⟨_, hdn.1, rfl, _, rfl⟩) (keepZ ()) (by rw [List.length_map]; omega) ?_ ?_ (fun l5 ws5 n5 s5 g5 hl5 hw5 hf5 => ?_)
  · intro x hx; obtain ⟨c, hc, rfl⟩ := List.mem_map.mp hx; exact nameLen (htV c hc)
  · intro x hx; obtain ⟨c, hc, rfl⟩ := List.mem_map.mp hx; exact nameNs (hkV c hc)
  have F5 := frE F g5
  have N5 := newsE N g5
  have ew5 : (ks.map nameOf).map (fun x => if ansOf ((topsC cs).map nameOf) x = 0 then Str.ofString "0" else Str.ofString "1") = ks.map fun c => ansC c cs := by
    rw [List.map_map]
    exact List.map_congr_left fun c hc => ans_tops hcV (hkV c hc)
  rw [ew5] at hw5
  have keepW : Unit → StrsAre ws5 _ := fun _ => hw5
  clear hw5
  have hansok : ∀ x ∈ ks.map (fun c => ansC c cs), PyData.strOk x = true := by
    intro x hx
    obtain ⟨c, hc, rfl⟩ := List.mem_map.mp hx
    unfold ansC
    split <;> decide +kernel
  k_steps
  refine stop_elim ?_
  have hdw := N5 _ (.tail _ (.head _))
  refine ne_strs (by exact ⟨_, hl5, rfl, _, rfl⟩) (by exact ⟨_, hdw.1, rfl, _, rfl⟩) (keepW ()) (keepT ()) hansok hansok (by dsimp only [Around.deeper]; omega) ?_
  simp only [decide_true, Bool.not_true]
  k_steps
  refine stop_elim ?_
  refine comp_eval (by with_unfolding_all rfl) rfl (by decide) ?_
  k_steps
  refine stop_elim ?_
  have hde := N5 _ (.tail _ (.tail _ (.tail _ (.head _))))
  have hul := (keepU ()).length
  rw [List.length_map] at hul
  refine comp_tups (vs := us) (tps := tps) (out := cs.map fun c => (nameOf c, aboveO c cs)) rfl (by exact ⟨_, hde.1, rfl, _, rfl⟩) (keepU ()) (fun p hp => ?_) (Ne.symm hde.2.1) (by rw [sizeLine_eq]; omega) (by decide) rfl rfl rfl (by decide) F5 N5 (fun i zs' news₁ => news₁ = ((Dt, lst ps) :: (Dw, lst ts) :: (Dn, lst zs) :: (De, lst us) :: tps) ∧ StrsAre zs' ((cs.take i).map nameOf)) ⟨rfl, .nil⟩ ?_ (done_eval2 ?_)
  · have := N5 p (.tail _ (.tail _ (.tail _ (.tail _ hp))))
    exact ⟨this.1, this.2.1⟩
  · rintro i z u v₂ o zs₂ news₁ s₂ C oC D2 m₂ own hout hov ⟨rfl, hzs⟩ hyl2 hg8 ho8 hoC hmx hmy hoff2 hCD F8 N8
    simp only [List.cons_append, List.nil_append] at N8
    refine wpAny_tests_nil ?_
    simp only [if_true]
    have keepS : Unit → StrsAre zs₂ _ := fun _ => hzs
    clear hzs
    obtain ⟨c, hcx, hzo⟩ : ∃ c, cs[i]? = some c ∧ (nameOf c, aboveO c cs) = (z, o) := by
      rw [List.getElem?_map] at hout
      cases hq : cs[i]? with
      | none => rw [hq] at hout; cases hout
      | some c => rw [hq] at hout; exact ⟨c, rfl, by simpa using hout⟩
    obtain ⟨rfl, rfl⟩ := Prod.mk.inj hzo
    clear hout hzo
    k_steps
    refine ⟨hg8, ho8, _, F8, N8, hoff2, rfl, ?_⟩
    rw [List.take_add_one, hcx]
    simp only [Option.toList_some, List.map_append, List.map_cons, List.map_nil]
    exact StrsAre.app (keepS ()) (.cons _ _ .nil)
  rintro D6 s6 zs6 news' ⟨rfl, hzs⟩ hg6 ho6 F6 N6 hoff6 hD6
  try dsimp only at hg6 ho6
  have hzs6 : StrsAre zs6 (cs.map nameOf) := by
    rw [List.take_of_length_le (by simp)] at hzs
    exact hzs
  have keepS : Unit → StrsAre zs6 (cs.map nameOf) := fun _ => hzs6
  clear hzs hzs6 F5 N5
  k_steps
  refine stop_elim ?_
  have hd6 := N6 _ (.head _)
  have hdn6 := N6 _ (.tail _ (.tail _ (.tail _ (.head _))))
  refine answers_c rfl (by dsimp only [Around.deeper]; omega) (by dsimp only [Around.deeper]; omega) (X.keeps (by exact F6.keep)) (T.keeps (by exact F6.keep)) (by exact ⟨_, hd6.1, rfl, _, rfl⟩) (keepS ()) (by rw [List.length_map]; omega) hnec (by exact ⟨_, hdn6.1, rfl, _, rfl⟩) (keepZ ()) (by rw [List.length_map]; omega) ?_ ?_ (fun l7 ws7 n7 s7 g7 hl7 hw7 hf7 => ?_)
  · intro x hx; obtain ⟨c, hc, rfl⟩ := List.mem_map.mp hx; exact nameLen (hcV c hc)
  · intro x hx; obtain ⟨c, hc, rfl⟩ := List.mem_map.mp hx; exact nameNs (hkV c hc)
  have F7 := frE F6 g7
  have N7 := newsE N6 g7
  have ew7 : (ks.map nameOf).map (fun x => if ansOf (cs.map nameOf) x = 0 then Str.ofString "0" else Str.ofString "1") = ks.map fun c => ansC c cs := by
    rw [List.map_map]
    exact List.map_congr_left fun c hc => ans_all hcV (hkV c hc)
  rw [ew7] at hw7
  have keepW7 : Unit → StrsAre ws7 _ := fun _ => hw7
  clear hw7
  k_steps
  refine stop_elim ?_
  have hdw7 := N7 _ (.tail _ (.tail _ (.head _)))
  refine ne_strs (by exact ⟨_, hl7, rfl, _, rfl⟩) (by exact ⟨_, hdw7.1, rfl, _, rfl⟩) (keepW7 ()) (keepT ()) hansok hansok (by dsimp only [Around.deeper]; omega) ?_
  simp only [decide_true, Bool.not_true]
  k_steps
  refine stop_elim ?_
  have key := segF (w := w) (dp := dp) (fr := fr) (gd := gd) (un := un) (Q := Q) (L := L) rfl hdp hu X T (by exact F7) (fun p hp => N7 p (by rw [List.mem_singleton.mp hp]; exact .tail _ (.head _))) (g7.gens.trans (hg6.trans (g5.gens.trans hg))) (g7.os.trans (ho6.trans (g5.os.trans hos))) (keepP ()) hcV hcl11 hsort h75 h100 h
  exact key
end
-- part W4
section
open LCg
local macro_rules | `(tactic| walk_at "exec Assign cons ListComp") => `(tactic| (refine stop_intro ?_))
theorem segD {w : World} {mean mg mb} {dp : Nat} {fr : Option (List Env)} {gd : Option (List Code)} {un : Nat} {s s4 : Shared} {Q : Value → Shared → Prop} {L Da De c5 : Addr} {as us vs5 : List Value} {na e5 : Nat} {ocl : Obj} {tps : List (Addr × Obj)} {m0 : PySem.Str → Option Value} {ks cs : List Int}
    {name qual : PySem.Str} {params : Arguments} {body : List Stmt} {scope : Scope} {dV kV doc pm cdv ct oc : Value} {an od : Option Addr} {osl : Array (Option Value)}
    (ho : (hd.heap_39 w.params).lookup 142 = some ⟨oc, od, .func (fnOf name qual params body scope dV kV doc pm an cdv ct), osl⟩)
    (hdp : dp + 40 < recursionLimit) (hu : un + 600 < cLine)
    (X : (hd.heap_39 w.params).In s.heap) (T : Tp mean mg mb s.heap)
    (F : Fr s.heap L s4.heap (fun z => if z = Str.ofString "asked" then some (.ref Da) else if z = Str.ofString "due" then some (.ref De) else m0 z))
    (N : News s.heap L s4.heap ((Da, listOf as.toArray na) :: (De, lst us) :: (c5, seqObj "list" vs5.toArray e5) :: (L + 1, ocl) :: tps))
    (hcl : ocl.data = Data.cell (some (.ref c5))) (hg : s4.gens = s.gens) (hos : s4.os = s.os)
    (has : IntsAre as ks) (hkl : ks.length ≤ 44) (hkV : ∀ c ∈ ks, Vd c)
    (hcs : IntsAre vs5 cs) (hus : TupsAre tps us (cs.map fun c => (nameOf c, aboveO c cs)))
    (hcV : ∀ c ∈ cs, Vd c) (hcl11 : cs.length ≤ 11) (hsort : cs.Pairwise (· < ·)) (h75 : 75 ∈ cs) (h100 : 100 ∈ cs)
    (h : ∀ s', Gs s s' → Q (.bool true) s') :
    wpAny (model PySem.Challenge.rw_ny0065_01.row.prog w) (Around.deeper ⟨none, dp, fr, gd, un⟩ (envOfC qual scope L 142 cdv)) (execs (body.drop 7) (envOfC qual scope L 142 cdv)) (fun fl s' => Q (match fl with | .ret v => v | _ => .none) s') (fun _ _ => False) s4 := by
  revert X ho; k_fill; intro ho X
  refine unlock (P := fun qual body scope cdv => wpAny (model PySem.Challenge.rw_ny0065_01.row.prog w) (Around.deeper ⟨none, dp, fr, gd, un⟩ (envOfC qual scope L 142 cdv)) (execs (body.drop 7) (envOfC qual scope L 142 cdv)) (fun fl s' => Q (match fl with | .ret v => v | _ => .none) s') (fun _ _ => False) s4) ho rfl ?_
  clear ho
  simp only [List.drop_succ_cons, List.drop_zero]
  try k_fold
  have keepU : Unit → TupsAre tps us _ := fun _ => hus
  have keepC : Unit → IntsAre vs5 cs := fun _ => hcs
  have keepA : Unit → IntsAre as ks := fun _ => has
  have hvl5 := hcs.length
  have hal := has.length
  clear hus hcs has
  refine wpAny_execs_cons ?_
  try dsimp only
  k_steps
  refine stop_elim ?_
  refine comp_assign (by with_unfolding_all rfl) (by with_unfolding_all rfl) rfl (by decide) ?_
  k_steps
  refine stop_elim ?_
  have hd1 := N _ (.head _)
  refine comp_list (items := as.toArray) rfl (by exact ⟨_, hd1.1, rfl, _, rfl⟩) (Ne.symm hd1.2.1) ?_ (by decide) rfl rfl F N (fun i zs news₁ => news₁ = ((Da, listOf as.toArray na) :: (De, lst us) :: (c5, seqObj "list" vs5.toArray e5) :: (L + 1, ocl) :: tps) ∧ StrsAre zs ((ks.take i).map nameOf)) ⟨rfl, .nil⟩ ?_ (done_assignL rfl rfl rfl ?_)
  · simp only [List.size_toArray]
    rw [sizeLine_eq]; omega
  · rintro i v zs news₁ s₂ C oC D2 m₂ own hv ⟨rfl, hzs⟩ hyl2 hg6 ho6 hoC hB hown hIown hoff2 hCD hlist F8 N8
    obtain ⟨x, tx, rfl, hxi⟩ := ints_at (keepA ()) (by simpa using hv)
    simp only [List.cons_append, List.nil_append] at N8
    refine wpAny_tests_nil ?_
    simp only [if_true]
    have keepZ : Unit → StrsAre zs _ := fun _ => hzs
    clear hzs
    k_steps
    refine stop_elim ?_
    have hV := hkV x (List.mem_of_getElem? hxi)
    refine name_c rfl (by dsimp only [Around.deeper]; omega) (by dsimp only [Around.deeper]; omega) (X.keeps (by exact F8.keep)) (T.keeps (by exact F8.keep)) ⟨hV.1, hV.2.1⟩ (fun t9 s9 g9 => ?_)
    refine ⟨g9.gens.trans hg6, g9.os.trans ho6, _, frE F8 g9, newsE N8 g9, hoff2, rfl, ?_⟩
    rw [List.take_add_one, hxi]
    simp only [Option.toList_some, List.map_append, List.map_cons, List.map_nil]
    exact StrsAre.app (keepZ ()) (.cons _ _ .nil)
  rintro Dn s5 zs news' ⟨rfl, hzs⟩ hg5 ho5 F5 N5 hoff5 hD5
  try dsimp only at hg5 ho5
  have hzs' : StrsAre zs (ks.map nameOf) := by
    rw [List.take_of_length_le] at hzs
    · exact hzs
    · simp only [List.size_toArray]; omega
  have keepZ : Unit → StrsAre zs (ks.map nameOf) := fun _ => hzs'
  clear hzs hzs'
  refine wpAny_execs_cons ?_
  try dsimp only
  k_steps
  refine stop_elim ?_
  refine comp_assign (by with_unfolding_all rfl) (by with_unfolding_all rfl) rfl (by decide) ?_
  k_steps
  refine stop_elim ?_
  have hd1 := N5 _ (.tail _ (.head _))
  refine comp_list (items := as.toArray) rfl (by exact ⟨_, hd1.1, rfl, _, rfl⟩) (Ne.symm hd1.2.1) ?_ (by decide) rfl rfl F5 N5 (fun i ts news₁ => news₁ = ((Dn, lst zs) :: (Da, listOf as.toArray na) :: (De, lst us) :: (c5, seqObj "list" vs5.toArray e5) :: (L + 1, ocl) :: tps) ∧ StrsAre ts ((ks.take i).map fun c => ansC c cs)) ⟨rfl, .nil⟩ ?_ (done_assignL rfl rfl rfl ?_)
  · simp only [List.size_toArray]
    rw [sizeLine_eq]; omega
  · rintro i v ts news₁ s₂ C oC D2 m₂ own hv ⟨rfl, hts⟩ hyl2 hg6 ho6 hoC hB hown hIown hoff2 hCD hlist F8 N8
    obtain ⟨x, tx, rfl, hxi⟩ := ints_at (keepA ()) (by simpa using hv)
    simp only [List.cons_append, List.nil_append] at N8
    refine wpAny_tests_nil ?_
    simp only [if_true]
    have keepT : Unit → StrsAre ts _ := fun _ => hts
    clear hts
    have hci := keepC ()
    k_steps
    · rename ((cs.any fun y => y == x) = true) => hany
      refine ⟨hg6, ho6, _, F8, N8, hoff2, rfl, ?_⟩
      rw [List.take_add_one, hxi]
      simp only [Option.toList_some, List.map_append, List.map_cons, List.map_nil]
      have : ansC x cs = Str.ofString "1" := by
        unfold ansC
        rw [if_pos]
        refine .inl ?_
        obtain ⟨y, hy, e⟩ := List.any_eq_true.mp hany
        rw [← eq_of_beq e]; exact hy
      rw [this]
      exact StrsAre.app (keepT ()) (.cons _ _ .nil)
    · rename ((cs.any fun y => y == x) = false) => hany
      refine stop_elim ?_
      have hnot : x ∉ cs := fun hq => by
        have := List.any_eq_false.mp hany x hq
        simp at this
      have hlc := N8 _ (.tail _ (.tail _ (.tail _ (.tail _ (.tail _ (.head _))))))
      refine above_c rfl (by dsimp only [Around.deeper]; omega) (by dsimp only [Around.deeper]; omega) (X.keeps (by exact F8.keep)) (T.keeps (by exact F8.keep)) (by exact ⟨_, hlc.1, rfl, _, rfl⟩) (keepC ()) (by omega) (fun t9 s9 g9 => ?_)
      have F9 := frE F8 g9
      have N9 := newsE N8 g9
      clear F8 N8
      k_steps
      · rename (0 < aboveOf x cs) => hpos
        refine ⟨g9.gens.trans hg6, g9.os.trans ho6, _, F9, N9, hoff2, rfl, ?_⟩
        rw [List.take_add_one, hxi]
        simp only [Option.toList_some, List.map_append, List.map_cons, List.map_nil]
        have : ansC x cs = Str.ofString "1" := by unfold ansC; rw [if_pos (.inr hpos)]
        rw [this]
        exact StrsAre.app (keepT ()) (.cons _ _ .nil)
      · rename (¬ 0 < aboveOf x cs) => hpos
        refine ⟨g9.gens.trans hg6, g9.os.trans ho6, _, F9, N9, hoff2, rfl, ?_⟩
        rw [List.take_add_one, hxi]
        simp only [Option.toList_some, List.map_append, List.map_cons, List.map_nil]
        have : ansC x cs = Str.ofString "0" := by unfold ansC; rw [if_neg]; exact fun q => q.elim hnot hpos
        rw [this]
        exact StrsAre.app (keepT ()) (.cons _ _ .nil)
  rintro Dw s6 ts news' ⟨rfl, hts⟩ hg6 ho6 F6 N6 hoff6 hD6
  try dsimp only at hg6 ho6
  have hts' : StrsAre ts (ks.map fun c => ansC c cs) := by
    rw [List.take_of_length_le] at hts
    · exact hts
    · simp only [List.size_toArray]; omega
  have keepT : Unit → StrsAre ts (ks.map fun c => ansC c cs) := fun _ => hts'
  clear hts hts' F5 N5
  refine wpAny_execs_cons ?_
  try dsimp only
  k_steps
  refine stop_elim ?_
  refine comp_assign (by with_unfolding_all rfl) (by with_unfolding_all rfl) rfl (by decide) ?_
  k_steps
  refine stop_elim ?_
  have hd6 := N6 _ (.tail _ (.tail _ (.tail _ (.head _))))
  have hul := (keepU ()).length
  rw [List.length_map] at hul
  refine comp_tups (vs := us) (tps := tps) (out := cs.map fun c => (nameOf c, aboveO c cs)) rfl (by exact ⟨_, hd6.1, rfl, _, rfl⟩) (keepU ()) (fun p hp => ?_) (Ne.symm hd6.2.1) (by rw [sizeLine_eq]; omega) (by decide) rfl rfl rfl (by decide) F6 N6 (fun i zs' news₁ => news₁ = ((Dw, lst ts) :: (Dn, lst zs) :: (Da, listOf as.toArray na) :: (De, lst us) :: (c5, seqObj "list" vs5.toArray e5) :: (L + 1, ocl) :: tps) ∧ StrsAre zs' (((cs.take i).filter fun c => decide (¬ aboveOf c cs > 0)).map nameOf)) ⟨rfl, .nil⟩ ?_ (done_assignL2 rfl rfl rfl ?_)
  · have := N6 p (.tail _ (.tail _ (.tail _ (.tail _ (.tail _ (.tail _ hp))))))
    exact ⟨this.1, this.2.1⟩
  · rintro i z u v₂ o zs₂ news₁ s₂ C oC D2 m₂ own hout hov ⟨rfl, hzs⟩ hyl2 hg8 ho8 hoC hmx hmy hoff2 hCD F8 N8
    simp only [List.cons_append, List.nil_append] at N8
    have keepS : Unit → StrsAre zs₂ _ := fun _ => hzs
    clear hzs
    obtain ⟨c, hcx, hzo⟩ : ∃ c, cs[i]? = some c ∧ (nameOf c, aboveO c cs) = (z, o) := by
      rw [List.getElem?_map] at hout
      cases hq : cs[i]? with
      | none => rw [hq] at hout; cases hout
      | some c => rw [hq] at hout; exact ⟨c, rfl, by simpa using hout⟩
    obtain ⟨rfl, rfl⟩ := Prod.mk.inj hzo
    clear hout hzo
    have hstep : ∀ b : Bool, decide (¬ aboveOf c cs > 0) = b → ((cs.take (i + 1)).filter fun c => decide (¬ aboveOf c cs > 0)).map nameOf = ((cs.take i).filter fun c => decide (¬ aboveOf c cs > 0)).map nameOf ++ if b then [nameOf c] else [] := by
      intro b hb
      rw [List.take_add_one, hcx, List.filter_append, List.map_append]
      simp only [Option.toList_some, List.filter_cons, List.filter_nil, hb]
      cases b <;> simp
    generalize hoo : aboveO c cs = oo at hov
    cases hov with
    | none =>
      have hb : decide (¬ aboveOf c cs > 0) = true := by
        unfold aboveO at hoo
        split at hoo
        · cases hoo
        · rename_i q; exact decide_eq_true q
      k_steps
      refine ⟨hg8, ho8, _, F8, N8, hoff2, rfl, ?_⟩
      rw [hstep true hb]
      exact StrsAre.app (keepS ()) (.cons _ _ .nil)
    | str y uy =>
      have hb : decide (¬ aboveOf c cs > 0) = false := by
        unfold aboveO at hoo
        split at hoo
        · rename_i q; exact decide_eq_false (fun z => z q)
        · cases hoo
      k_steps
      refine ⟨hg8, ho8, _, F8, N8, hoff2, rfl, ?_⟩
      rw [hstep false hb]
      simpa using keepS ()
  rintro Dt s7 ps news' ⟨rfl, hps⟩ hg7 ho7 F7 N7 hoff7 hD7
  try dsimp only at hg7 ho7
  have hps' : StrsAre ps ((topsC cs).map nameOf) := by
    rw [List.take_of_length_le (by simp)] at hps
    exact hps
  clear hps F6 N6
  have key := segE (w := w) (dp := dp) (fr := fr) (gd := gd) (un := un) (Q := Q) (L := L) (tps := tps) rfl hdp hu X T (by exact F7) (fun p hp => N7 p (by
    simp only [List.mem_cons] at hp ⊢
    rcases hp with e | e | e | e | e <;> simp [e])) (hg7.trans (hg6.trans (hg5.trans hg))) (ho7.trans (ho6.trans (ho5.trans hos))) hps' (keepT ()) (keepZ ()) (keepU ()) hkl hkV hcV hcl11 hsort h75 h100 h
  exact key
end
-- part W3
section
open LCg
local macro_rules | `(tactic| walk_at "inplaceOp Add ref ref") => `(tactic| (refine stop_intro ?_))
theorem segC {w : World} {mean mg mb} {dp : Nat} {fr : Option (List Env)} {gd : Option (List Code)} {un : Nat} {s s4 : Shared} {Q : Value → Shared → Prop} {L De c5 : Addr} {us vs5 : List Value} {e5 : Nat} {ocl : Obj} {tps : List (Addr × Obj)} {m0 : PySem.Str → Option Value} {cs : List Int}
    {name qual : PySem.Str} {params : Arguments} {body : List Stmt} {scope : Scope} {dV kV doc pm cdv ct oc : Value} {an od : Option Addr} {osl : Array (Option Value)}
    (ho : (hd.heap_39 w.params).lookup 142 = some ⟨oc, od, .func (fnOf name qual params body scope dV kV doc pm an cdv ct), osl⟩)
    (hdp : dp + 40 < recursionLimit) (hu : un + 600 < cLine)
    (X : (hd.heap_39 w.params).In s.heap) (T : Tp mean mg mb s.heap)
    (F : Fr s.heap L s4.heap (fun z => if z = Str.ofString "due" then some (.ref De) else m0 z))
    (N : News s.heap L s4.heap ((De, lst us) :: (c5, seqObj "list" vs5.toArray e5) :: (L + 1, ocl) :: tps))
    (hcl : ocl.data = Data.cell (some (.ref c5))) (hg : s4.gens = s.gens) (hos : s4.os = s.os)
    (hcs : IntsAre vs5 cs) (hus : TupsAre tps us (cs.map fun c => (nameOf c, aboveO c cs)))
    (hcV : ∀ c ∈ cs, Vd c) (hcl11 : cs.length ≤ 11) (hsort : cs.Pairwise (· < ·)) (h75 : 75 ∈ cs) (h100 : 100 ∈ cs)
    (h : ∀ s', Gs s s' → Q (.bool true) s') :
    wpAny (model PySem.Challenge.rw_ny0065_01.row.prog w) (Around.deeper ⟨none, dp, fr, gd, un⟩ (envOfC qual scope L 142 cdv)) (execs (body.drop 5) (envOfC qual scope L 142 cdv)) (fun fl s' => Q (match fl with | .ret v => v | _ => .none) s') (fun _ _ => False) s4 := by
  revert X ho; k_fill; intro ho X
  refine unlock (P := fun qual body scope cdv => wpAny (model PySem.Challenge.rw_ny0065_01.row.prog w) (Around.deeper ⟨none, dp, fr, gd, un⟩ (envOfC qual scope L 142 cdv)) (execs (body.drop 5) (envOfC qual scope L 142 cdv)) (fun fl s' => Q (match fl with | .ret v => v | _ => .none) s') (fun _ _ => False) s4) ho rfl ?_
  clear ho
  simp only [List.drop_succ_cons, List.drop_zero]
  try k_fold
  have keepU : Unit → TupsAre tps us _ := fun _ => hus
  have keepC : Unit → IntsAre vs5 cs := fun _ => hcs
  have hvl5 := hcs.length
  clear hus hcs
  refine wpAny_execs_cons ?_
  try dsimp only
  k_steps
  refine stop_elim ?_
  refine comp_eval (by with_unfolding_all rfl) rfl (by decide) ?_
  k_steps
  refine stop_elim ?_
  have hd1 := N _ (.tail _ (.head _))
  refine comp_list (items := vs5.toArray) rfl (by exact ⟨_, hd1.1, rfl, _, rfl⟩) (Ne.symm hd1.2.1) ?_ (by decide) rfl rfl F N (fun i zs news₁ => news₁ = ((De, lst us) :: (c5, seqObj "list" vs5.toArray e5) :: (L + 1, ocl) :: tps) ∧ IntsAre zs ((cs.take i).map fun c => c - c % 25)) ⟨rfl, .nil⟩ ?_ (done_eval ?_)
  · simp only [List.size_toArray]
    rw [sizeLine_eq]; omega
  · rintro i v zs news₁ s₂ C oC D2 m₂ own hv ⟨rfl, hzs⟩ hyl2 hg6 ho6 hoC hB hown hIown hoff2 hCD hlist F8 N8
    obtain ⟨x, tx, rfl, hxi⟩ := ints_at (keepC ()) (by simpa using hv)
    simp only [List.cons_append, List.nil_append] at N8
    refine wpAny_tests_nil ?_
    simp only [if_true]
    have keepZ : Unit → IntsAre zs _ := fun _ => hzs
    clear hzs
    k_steps
    refine ⟨hg6, ho6, _, F8, N8, hoff2, rfl, ?_⟩
    rw [List.take_add_one, hxi, Int.fmod_eq_emod_of_nonneg _ (show (0:Int) ≤ 25 by decide)]
    simp only [Option.toList_some, List.map_append, List.map_cons, List.map_nil]
    exact (keepZ ()).append (.cons _ _ .nil)
  rintro D3 s5 zs news' ⟨rfl, hzs⟩ hg5 ho5 F5 N5 hoff5 hD5
  have hzs1 : IntsAre zs (cs.map fun c => c - c % 25) := by
    rw [List.take_of_length_le] at hzs
    · exact hzs
    · simp only [List.size_toArray]; omega
  clear hzs
  have hci := keepC ()
  have hl25 : (cs.map fun c => c - c % 25).length = cs.length := List.length_map ..
  have keepZ1 : Unit → IntsAre zs (cs.map fun c => c - c % 25) := fun _ => hzs1
  k_steps
  refine stop_elim ?_
  rename Fr _ _ _ _ => F6
  rename News _ _ _ _ => N6
  rename_i D6 ws6 h6 hI6 l6
  refine comp_eval (by with_unfolding_all rfl) rfl (by decide) ?_
  k_steps
  refine stop_elim ?_
  have hd6 := N6 _ (.tail _ (.tail _ (.tail _ (.head _))))
  refine comp_list (items := vs5.toArray) rfl (by exact ⟨_, hd6.1, rfl, _, rfl⟩) (Ne.symm hd6.2.1) ?_ (by decide) rfl rfl F6 N6 (fun i zs' news₁ => news₁ = ((D6, listOf ws6.toArray 0) :: (D3, lst zs) :: (De, lst us) :: (c5, seqObj "list" vs5.toArray e5) :: (L + 1, ocl) :: tps) ∧ IntsAre zs' ((cs.take i).map fun c => c - c % 25 + 15)) ⟨rfl, .nil⟩ ?_ (done_eval ?_)
  · simp only [List.size_toArray]
    rw [sizeLine_eq]; omega
  · rintro i v zs2 news₁ s₂ C oC D2 m₂ own hv ⟨rfl, hzs⟩ hyl2 hg6 ho6 hoC hB hown hIown hoff2 hCD hlist F8 N8
    obtain ⟨x, tx, rfl, hxi⟩ := ints_at (keepC ()) (by simpa using hv)
    simp only [List.cons_append, List.nil_append] at N8
    refine wpAny_tests_nil ?_
    simp only [if_true]
    have keepZ : Unit → IntsAre zs2 _ := fun _ => hzs
    clear hzs
    k_steps
    refine ⟨hg6, ho6, _, F8, N8, hoff2, rfl, ?_⟩
    rw [List.take_add_one, hxi, Int.fmod_eq_emod_of_nonneg _ (show (0:Int) ≤ 25 by decide)]
    simp only [Option.toList_some, List.map_append, List.map_cons, List.map_nil]
    exact (keepZ ()).append (.cons _ _ .nil)
  rintro D7 s7 zs7 news' ⟨rfl, hzs⟩ hg7 ho7 F7 N7 hoff7 hD7
  have hzs7 : IntsAre zs7 (cs.map fun c => c - c % 25 + 15) := by
    rw [List.take_of_length_le] at hzs
    · exact hzs
    · simp only [List.size_toArray]; omega
  clear hzs hzs1 F6 N6
  have hl26 : (cs.map fun c => c - c % 25 + 15).length = cs.length := List.length_map ..
  k_steps
  refine stop_elim ?_
  rename Fr _ _ _ _ => F8
  rename News _ _ _ _ => N8
  rename_i D8 ws8 h8 hI8 l8 h8'
  refine wpAny_execs_cons ?_
  try dsimp only
  k_steps
  refine stop_elim ?_
  refine comp_eval (by with_unfolding_all rfl) rfl (by decide) ?_
  k_steps
  refine stop_elim ?_
  have hd8 := N8 _ (.tail _ (.tail _ (.tail _ (.tail _ (.tail _ (.head _))))))
  refine comp_list (items := vs5.toArray) rfl (by exact ⟨_, hd8.1, rfl, _, rfl⟩) (Ne.symm hd8.2.1) ?_ (by decide) rfl rfl F8 N8 (fun i zs' news₁ => news₁ = ((D8, listOf ws8.toArray 0) :: (D7, lst zs7) :: (D6, listOf ws6.toArray 0) :: (D3, lst zs) :: (De, lst us) :: (c5, seqObj "list" vs5.toArray e5) :: (L + 1, ocl) :: tps) ∧ IntsAre zs' (((cs.take i).filter fun c => decide (c % 25 > 0)).map fun c => c - c % 5 + 3)) ⟨rfl, .nil⟩ ?_ (done_eval ?_)
  · simp only [List.size_toArray]
    rw [sizeLine_eq]; omega
  · rintro i v zs2 news₁ s₂ C oC D2 m₂ own hv ⟨rfl, hzs⟩ hyl2 hg6 ho6 hoC hB hown hIown hoff2 hCD hlist F9 N9
    obtain ⟨x, tx, rfl, hxi⟩ := ints_at (keepC ()) (by simpa using hv)
    simp only [List.cons_append, List.nil_append] at N9
    have keepZ : Unit → IntsAre zs2 _ := fun _ => hzs
    clear hzs
    have hstep : ∀ b : Bool, decide (x % 25 > 0) = b → ((cs.take (i + 1)).filter fun c => decide (c % 25 > 0)).map (fun c => c - c % 5 + 3) = ((cs.take i).filter fun c => decide (c % 25 > 0)).map (fun c => c - c % 5 + 3) ++ if b then [x - x % 5 + 3] else [] := by
      intro b hb
      rw [List.take_add_one, hxi, List.filter_append, List.map_append]
      simp only [Option.toList_some, List.filter_cons, List.filter_nil, hb]
      cases b <;> simp
    have em25 : x.fmod 25 = x % 25 := Int.fmod_eq_emod_of_nonneg _ (show (0:Int) ≤ 25 by decide)
    have em5 : x.fmod 5 = x % 5 := Int.fmod_eq_emod_of_nonneg _ (show (0:Int) ≤ 5 by decide)
    k_steps
    · rename (0 < x.fmod 25) => hpos
      rw [em25] at hpos
      refine ⟨hg6, ho6, _, F9, N9, hoff2, rfl, ?_⟩
      rw [hstep true (decide_eq_true hpos), em5]
      exact (keepZ ()).append (.cons _ _ .nil)
    · rename (¬ 0 < x.fmod 25) => hpos
      rw [em25] at hpos
      refine ⟨hg6, ho6, _, F9, N9, hoff2, rfl, ?_⟩
      rw [hstep false (decide_eq_false hpos)]
      simpa using keepZ ()
  rintro D9 s9 zs9 news' ⟨rfl, hzs⟩ hg9 ho9 F9 N9 hoff9 hD9
  have hzs9 : IntsAre zs9 ((cs.filter fun c => decide (c % 25 > 0)).map fun c => c - c % 5 + 3) := by
    rw [List.take_of_length_le] at hzs
    · exact hzs
    · simp only [List.size_toArray]; omega
  clear hzs hzs7 F8 N8
  have hl27 : ((cs.filter fun c => decide (c % 25 > 0)).map fun c => c - c % 5 + 3).length ≤ cs.length := by rw [List.length_map]; exact List.length_filter_le ..
  k_steps
  refine stop_elim ?_
  have hw8 := hI8.length
  have hz9 := hzs9.length
  rw [List.length_append, List.length_append, hl25, hl26] at hw8
  have hd9 := N9 _ (.head _)
  have hd8' := N9 _ (.tail _ (.head _))
  refine list_iadd (by exact hd8'.1) (by exact hd9.1) (by simp only [List.size_toArray]; omega) (fun h10 n10 ho10 hk10 => ?_)
  have F10 := but_fr2 F9 hd8'.2.1 hd8'.2.2 hk10
  have alt : ∀ {l : List (Addr × Obj)}, AllLt D8 l → ∀ p ∈ l, p.1 ≠ D8 := by
    intro l
    induction l with
    | nil => intro _ p hp; cases hp
    | cons q r ih => intro h p hp; rcases List.mem_cons.mp hp with rfl | hp; exact Nat.ne_of_lt h.1; exact ih h.2 p hp
  obtain ⟨q1, q2, q3, q4, q5, q6, q7⟩ := l8
  have N10 := news_but1 N9 ho10 hk10 (pre := [(D9, lst zs9)]) (post := (D7, lst zs7) :: (D6, listOf ws6.toArray 0) :: (D3, lst zs) :: (De, lst us) :: (c5, seqObj "list" vs5.toArray e5) :: (L + 1, ocl) :: tps) rfl (fun p hp => by rw [List.mem_singleton.mp hp]; exact Ne.symm (hoff9 (D8, listOf ws8.toArray 0) (.head _))) ?_
  · simp only [List.cons_append, List.nil_append, List.append_toArray] at N10
    clear F9 N9 hd9 hd8'
    k_steps
    refine stop_elim ?_
    rename Fr _ _ _ _ => F11
    rename News _ _ _ _ => N11
    rw [map_twice] at F11
    have hlen44 : (cs ++ cs.map (fun c => c - c % 25) ++ cs.map (fun c => c - c % 25 + 15) ++ (cs.filter fun c => decide (c % 25 > 0)).map (fun c => c - c % 5 + 3)).length ≤ 44 := by
      rw [List.length_append, List.length_append, List.length_append, hl25, hl26]
      omega
    have hall : ∀ c ∈ cs ++ cs.map (fun c => c - c % 25) ++ cs.map (fun c => c - c % 25 + 15) ++ (cs.filter fun c => decide (c % 25 > 0)).map (fun c => c - c % 5 + 3), Vd c := by
      intro c hc
      simp only [List.mem_append, List.mem_map, List.mem_filter] at hc
      rcases hc with ((hc | ⟨x, hx, rfl⟩) | ⟨x, hx, rfl⟩) | ⟨x, ⟨hx, hp⟩, rfl⟩
      · exact hcV c hc
      · exact vc_V _ (asked_V x (vc_of (hcV x hx))).1
      · exact vc_V _ (asked_V x (vc_of (hcV x hx))).2.1
      · exact vc_V _ ((asked_V x (vc_of (hcV x hx))).2.2 (of_decide_eq_true hp))
    rename_i h11
    have key := fun tk => segD (s4 := { s9 with heap := h11, toks := tk }) (w := w) (dp := dp) (fr := fr) (gd := gd) (un := un) (Q := Q) (L := L) (Da := D8) (De := De) (c5 := c5) (as := ws8 ++ zs9) (us := us) (vs5 := vs5) (na := n10) (e5 := e5) (ocl := ocl) (tps := tps) (ks := cs ++ cs.map (fun c => c - c % 25) ++ cs.map (fun c => c - c % 25 + 15) ++ (cs.filter fun c => decide (c % 25 > 0)).map (fun c => c - c % 5 + 3)) rfl hdp hu X T (by exact F11) (fun p hp => N11 p (by
      simp only [List.mem_cons] at hp ⊢
      rcases hp with e | e | e | e | e <;> simp [e])) hcl (hg9.trans (hg7.trans (hg5.trans hg))) (ho9.trans (ho7.trans (ho5.trans hos))) (hI8.append hzs9) hlen44 hall (keepC ()) (keepU ()) hcV hcl11 hsort h75 h100 h
    exact key _
  · intro p hp
    simp only [List.mem_cons] at hp
    rcases hp with rfl | rfl | rfl | rfl | rfl | rfl | hp
    · exact Nat.ne_of_lt q1
    · exact Nat.ne_of_lt q2
    · exact Nat.ne_of_lt q3
    · exact Nat.ne_of_lt q4
    · exact Nat.ne_of_lt q5
    · exact Nat.ne_of_lt q6
    · exact alt q7 p hp
end
-- part W2
section
open LCg
theorem segB {w : World} {mean mg mb} {dp : Nat} {fr : Option (List Env)} {gd : Option (List Code)} {un : Nat} {s s4 : Shared} {Q : Value → Shared → Prop} {L De D6 c5 D : Addr} {us zs6 vs5 ys : List Value} {e5 : Nat} {ocl : Obj} {tps : List (Addr × Obj)} {m0 : PySem.Str → Option Value} {ds cs : List Int}
    {name qual : PySem.Str} {params : Arguments} {body : List Stmt} {scope : Scope} {dV kV doc pm cdv ct oc : Value} {an od : Option Addr} {osl : Array (Option Value)}
    (ho : (hd.heap_39 w.params).lookup 142 = some ⟨oc, od, .func (fnOf name qual params body scope dV kV doc pm an cdv ct), osl⟩)
    (hdp : dp + 40 < recursionLimit) (hu : un + 600 < cLine)
    (X : (hd.heap_39 w.params).In s.heap) (T : Tp mean mg mb s.heap)
    (F : Fr s.heap L s4.heap (fun z => if z = Str.ofString "due" then some (.ref De) else if z = Str.ofString "fronts" then some (.ref D6) else if z = Str.ofString "drawn" then some (.ref D) else m0 z))
    (N : News s.heap L s4.heap ((De, lst us) :: (D6, lst zs6) :: (c5, seqObj "list" vs5.toArray e5) :: (D, lst ys) :: (L + 1, ocl) :: tps))
    (hcl : ocl.data = Data.cell (some (.ref c5))) (hg : s4.gens = s.gens) (hos : s4.os = s.os)
    (hys : IntsAre ys ds) (hcs : IntsAre vs5 cs) (hus : TupsAre tps us (cs.map fun c => (nameOf c, aboveO c cs)))
    (hds : ∀ c ∈ ds, Vd c) (hdl : ds.length ≤ 11) (hcl11 : cs.length ≤ 11) (hsort : cs.Pairwise (· < ·)) (hmem : ∀ x, x ∈ cs ↔ x ∈ ds) (h75 : 75 ∈ cs) (h100 : 100 ∈ cs)
    (h : ∀ s', Gs s s' → Q (.bool true) s') :
    wpAny (model PySem.Challenge.rw_ny0065_01.row.prog w) (Around.deeper ⟨none, dp, fr, gd, un⟩ (envOfC qual scope L 142 cdv)) (execs (body.drop 4) (envOfC qual scope L 142 cdv)) (fun fl s' => Q (match fl with | .ret v => v | _ => .none) s') (fun _ _ => False) s4 := by
  revert X ho; k_fill; intro ho X
  refine unlock (P := fun qual body scope cdv => wpAny (model PySem.Challenge.rw_ny0065_01.row.prog w) (Around.deeper ⟨none, dp, fr, gd, un⟩ (envOfC qual scope L 142 cdv)) (execs (body.drop 4) (envOfC qual scope L 142 cdv)) (fun fl s' => Q (match fl with | .ret v => v | _ => .none) s') (fun _ _ => False) s4) ho rfl ?_
  clear ho
  simp only [List.drop_succ_cons, List.drop_zero]
  try k_fold
  have keepU : Unit → TupsAre tps us _ := fun _ => hus
  have keepC : Unit → IntsAre vs5 cs := fun _ => hcs
  clear hus hcs
  refine wpAny_execs_cons ?_
  try dsimp only
  k_steps
  refine stop_elim ?_
  refine comp_eval (by with_unfolding_all rfl) rfl (by decide) ?_
  have hyl := hys.length
  have keepY : Unit → IntsAre ys ds := fun _ => hys
  clear hys
  k_steps
  refine stop_elim ?_
  have hd1 := N _ (.tail _ (.tail _ (.tail _ (.head _))))
  refine comp_list (items := ys.toArray) rfl (by exact ⟨_, hd1.1, rfl, _, rfl⟩) (Ne.symm hd1.2.1) ?_ (by decide) rfl rfl F N (fun i zs news₁ => news₁ = ((De, lst us) :: (D6, lst zs6) :: (c5, seqObj "list" vs5.toArray e5) :: (D, lst ys) :: (L + 1, ocl) :: tps) ∧ StrsAre zs ((ds.take i).map nameOf)) ⟨rfl, .nil⟩ ?_ (done_eval ?_)
  · simp only [List.size_toArray]
    rw [sizeLine_eq]; omega
  · rintro i v zs news₁ s₂ C oC D2 m₂ own hv ⟨rfl, hzs⟩ hyl2 hg6 ho6 hoC hB hown hIown hoff2 hCD hlist F8 N8
    obtain ⟨x, tx, rfl, hxi⟩ := ints_at (keepY ()) (by simpa using hv)
    simp only [List.cons_append, List.nil_append] at N8
    refine wpAny_tests_nil ?_
    simp only [if_true]
    have keepZ : Unit → StrsAre zs _ := fun _ => hzs
    clear hzs
    k_steps
    refine stop_elim ?_
    have hV := hds x (List.mem_of_getElem? hxi)
    refine name_c rfl (by dsimp only [Around.deeper]; omega) (by dsimp only [Around.deeper]; omega) (X.keeps (by exact F8.keep)) (T.keeps (by exact F8.keep)) ⟨hV.1, hV.2.1⟩ (fun t9 s9 g9 => ?_)
    refine ⟨g9.gens.trans hg6, g9.os.trans ho6, _, frE F8 g9, newsE N8 g9, hoff2, rfl, ?_⟩
    rw [List.take_add_one, hxi]
    simp only [Option.toList_some, List.map_append, List.map_cons, List.map_nil]
    exact StrsAre.app (keepZ ()) (.cons _ _ .nil)
  rintro D3 s5 zs news' ⟨rfl, hzs⟩ hg5 ho5 F5 N5 hoff5 hD5
  have hzs' : StrsAre zs (ds.map nameOf) := by
    rw [List.take_of_length_le] at hzs
    · exact hzs
    · simp only [List.size_toArray]; omega
  have keepZ : Unit → StrsAre zs (ds.map nameOf) := fun _ => hzs'
  clear hzs hzs'
  k_steps
  refine stop_elim ?_
  have hd5 := N5 _ (.head _)
  refine row_c rfl (by dsimp only [Around.deeper]; omega) (by dsimp only [Around.deeper]; omega) (X.keeps (by exact F5.keep)) (T.keeps (by exact F5.keep)) (by exact ⟨_, hd5.1, rfl, _, rfl⟩) (keepZ ()) (by simp; omega) (fun l6 ws6 n6 s6 g6 hl6 hw6 hn6 => ?_)
  rw [row_ok hds hsort hmem] at hw6
  have F6 := frE F5 g6
  have N6 := newsE N5 g6
  have keepW : Unit → StrsAre ws6 (cs.map nameOf) := fun _ => hw6
  have hl6' : s6.heap.IsList l6 ws6.toArray := ⟨_, hl6, rfl, _, rfl⟩
  have hcV : ∀ c ∈ cs, Vd c := fun c hc => hds c ((hmem c).mp hc)
  clear hw6
  k_steps
  refine stop_elim ?_
  refine piled_c rfl (by dsimp only [Around.deeper]; omega) (by dsimp only [Around.deeper]; omega) (X.keeps (by exact F6.keep)) (T.keeps (by exact F6.keep)) (by exact hl6') (keepW ()) (by simp; omega) ?_ ?_ ?_ (fun l7 s7 as7 g7 hr7 => ?_)
  · intro x hx; obtain ⟨c, hc, rfl⟩ := List.mem_map.mp hx; exact nameOk (hcV c hc)
  · intro x hx; obtain ⟨c, hc, rfl⟩ := List.mem_map.mp hx; exact nameLen (hcV c hc)
  · intro x hx; obtain ⟨c, hc, rfl⟩ := List.mem_map.mp hx; exact nameNs (hcV c hc)
  rw [piled_ok hsort hcV] at hr7
  have F7 := frE F6 g7
  have N7 := newsE N6 g7
  k_steps
  refine stop_elim ?_
  have hd7 := N7 _ (.tail _ (.head _))
  have hpo : ∀ p ∈ (cs.map fun c => (nameOf c, aboveO c cs)), PyData.strOk p.1 = true ∧ ∀ x, p.2 = some x → PyData.strOk x = true := by
    intro p hp
    obtain ⟨c, hc, rfl⟩ := List.mem_map.mp hp
    refine ⟨nameOk (hcV c hc), fun x hx => ?_⟩
    dsimp only at hx
    unfold aboveO at hx
    split at hx
    · rename_i q
      have hm : aboveOf c cs ∈ cs := by
        rcases (above_pos (hcV c hc).1).mp q with q | q
        · unfold aboveOf; rw [if_pos q]; exact q.2
        · unfold aboveOf
          split
          · rename_i r; exact r.2
          · exact q.2
      cases hx
      exact nameOk (hcV _ hm)
    · cases hx
  refine SeqAt.compareNe_shaped (by exact hr7) (Reads.list (by exact hd7.1) rfl rfl (by exact TupsAre.reads (keepU ()) fun p hp => (N7 p (.tail _ (.tail _ (.tail _ (.tail _ (.tail _ (.tail _ hp))))))).1)) (shaped_pairs hpo) (shaped_pairs hpo) (by dsimp only [Around.deeper]; omega) ?_
  simp only [PyData.eqv, eqv_pairs, Bool.not_true]
  clear hr7 hd7 hd5 hd1
  k_steps
  refine stop_elim ?_
  have key := segC (w := w) (dp := dp) (fr := fr) (gd := gd) (un := un) (Q := Q) (L := L) (De := De) (c5 := c5) (us := us) (vs5 := vs5) (e5 := e5) (ocl := ocl) (tps := tps) rfl hdp hu X T (by exact F7) (fun p hp => N7 p (by
    simp only [List.mem_cons] at hp ⊢
    rcases hp with e | e | e | e <;> simp [e])) hcl (g7.gens.trans (g6.gens.trans (hg5.trans hg))) (g7.os.trans (g6.os.trans (ho5.trans hos))) (keepC ()) (keepU ()) hcV hcl11 hsort h75 h100 h
  exact key
end
end
-- part W1
section
open LCg
local macro_rules | `(tactic| walk_at "exec Assign cons ListComp") => `(tactic| (refine stop_intro ?_))
local macro_rules | `(tactic| walk_at "call type:set cons nil") => `(tactic| (refine stop_intro ?_))
local macro_rules | `(tactic| walk_at "call builtin:sorted cons nil") => `(tactic| (refine stop_intro ?_))
local macro_rules | `(tactic| walk_at "call type:zip") => `(tactic| (refine stop_intro ?_))
theorem law_c {w : World} {mean mg mb} {A : Around} {s : Shared} {Q E : Value → Shared → Prop} {a : Addr} {vs : List Value} {ns : List Int}
    (hh : A.handled = none) (hdp : A.depth + 40 < recursionLimit) (hu : A.units + 600 < cLine)
    (X : (hd.heap_39 w.params).In s.heap) (T : Tp mean mg mb s.heap)
    (hl : s.heap.IsList a vs.toArray) (hi : IntsAre vs ns) (hn63 : ns.length ≤ 63)
    (h : ∀ s', Gs s s' → Q (.bool true) s') :
    wpAny (model PySem.Challenge.rw_ny0065_01.row.prog w) A (call (.ref 142) [.ref a]) Q E s := by
  revert X; k_fill; intro X
  obtain ⟨_, dp, fr, gd, un⟩ := A
  dsimp only at hh hdp hu
  subst hh
  refine enterC X T.nolimit (f := 142) (binds := [(Str.ofString "script", .ref a)]) rfl (by k_is) (by dsimp only; omega) (BindsTo.of_eq rfl) rfl (by decide +kernel) rfl rfl rfl (fun L h₁ tk cells F N Y => ?_)
  k_cells Y
  try dsimp only
  try k_fold
  have hl1 := Fr.lst F hl
  have hvl : vs.length ≤ 63 := by rw [hi.length]; exact hn63
  have hvz : vs.toArray.size ≤ 63 := by simpa using hvl
  k_steps
  refine stop_elim ?_
  refine comp_assign (by with_unfolding_all rfl) (by with_unfolding_all rfl) rfl (by decide) ?_
  k_steps
  refine stop_elim ?_
  rename Fr _ _ _ _ => F2
  rename News _ _ _ _ => N2
  rename IntsAre _ ([19, 9, 6, 8, 4] ++ List.take 6 ns) => hI2
  rename Obj => oc
  rename (_ = Data.cell _) => hcl
  have N2' : News s.heap L _ [(L + 1, oc)] := fun p hp => N2 p (by simp at hp; subst hp; simp)
  have hd2 := N2 _ (.head _)
  have hl2 : Heap.IsList _ _ _ := ⟨_, hd2.1, rfl, _, rfl⟩
  refine comp_list rfl hl2 (Ne.symm hd2.2.1) ?_ (by decide) rfl rfl F2 N2' (fun i ys news₁ => news₁ = [(L + 1, oc)] ∧ IntsAre ys ((([19, 9, 6, 8, 4] ++ ns.take 6).take i).map codeOf)) ⟨rfl, .nil⟩ ?_ (done_assignL rfl rfl rfl ?_)
  · have := hI2.length
    simp only [List.size_toArray, List.length_append, List.length_take, List.length_cons, List.length_nil] at this ⊢
    rw [sizeLine_eq]; omega
  · rintro i v ys news₁ s₂ C oC D m₂ own hv ⟨rfl, hys⟩ hyl hg ho hoC hB hown hIown hoff hCD hlist F8 N8
    obtain ⟨x, tx, rfl, hxi⟩ := ints_at hI2 (by simpa using hv)
    simp only [List.cons_append, List.nil_append] at N8
    refine wpAny_tests_nil ?_
    simp only [if_true]
    have keepY : Unit → IntsAre ys _ := fun _ => hys
    k_steps
    refine stop_elim ?_
    refine code_c rfl (by dsimp only [Around.deeper]; omega) (by dsimp only [Around.deeper]; omega) (X.keeps (by exact F8.keep)) (T.keeps (by exact F8.keep)) (fun t9 s9 g9 => ?_)
    refine ⟨g9.gens.trans hg, g9.os.trans ho, [(L + 1, oc)], frGs F8 g9, newsGs N8 g9, hoff, rfl, ?_⟩
    rw [List.take_add_one, hxi]
    simp only [Option.toList_some, List.map_append, List.map_cons, List.map_nil]
    exact (keepY ()).append (.cons _ _ .nil)
  rintro D s' ys news' ⟨rfl, hys⟩ hg ho F3 N3 hoff hD
  dsimp only at hg ho
  have hys' : IntsAre ys (([19, 9, 6, 8, 4] ++ ns.take 6).map codeOf) := by
    rw [List.take_of_length_le] at hys
    · exact hys
    · have := hI2.length; simp only [List.size_toArray]; omega
  clear hys N2 N2' F2 hd2 hl2 hI2
  k_steps
  refine stop_elim ?_
  have hd3 := N3 _ (.head _)
  have hyl : ys.length ≤ 11 := by have := hys'.length; simp at this; omega
  refine set_ints rfl (by exact ⟨_, hd3.1, rfl, _, rfl⟩) hys' (by omega) (fun c4 s4 es4 ep4 t4 ms4 ho4 hn4 hf4 ht4 hi4 hnd4 hm4 hz4 g4 => ?_)
  have F4 := frGs F3 (by exact g4)
  have N4 := newsGs N3 (by exact g4)
  have keepY : Unit → IntsAre ys (([19, 9, 6, 8, 4] ++ ns.take 6).map codeOf) := fun _ => hys'
  clear hd3
  k_steps
  refine stop_elim ?_
  refine sorted_set rfl (by exact ho4) hf4 (.inr ht4) hi4 (by omega) (fun c5 s5 vs5 cs e5 ho5 hn5 hi5 hp5 hs5 hk5 hg5 hos5 => ?_)
  have F5 := F4.keeps hk5
  have N5 : News s.heap L s5.heap [(c5, seqObj "list" vs5.toArray e5), (D, lst ys), (L + 1, oc)] := fun p hp => by
    simp only [List.mem_cons, List.not_mem_nil, or_false] at hp
    rcases hp with rfl | rfl | rfl
    · exact ⟨ho5, fresh_of F4 _ hn5⟩
    · exact ⟨hk5 _ _ (N4 _ (.head _)).1, (N4 _ (.head _)).2⟩
    · exact ⟨hk5 _ _ (N4 _ (.tail _ (.head _))).1, (N4 _ (.tail _ (.head _))).2⟩
  k_steps
  refine stop_elim ?_
  refine comp_assign (by with_unfolding_all rfl) (by with_unfolding_all rfl) rfl (by decide) ?_
  k_steps
  refine stop_elim ?_
  rename Fr _ _ _ _ => F6
  rename News _ _ _ _ => N6
  rename (_ = Data.cell (some (Value.ref c5))) => hcl6
  rename Obj => oc6
  simp only [List.cons_append, List.nil_append] at N6
  have hd6 := N6 _ (.head _)
  have hcs : cs.length ≤ 11 := by have h1 := hp5.length_eq; have h2 := hi4.length; simp at h2; omega
  refine comp_list (items := vs5.toArray) rfl (by exact ⟨_, hd6.1, rfl, _, rfl⟩) (Ne.symm hd6.2.1) ?_ (by decide) rfl rfl F6 N6 (fun i zs news₁ => news₁ = [(c5, seqObj "list" vs5.toArray e5), (D, lst ys), (L + 1, oc6)] ∧ IntsAre zs ((cs.take i).map fun c => aboveOf c cs)) ⟨rfl, .nil⟩ ?_ (done_assignL rfl rfl rfl ?_)
  · have := hi5.length
    simp only [List.size_toArray]
    rw [sizeLine_eq]; omega
  · rintro i v zs news₁ s₂ C oC D2 m₂ own hv ⟨rfl, hzs⟩ hyl2 hg6 ho6 hoC hB hown hIown hoff2 hCD hlist F8 N8
    obtain ⟨x, tx, rfl, hxi⟩ := ints_at hi5 (by simpa using hv)
    simp only [List.cons_append, List.nil_append] at N8
    refine wpAny_tests_nil ?_
    simp only [if_true]
    have keepZ : Unit → IntsAre zs _ := fun _ => hzs
    have keepC : Unit → IntsAre vs5 cs := fun _ => hi5
    k_steps
    refine stop_elim ?_
    refine above_c rfl (by dsimp only [Around.deeper]; omega) (by dsimp only [Around.deeper]; omega) (X.keeps (by exact F8.keep)) (T.keeps (by exact F8.keep)) (by exact hlist) (keepC ()) (by omega) (fun t9 s9 g9 => ?_)
    refine ⟨g9.gens.trans hg6, g9.os.trans ho6, _, frGs F8 g9, newsGs N8 g9, hoff2, rfl, ?_⟩
    rw [List.take_add_one, hxi]
    simp only [Option.toList_some, List.map_append, List.map_cons, List.map_nil]
    exact (keepZ ()).append (.cons _ _ .nil)
  rintro D6 s6 zs6 news' ⟨rfl, hzs6⟩ hg6 ho6 F7 N7 hoff7 hD7
  dsimp only at hg6 ho6
  have hzs7 : IntsAre zs6 (cs.map fun c => aboveOf c cs) := by
    rw [List.take_of_length_le] at hzs6
    · exact hzs6
    · have := hi5.length; simp only [List.size_toArray]; omega
  clear hzs6
  k_steps
  refine stop_elim ?_
  refine comp_assign (by with_unfolding_all rfl) (by with_unfolding_all rfl) rfl (by decide) ?_
  k_steps
  refine stop_elim ?_
  have hok : ∀ c ∈ cs, 25 ≤ c ∧ c < 125 := fun c hc => by
    have h1 := (hm4 c).mp (hp5.mem_iff.mp hc)
    obtain ⟨x, _, rfl⟩ := List.mem_map.mp h1
    exact codeOf_ok x
  have hd7 := N7 _ (.head _)
  have hc7 := N7 _ (.tail _ (.head _))
  have hzl := hzs7.length
  have hvl5 := hi5.length
  simp only [List.length_map] at hzl
  refine comp_zip (xs := vs5.toArray) (ys := zs6.toArray) rfl (by exact ⟨_, hc7.1, rfl, _, rfl⟩) (by exact ⟨_, hd7.1, rfl, _, rfl⟩) (Ne.symm hc7.2.1) (Ne.symm hd7.2.1) (by simp only [List.size_toArray]; rw [sizeLine_eq]; omega) (by simp only [List.size_toArray]; omega) (by decide) rfl rfl rfl (by decide) F7 N7
    (fun i us news₁ => ∃ tps, news₁ = (D6, lst zs6) :: (c5, seqObj "list" vs5.toArray e5) :: (D, lst ys) :: (L + 1, oc6) :: tps ∧ TupsAre tps us ((cs.take i).map fun c => (nameOf c, aboveO c cs))) ⟨[], rfl, .nil⟩ ?_ (done_assignL2 rfl rfl rfl ?_)
  · rintro i v₁ v₂ us news₁ s₂ C oC D8 m₂ own hv1 hv2 ⟨tps, rfl, hus⟩ hul hg8 ho8 hoC hmx hmy hoff8 hCD hl81 hl82 F8 N8
    obtain ⟨x, tx, rfl, hxi⟩ := ints_at hi5 (by simpa using hv1)
    obtain ⟨y, ty, rfl, hyi⟩ := ints_at hzs7 (by simpa using hv2)
    obtain rfl : y = aboveOf x cs := by rw [List.getElem?_map, hxi] at hyi; simpa using hyi.symm
    have hxm : x ∈ cs := List.mem_of_getElem? hxi
    simp only [List.cons_append, List.nil_append] at N8
    refine wpAny_tests_nil ?_
    simp only [if_true]
    have keepU : Unit → TupsAre tps us _ := fun _ => hus
    clear hus
    k_steps
    refine stop_elim ?_
    refine name_c rfl (by dsimp only [Around.deeper]; omega) (by dsimp only [Around.deeper]; omega) (X.keeps (by exact F8.keep)) (T.keeps (by exact F8.keep)) (hok x hxm) (fun t9 s9 g9 => ?_)
    have F9 := frGs F8 (by exact g9)
    have N9 := newsGs N8 (by exact g9)
    have hab : aboveOf x cs > 0 → aboveOf x cs ∈ cs := by
      unfold aboveOf
      split
      · rename_i q; exact fun _ => q.2
      · split
        · rename_i q; exact fun _ => q.2
        · intro q; exact absurd q (by omega)
    have fin : ∀ (mm : PySem.Str → Option Value) (s₆ : Shared) (v2 : Value) (tA : Addr) (o2 : Option PySem.Str), s₆.gens = s6.gens → s₆.os = s6.os → Fr s.heap L s₆.heap mm → News s.heap L s₆.heap ((tA, { cls := .type "tuple", data := .seq #[.str (nameOf x) t9, v2] }) :: (C, oC) :: (D8, lst us) :: (D6, lst zs6) :: (c5, seqObj "list" vs5.toArray e5) :: (D, lst ys) :: (L + 1, oc6) :: (tps ++ own)) → OptV v2 o2 → (@LT.lt Nat _ C tA ∧ @LT.lt Nat _ D8 tA ∧ @LT.lt Nat _ D6 tA ∧ @LT.lt Nat _ c5 tA ∧ @LT.lt Nat _ D tA ∧ @LT.lt Nat _ (L + 1) tA ∧ AllLt tA (tps ++ own)) → o2 = aboveO x cs → CEnd s.heap L mm s6 C D8 oC us own (C :: D8 :: [s6.heap.objs.size + 4, s6.heap.objs.size + 3, s6.heap.objs.size, s6.heap.objs.size + 1]) (fun us news₁ => ∃ tps, news₁ = (D6, lst zs6) :: (c5, seqObj "list" vs5.toArray e5) :: (D, lst ys) :: (L + 1, oc6) :: tps ∧ TupsAre tps us ((cs.take (i + 1)).map fun c => (nameOf c, aboveO c cs))) (us ++ [.ref tA]) s₆ := by
      intro mm s₆ v2 tA o2 q1 q2 q3 q4 q5 q6 q7
      refine ⟨q1, q2, (D6, lst zs6) :: (c5, seqObj "list" vs5.toArray e5) :: (D, lst ys) :: (L + 1, oc6) :: (tA, { cls := .type "tuple", data := .seq #[.str (nameOf x) t9, v2] }) :: tps, q3, fun p hp => q4 p ?_, fun p hp => ?_, _, rfl, ?_⟩
      · simp only [List.mem_cons, List.mem_append, List.cons_append] at hp ⊢
        rcases hp with e | e | e | e | e | e | e | e <;> simp [e]
      · simp only [List.mem_cons] at hp
        rcases hp with rfl | rfl | rfl | rfl | rfl | hp
        · exact hoff8 _ (.head _)
        · exact hoff8 _ (.tail _ (.head _))
        · exact hoff8 _ (.tail _ (.tail _ (.head _)))
        · exact hoff8 _ (.tail _ (.tail _ (.tail _ (.head _))))
        · obtain ⟨l1, l2, _⟩ := q6
          have c1 : @LT.lt Nat _ (s6.heap.objs.size + 4) C := hCD.1
          intro hm
          simp only [List.mem_cons, List.not_mem_nil, or_false] at hm
          rcases hm with e | e | e | e | e | e <;> exact absurd e (neN (by omega))
        · exact hoff8 _ (.tail _ (.tail _ (.tail _ (.tail _ hp))))
      · rw [List.take_add_one, hxi]
        simp only [Option.toList_some, List.map_append, List.map_cons, List.map_nil]
        rw [← q7]
        exact ((keepU ()).mono fun p hp => .tail _ hp).app (.cons (.head _) q5 .nil)
    k_steps
    · refine stop_elim ?_
      rename 0 < aboveOf x cs => hpos
      refine name_c rfl (by dsimp only [Around.deeper]; omega) (by dsimp only [Around.deeper]; omega) (X.keeps (by exact F9.keep)) (T.keeps (by exact F9.keep)) (hok _ (hab hpos)) (fun t10 s10 g10 => ?_)
      have F10 := frE F9 g10
      have N10 := newsE N9 g10
      k_steps
      rename Fr _ _ _ _ => F11
      rename News _ _ _ _ => N11
      rename (_ < _ ∧ _) => l11
      rename_i D11 h11
      exact fin _ _ _ D11 (some (nameOf (aboveOf x cs))) (g10.gens.trans (g9.gens.trans hg8)) (g10.os.trans (g9.os.trans ho8)) F11 N11 (.str _ _) l11 (by unfold aboveO; rw [if_pos hpos])
    · rename (¬ 0 < aboveOf x cs) => hpos
      rename Fr _ _ _ _ => F11
      rename News _ _ _ _ => N11
      rename (_ < _ ∧ _) => l11
      rename_i D11 h11
      exact fin _ _ _ D11 none (g9.gens.trans hg8) (g9.os.trans ho8) F11 N11 .none l11 (by unfold aboveO; rw [if_neg hpos])
  · rintro De s8 us8 news' ⟨tps, rfl, hus⟩ hg8 ho8 F8 N8 hoff8 hD8
    have hsort : cs.Pairwise (· < ·) := by
      have hnd : cs.Nodup := hp5.nodup_iff.mpr hnd4
      exact (List.pairwise_and_iff.mpr ⟨hs5, hnd⟩).imp fun {a b} q => by omega
    have hmem : ∀ x, x ∈ cs ↔ x ∈ ([19, 9, 6, 8, 4] ++ ns.take 6).map codeOf := fun x => by rw [hp5.mem_iff, hm4]
    have hds : ∀ c ∈ ([19, 9, 6, 8, 4] ++ ns.take 6).map codeOf, Vd c := fun c hc => by
      obtain ⟨x, _, rfl⟩ := List.mem_map.mp hc
      exact codeOf_V x
    have h75 : 75 ∈ cs := (hmem 75).mpr (List.mem_map.mpr ⟨6, by simp, by decide⟩)
    have h100 : 100 ∈ cs := (hmem 100).mpr (List.mem_map.mpr ⟨9, by simp, by decide⟩)
    have hus' : TupsAre tps us8 (cs.map fun c => (nameOf c, aboveO c cs)) := by
      rw [List.take_of_length_le (by simp only [List.size_toArray]; omega)] at hus
      exact hus
    have key := segB (w := w) (dp := dp) (fr := fr) (gd := gd) (un := un) (Q := Q) (L := L) (tps := tps) rfl hdp hu X T (by exact F8) (by exact N8) hcl6 (hg8.trans (hg6.trans (hg5.trans (g4.gens.trans hg)))) (ho8.trans (ho6.trans (hos5.trans (g4.os.trans ho)))) (keepY ()) hi5 hus' hds (by simp; omega) hcs hsort hmem h75 h100 h
    exact key
end
end Mine
theorem PySem.Challenge.cw_ny0065_01_holds : PySem.Challenge.rw_ny0065_01.Holds := by
  exact Mine.holds_of Mine.law_c
