import PyProof.Rows.All
import Wide.All
import OpenK.AllK
import Wide.FinOn
import PySem.Challenge.RW_wu0009_01
open PySem PySem.W PyProof.Rows PySem.Calls
set_option Elab.async false
set_option maxRecDepth 100000
set_option linter.all false
set_option rowWalk.seconds 0

namespace Mine
section
set_option maxRecDepth 100000 in
set_option maxHeartbeats 8000000 in
open_top hd for PySem.Challenge.rw_wu0009_01
theorem fillK (h : PySem.Challenge.rw_wu0009_01.Holds) : PySem.Challenge.rw_wu0009_01.Holds := by
  first
    | (refine hd ?_; k_fill; done)
    | exact h

end
end Mine

namespace Mine
section

abbrev Ext (h h' : Heap) : Prop := ∀ b o, h.get? b = some o → h'.get? b = some o
theorem Ext.refl (h : Heap) : Ext h h := fun _ _ e => e
theorem Ext.trans {a b c : Heap} (x : Ext a b) (y : Ext b c) : Ext a c := fun p o e => y p o (x p o e)

abbrev prg : Program := PySem.Challenge.rw_wu0009_01.row.prog
abbrev TP (mean : ExcName → Option Value) (mg mb : Str → Option Value) (h : Heap) : Prop :=
  Top Mine.hd.view_39 (looseW Mine.hd.view_39 [Str.ofString "bisect_left", Str.ofString "_quoted", Str.ofString "_paren_depth"]) mean mg mb h

section
variable {prog : Program} {w : World} {A : Around} {K : Frag} {p : Program} {loose : List Str} {mean : ExcName → Option Value} {mg mb : Str → Option Value}
  {R : Result → Shared → Prop} {name qual : Str} {params : Arguments} {body : List Stmt} {scope : Scope} {dV kV doc pm cdv ct oc : Value} {an od : Option Addr} {osl : Array (Option Value)} {f : Addr} {args : Args} {binds : List (Str × Value)}
  {g : Heap} {gs : Array GenState} {d : Drawn} {tk : Nat} {os : OsState}

theorem enter (X : K.In g) (T : Top p loose mean mg mb g)
    (ho : K.lookup f = some ⟨oc, od, .func (fnOf name qual params body scope dV kV doc pm an cdv ct), osl⟩) (hcd : codeIn K cdv qual = true) (hroom : A.depth < recursionLimit)
    (hbind : BindsTo ⟨g, gs, d, tk, os⟩ (fnOf name qual params body scope dV kV doc pm an cdv ct) args binds) (hloc : ∀ y ∈ binds, scope.names.lookup y.1 = some .local)
    (h : ∀ L h₁ tk, Fr g L h₁ (fun y => binds.reverse.lookup y) → News g L h₁ [] →
      wpAny (model prog w) (A.deeper (envOf qual scope L f cdv)) (execs body (envOf qual scope L f cdv))
        (fun fl s' => R (.ok (.ret (match fl with | .ret v => v | _ => .none))) s') (fun _ _ => False)
        ⟨h₁, gs, d, tk, os⟩)
    (hco : scope.isCoroutine = false) (hgen : scope.isGenerator = false) (hk : scope.kind = .function)
    (hcell : ∀ x ∈ scope.names, x.2 ≠ .cell) : codeAny (model prog w) A (.call (.ref f) args) R ⟨g, gs, d, tk, os⟩ := by
  refine codeAny_call_def (fd := fnOf name qual params body scope dV kV doc pm an cdv ct) (body := body) (binds := binds) hroom (X _ _ ho) rfl T.nolimit (codeRec_of X hcd) rfl hbind hcell hloc (fun h₁ hns hk₁ => ?_) hco hgen hk
  exact wpAny_mono (h g.objs.size h₁ _ ⟨hns, hk₁, Nat.le_refl _⟩ News.nil) (fun _ _ x => x) (fun _ _ x => x.elim)


theorem enterC (X : K.In g) (T : Top p loose mean mg mb g)
    (ho : K.lookup f = some ⟨oc, od, .func (fnOf name qual params body scope dV kV doc pm an cdv ct), osl⟩) (hcd : codeIn K cdv qual = true) (hroom : A.depth < recursionLimit)
    (hbind : BindsTo ⟨g, gs, d, tk, os⟩ (fnOf name qual params body scope dV kV doc pm an cdv ct) args binds) (hkind : (binds.all fun y => scope.names.lookup y.1 == some .local || scope.names.lookup y.1 == some .cell) = true)
    (hnd : ((cellsFrom 0 scope.names []).map (·.1)).Nodup)
    (h : ∀ L' h₁ tk cells, Fr g L' h₁ (bindL (envOfC qual scope L' f cdv).kindOf binds fun _ => none) → News g L' h₁ (cells ++ []) →
      CellsAre (bindC (envOfC qual scope L' f cdv).kindOf binds fun _ => none) (cellsFrom (L' + 1) scope.names []) cells →
      wpAny (model prog w) (A.deeper (envOfC qual scope L' f cdv)) (execs body (envOfC qual scope L' f cdv))
        (fun fl s' => R (.ok (.ret (match fl with | .ret v => v | _ => .none))) s') (fun _ _ => False)
        ⟨h₁, gs, d, tk, os⟩)
    (hco : scope.isCoroutine = false) (hgen : scope.isGenerator = false) (hk : scope.kind = .function) : codeAny (model prog w) A (.call (.ref f) args) R ⟨g, gs, d, tk, os⟩ := by
  refine codeAny_call_function hroom (X _ _ ho) rfl hco hgen rfl (codeRec_of X hcd) (hbind _ _ _ _ ?_)
  refine wpAny_newFunctionEnv_cells hk (kindsX hkind _) fun env' he s' x => ?_
  subst he
  refine ⟨T.nolimit.keeps x.toInCall.keep, codeAny_func ?_⟩
  obtain ⟨h₁, tk, rfl, _⟩ := x.done
  have hk₁ := x.toInCall.keep
  obtain ⟨cells, NC, Y⟩ := Cl.news (h₀ := g) (Nat.le_refl _) fun n c hm => ⟨x.cell n c (lookup_of_mem_nodup (cellsFrom_names scope.names 0 (g.objs.size + 1) [] [] rfl ▸ hnd) hm), x.above n c hm⟩
  refine wpAny_mono (h g.objs.size h₁ tk cells ⟨x.toInCall.ns, hk₁, Nat.le_refl _⟩ (fun p hp => ?_) Y) (fun _ _ y => y) fun _ _ y => y.elim
  rw [List.append_nil] at hp
  exact ⟨(NC p hp).1, (NC p hp).2.1, (NC p hp).2.2⟩

end

theorem fr_ext {h₀ h h' : Heap} {L : Addr} {m : Str → Option Value} (F : Fr h₀ L h m) (e : Ext h h') : Fr h₀ L h' m := ⟨F.ns.keeps e, fun b o x => e b o (F.keep b o x), F.above⟩
theorem news_ext {h₀ h h' : Heap} {L : Addr} {news : List (Addr × Obj)} (N : News h₀ L h news) (e : Ext h h') : News h₀ L h' news := fun p hp => ⟨e _ _ (N p hp).1, (N p hp).2.1, (N p hp).2.2⟩
theorem news_add {h₀ h h' : Heap} {L p : Addr} {o : Obj} {m : Str → Option Value} {news : List (Addr × Obj)} (F : Fr h₀ L h m) (N : News h₀ L h news) (e : Ext h h') (hf : h.get? p = none) (hp : h'.get? p = some o) : News h₀ L h' ((p, o) :: news) := by
  intro q hq
  rcases List.mem_cons.mp hq with rfl | hq
  · refine ⟨hp, ?_, ?_⟩
    · intro e1
      obtain ⟨oL, _, _, hL, _⟩ := F.ns
      dsimp only at e1
      rw [e1] at hf
      rw [hf] at hL
      cases hL
    · cases q0 : h₀.get? p with
      | none => rfl
      | some o' => rw [F.keep _ _ q0] at hf; cases hf
  · exact news_ext N e q hq

/-- a mark in the context: which lines of this file may be asked -/
structure Mk (n : Nat) : Prop where
theorem mk (n : Nat) : Mk n := ⟨⟩
def nmL (k : Int) : List Nat := ([[], [34, 40], [40], [40, 46, 41], [41], [67], [67, 46, 40], [92, 40, 92], [97, 46, 34]] : List (List Nat)).getD k.toNat []
def nm (k : Int) : Str := ⟨(nmL k).toArray⟩
end
end Mine

namespace Mine
section
local macro_rules | `(tactic| walk_at "m enter") => `(tactic| (refine' enter ?k3 ?k5 ?k6 ?k7 ?k8 ?k9 ?kB ?_ ?c2 ?c3 ?c4 ?c5; (case k3 => assumption); (case k5 => assumption); (case k6 => k_is); (case k7 => k_is); (case k8 => ((try dsimp only); omega)); (case k9 => exact BindsTo.of_eq rfl); (case c5 => decide); (case kB => exact locs rfl); (case c2 => exact rfl); (case c3 => exact rfl); (case c4 => exact rfl); k_whole))
section
variable {w : World} {mean : ExcName → Option Value} {mg mb : Str → Option Value} {dp un : Nat} {fr : Option (List Env)} {gd : Option (List Code)} {Q E : Value → Shared → Prop} {g : Heap} {gs : Array GenState} {d : Drawn} {tk : Nat} {os : OsState}
  (X : (hd.heap_39 w.params).In g) (T : TP mean mg mb g) (hA : dp + 20 < recursionLimit) (hu : un + 100 < cLine)
include X T hA hu
def scoll (x y : Str) : Int := b2i (decide (y.cps.toList < x.cps.toList)) - b2i (decide (x.cps.toList < y.cps.toList))
set_option maxHeartbeats 4000000 in
theorem strcoll_c {x y : Str} {tx ty : Tok} (hret : ∀ h' tk' t, Ext g h' → Q (.int (scoll x y) t) ⟨h', gs, d, tk', os⟩) :
    wpAny (model prg w) ⟨none, dp, fr, gd, un⟩ (call (.ref 38) [.str x tx, .str y ty] []) Q E ⟨g, gs, d, tk, os⟩ := by
  refine wpAny_call ?_
  refine' enter (binds := [(Str.ofString "a", .str x tx), (Str.ofString "b", .str y ty)]) ?k3 ?k5 ?k6 ?k7 ?k8 ?k9 ?kB ?_ ?c2 ?c3 ?c4 ?c5; (case k3 => assumption); (case k5 => assumption); (case k6 => k_is); (case k7 => k_is); (case k8 => ((try dsimp only); omega)); (case k9 => exact BindsTo.of_eq rfl); (case c5 => decide); (case kB => exact locs rfl); (case c2 => exact rfl); (case c3 => exact rfl); (case c4 => exact rfl); k_whole
  intro L h₁ tk F N
  dsimp only
  k_steps
  all_goals (dsimp only; exact hret _ _ _ (Fr.keep (by assumption)))
end
end
end Mine

namespace Mine
section
local macro_rules | `(tactic| walk_at "m enter") => `(tactic| (refine' enter ?k3 ?k5 ?k6 ?k7 ?k8 ?k9 ?kB ?_ ?c2 ?c3 ?c4 ?c5; (case k3 => assumption); (case k5 => assumption); (case k6 => k_is); (case k7 => k_is); (case k8 => ((try dsimp only); omega)); (case k9 => exact BindsTo.of_eq rfl); (case c5 => decide); (case kB => exact locs rfl); (case c2 => exact rfl); (case c3 => exact rfl); (case c4 => exact rfl); k_whole))
section
variable {w : World} {mean : ExcName → Option Value} {mg mb : Str → Option Value} {dp un : Nat} {fr : Option (List Env)} {gd : Option (List Code)} {Q E : Value → Shared → Prop} {g : Heap} {gs : Array GenState} {d : Drawn} {tk : Nat} {os : OsState}
  (X : (hd.heap_39 w.params).In g) (T : TP mean mg mb g) (hA : dp + 20 < recursionLimit) (hu : un + 100 < cLine)
include X T hA hu
set_option maxHeartbeats 4000000 in
theorem build_ss {a : Addr} {x y : Str} {tx ty : Tok} (ht : IsTup g a #[.str x tx, .str y ty]) (hx : x.length ≤ 10) (hy : y.length ≤ 10)
    (hret : ∀ h' tk' t, Ext g h' → Q (.str (x ++ Str.ofString "." ++ y) t) ⟨h', gs, d, tk', os⟩) :
    wpAny (model prg w) ⟨none, dp, fr, gd, un⟩ (call (.ref 45) [.ref a] []) Q E ⟨g, gs, d, tk, os⟩ := by
  refine wpAny_call ?_
  refine' enter (binds := [(Str.ofString "localetuple", .ref a)]) ?k3 ?k5 ?k6 ?k7 ?k8 ?k9 ?kB ?_ ?c2 ?c3 ?c4 ?c5; (case k3 => assumption); (case k5 => assumption); (case k6 => k_is); (case k7 => k_is); (case k8 => ((try dsimp only); omega)); (case k9 => exact BindsTo.of_eq rfl); (case c5 => decide); (case kB => exact locs rfl); (case c2 => exact rfl); (case c3 => exact rfl); (case c4 => exact rfl); k_whole
  intro L h₁ tk F N
  dsimp only
  k_steps
  all_goals (dsimp only; exact hret _ _ _ (Fr.keep (by assumption)))
set_option maxHeartbeats 4000000 in
theorem build_sn {a : Addr} {x : Str} {tx : Tok} (ht : IsTup g a #[.str x tx, .none]) 
    (hret : ∀ h' tk' t, Ext g h' → Q (.str (x) t) ⟨h', gs, d, tk', os⟩) :
    wpAny (model prg w) ⟨none, dp, fr, gd, un⟩ (call (.ref 45) [.ref a] []) Q E ⟨g, gs, d, tk, os⟩ := by
  refine wpAny_call ?_
  refine' enter (binds := [(Str.ofString "localetuple", .ref a)]) ?k3 ?k5 ?k6 ?k7 ?k8 ?k9 ?kB ?_ ?c2 ?c3 ?c4 ?c5; (case k3 => assumption); (case k5 => assumption); (case k6 => k_is); (case k7 => k_is); (case k8 => ((try dsimp only); omega)); (case k9 => exact BindsTo.of_eq rfl); (case c5 => decide); (case kB => exact locs rfl); (case c2 => exact rfl); (case c3 => exact rfl); (case c4 => exact rfl); k_whole
  intro L h₁ tk F N
  dsimp only
  k_steps
  all_goals (dsimp only; exact hret _ _ _ (Fr.keep (by assumption)))
set_option maxHeartbeats 4000000 in
theorem build_nn {a : Addr}  (ht : IsTup g a #[.none, .none]) 
    (hret : ∀ h' tk' t, Ext g h' → Q (.str (Str.ofString "C") t) ⟨h', gs, d, tk', os⟩) :
    wpAny (model prg w) ⟨none, dp, fr, gd, un⟩ (call (.ref 45) [.ref a] []) Q E ⟨g, gs, d, tk, os⟩ := by
  refine wpAny_call ?_
  refine' enter (binds := [(Str.ofString "localetuple", .ref a)]) ?k3 ?k5 ?k6 ?k7 ?k8 ?k9 ?kB ?_ ?c2 ?c3 ?c4 ?c5; (case k3 => assumption); (case k5 => assumption); (case k6 => k_is); (case k7 => k_is); (case k8 => ((try dsimp only); omega)); (case k9 => exact BindsTo.of_eq rfl); (case c5 => decide); (case kB => exact locs rfl); (case c2 => exact rfl); (case c3 => exact rfl); (case c4 => exact rfl); k_whole
  intro L h₁ tk F N
  dsimp only
  k_steps
  all_goals (dsimp only; exact hret _ _ _ (Fr.keep (by assumption)))
set_option maxHeartbeats 4000000 in
theorem build_ns {a : Addr} {y : Str} {ty : Tok} (ht : IsTup g a #[.none, .str y ty]) (hy : y.length ≤ 10)
    (hret : ∀ h' tk' t, Ext g h' → Q (.str (Str.ofString "C" ++ Str.ofString "." ++ y) t) ⟨h', gs, d, tk', os⟩) :
    wpAny (model prg w) ⟨none, dp, fr, gd, un⟩ (call (.ref 45) [.ref a] []) Q E ⟨g, gs, d, tk, os⟩ := by
  refine wpAny_call ?_
  refine' enter (binds := [(Str.ofString "localetuple", .ref a)]) ?k3 ?k5 ?k6 ?k7 ?k8 ?k9 ?kB ?_ ?c2 ?c3 ?c4 ?c5; (case k3 => assumption); (case k5 => assumption); (case k6 => k_is); (case k7 => k_is); (case k8 => ((try dsimp only); omega)); (case k9 => exact BindsTo.of_eq rfl); (case c5 => decide); (case kB => exact locs rfl); (case c2 => exact rfl); (case c3 => exact rfl); (case c4 => exact rfl); k_whole
  intro L h₁ tk F N
  dsimp only
  k_steps
  all_goals (dsimp only; exact hret _ _ _ (Fr.keep (by assumption)))
end
end
end Mine

namespace Mine
section
local macro_rules | `(tactic| walk_at "m enter") => `(tactic| (refine' enter ?k3 ?k5 ?k6 ?k7 ?k8 ?k9 ?kB ?_ ?c2 ?c3 ?c4 ?c5; (case k3 => assumption); (case k5 => assumption); (case k6 => k_is); (case k7 => k_is); (case k8 => ((try dsimp only); omega)); (case k9 => exact BindsTo.of_eq rfl); (case c5 => decide); (case kB => exact locs rfl); (case c2 => exact rfl); (case c3 => exact rfl); (case c4 => exact rfl); k_whole))
section
variable {w : World} {mean : ExcName → Option Value} {mg mb : Str → Option Value} {dp un : Nat} {fr : Option (List Env)} {gd : Option (List Code)} {Q E : Value → Shared → Prop} {g : Heap} {gs : Array GenState} {d : Drawn} {tk : Nat} {os : OsState}
  (X : (hd.heap_39 w.params).In g) (T : TP mean mg mb g) (hA : dp + 20 < recursionLimit) (hu : un + 100 < cLine)
include X T hA hu
omit X T hA hu in
theorem cells_turn {cs pre : List Int} {i : Nat} {n k : Int} (h1 : cs.length = 8) (h2 : ∀ c ∈ cs, 0 ≤ c ∧ c ≤ 54 + 1000003 * (pre.length : Int)) :
    (cs.set i (cs.getD i 0 + n.fmod 1000003)).length = 8 ∧ ∀ c ∈ cs.set i (cs.getD i 0 + n.fmod 1000003), 0 ≤ c ∧ c ≤ 54 + 1000003 * ((pre ++ [k]).length : Int) := by
  refine ⟨by simpa using h1, fun c hc => ?_⟩
  have hn : 0 ≤ n.fmod 1000003 ∧ n.fmod 1000003 < 1000003 := by
    rw [Int.fmod_eq_emod_of_nonneg _ (by omega)]; omega
  have hg : 0 ≤ cs.getD i 0 ∧ cs.getD i 0 ≤ 54 + 1000003 * (pre.length : Int) := by
    rw [List.getD_eq_getElem?_getD]
    cases hq : cs[i]? with
    | none => simp; omega
    | some v => exact h2 v (List.mem_of_getElem? hq)
  simp only [List.length_append, List.length_cons, List.length_nil]
  rcases List.mem_or_eq_of_mem_set hc with h | h
  · have := h2 c h; omega
  · omega
set_option maxHeartbeats 4000000 in
theorem cells_c {a : Addr} {vs : List Value} {ns : List Int} (hl : g.IsList a vs.toArray) (hi : IntsAre vs ns) (h7 : ns.length ≤ 63)
    (hret : ∀ h' tk' p vs' n (cs : List Int), Ext g h' → g.get? p = none → h'.get? p = some (W.listOf vs'.toArray n) → IntsAre vs' cs → cs.length = 8 → (∀ c ∈ cs, 0 ≤ c ∧ c < 2 ^ 40) → Q (.ref p) ⟨h', gs, d, tk', os⟩) :
    wpAny (model prg w) ⟨none, dp, fr, gd, un⟩ (call (.ref 74) [.ref a] []) Q E ⟨g, gs, d, tk, os⟩ := by
  refine wpAny_call ?_
  refine' enter (binds := [(Str.ofString "script", .ref a)]) ?k3 ?k5 ?k6 ?k7 ?k8 ?k9 ?kB ?_ ?c2 ?c3 ?c4 ?c5; (case k3 => assumption); (case k5 => assumption); (case k6 => k_is); (case k7 => k_is); (case k8 => ((try dsimp only); omega)); (case k9 => exact BindsTo.of_eq rfl); (case c5 => decide); (case kB => exact locs rfl); (case c2 => exact rfl); (case c3 => exact rfl); (case c4 => exact rfl); k_whole
  intro L h₁ tk F N
  dsimp only
  (k_with "pyIter ref" => k_state (fun pre cs => cs.length = 8 ∧ ∀ c ∈ cs, 0 ≤ c ∧ c ≤ 54 + 1000003 * (pre.length : Int)) "cells")
  (k_with "state" => first | exact cells_turn (by assumption) (by assumption) | (refine ⟨rfl, ?_⟩; decide))
  k_steps
  dsimp only
  have hb := (by assumption : ∀ c ∈ _, 0 ≤ c ∧ c ≤ 54 + 1000003 * (_ : Int))
  have hN := (by assumption : News g L _ ((_, W.listOf _ _) :: _))
  refine hret _ _ _ _ _ _ (Fr.keep (by assumption)) (hN _ (.head _)).2.2 (hN _ (.head _)).1 (by assumption) (by assumption) (fun c hc => ?_)
  have h := hb c hc
  rw [rangeKs_length] at h
  split at h <;> omega
end
end
end Mine

namespace Mine
section
local macro_rules | `(tactic| walk_at "m enter") => `(tactic| (refine' enter ?k3 ?k5 ?k6 ?k7 ?k8 ?k9 ?kB ?_ ?c2 ?c3 ?c4 ?c5; (case k3 => assumption); (case k5 => assumption); (case k6 => k_is); (case k7 => k_is); (case k8 => ((try dsimp only); omega)); (case k9 => exact BindsTo.of_eq rfl); (case c5 => decide); (case kB => exact locs rfl); (case c2 => exact rfl); (case c3 => exact rfl); (case c4 => exact rfl); k_whole))
section
variable {w : World} {mean : ExcName → Option Value} {mg mb : Str → Option Value} {dp un : Nat} {fr : Option (List Env)} {gd : Option (List Code)} {Q E : Value → Shared → Prop} {g : Heap} {gs : Array GenState} {d : Drawn} {tk : Nat} {os : OsState}
  (X : (hd.heap_39 w.params).In g) (T : TP mean mg mb g) (hA : dp + 20 < recursionLimit) (hu : un + 100 < cLine)
include X T hA hu
set_option maxHeartbeats 4000000 in
theorem second_c {a : Addr} {vs : List Value} {ns : List Int} {c : Int} {tc : Tok} (hl : g.IsList a vs.toArray) (hi : IntsAre vs ns) (h7 : ns.length = 7) (hc : 0 ≤ c) (hc2 : c < 2^40)
    (hret : ∀ h' tk' p vs' n, Ext g h' → g.get? p = none → h'.get? p = some (W.listOf vs'.toArray n) → IntsAre vs' ((ns.map (· + 1)).set (c % 7).toNat (c / 7 % 9)) → Q (.ref p) ⟨h', gs, d, tk', os⟩) :
    wpAny (model prg w) ⟨none, dp, fr, gd, un⟩ (call (.ref 101) [.ref a, .int c tc] []) Q E ⟨g, gs, d, tk, os⟩ := by
  refine wpAny_call ?_
  refine' enter (binds := [(Str.ofString "ranks", .ref a), (Str.ofString "cell", .int c tc)]) ?k3 ?k5 ?k6 ?k7 ?k8 ?k9 ?kB ?_ ?c2 ?c3 ?c4 ?c5; (case k3 => assumption); (case k5 => assumption); (case k6 => k_is); (case k7 => k_is); (case k8 => ((try dsimp only); omega)); (case k9 => exact BindsTo.of_eq rfl); (case c5 => decide); (case kB => exact locs rfl); (case c2 => exact rfl); (case c3 => exact rfl); (case c4 => exact rfl); k_whole
  intro L h₁ tk F N
  dsimp only
  k_steps
  dsimp only
  have hN := (by assumption : News g L _ ((_, W.listOf _ _) :: _))
  refine hret _ _ _ _ _ (Fr.keep (by assumption)) (hN _ (.head _)).2.2 (hN _ (.head _)).1 ?_
  have hI := (by assumption : IntsAre (List.set _ _ _) _)
  have e1 : c % 7 = c.fmod 7 := (Int.fmod_eq_emod_of_nonneg _ (by omega)).symm
  have e2 : c / 7 % 9 = (c.fdiv 7).fmod 9 := by rw [Int.fdiv_eq_ediv_of_nonneg _ (by omega), Int.fmod_eq_emod_of_nonneg _ (by omega)]
  rw [e1, e2]
  have e3 : List.filter (fun _ : Int => true) ns = ns := List.filter_eq_self.mpr (fun _ _ => rfl)
  rw [e3] at hI
  exact hI
end
end
end Mine

namespace Mine
section
set_option rowWalk.seconds 0
set_option linter.unusedSectionVars false
set_option linter.unusedVariables false
set_option linter.unusedSimpArgs false
local macro_rules | `(tactic| walk_at "m enter") => `(tactic| (refine' enter ?k3 ?k5 ?k6 ?k7 ?k8 ?k9 ?kB ?_ ?c2 ?c3 ?c4 ?c5; (case k3 => assumption); (case k5 => assumption); (case k6 => k_is); (case k7 => k_is); (case k8 => ((try dsimp only); omega)); (case k9 => exact BindsTo.of_eq rfl); (case c5 => decide); (case kB => exact locs rfl); (case c2 => exact rfl); (case c3 => exact rfl); (case c4 => exact rfl); k_whole))
section
variable {w : World} {mean : ExcName → Option Value} {mg mb : Str → Option Value} {dp un : Nat} {fr : Option (List Env)} {gd : Option (List Code)} {Q E : Value → Shared → Prop} {g : Heap} {gs : Array GenState} {d : Drawn} {tk : Nat} {os : OsState}
  (X : (hd.heap_39 w.params).In g) (T : TP mean mg mb g) (hA : dp + 40 < recursionLimit) (hu : un + 200 < cLine)
include X T hA hu

omit X T hA hu in
theorem nine {ns : List Int} (hr : ∀ n ∈ ns, 0 ≤ n ∧ n < 9) {k : Int} (hk : k ∈ ns) : k = 0 ∨ k = 1 ∨ k = 2 ∨ k = 3 ∨ k = 4 ∨ k = 5 ∨ k = 6 ∨ k = 7 ∨ k = 8 := by
  have := hr k hk; omega
local macro_rules | `(tactic| walk_at "CompSrc") => `(tactic| ((with_reducible rename Mk 79 => hMk); k_dflt (refine LCg.CompSrc.base (by rfl) (by k_asm) (by k_asm) (by assumption) (by rw [List.size_toArray, IntsAre.length (by assumption), PySem.sizeLine_eq]; omega) ?_); intro g'; k_dflt (refine' kct_list nm (by assumption) (fun k' t' I' oI' C' oC' D' m' ys' h' tk' E' hk' hC' hx' F' N' off' ne' => ?ccA) ?ccB); (case' ccA => (intro hMark'; rcases nine (by assumption) hk' with hz | hz | hz | hz | hz | hz | hz | hz | hz <;> subst hz))))
local macro_rules | `(tactic| walk_at "call ref") => `(tactic| ((with_reducible rename Mk 79 => hMk); (with_reducible show wpAny _ _ (PySem.call (Value.ref 45) [Value.ref _] []) _ _ _); (first | (refine' build_ss ?ba1 ?ba2 ?ba3 ?ba4 ?ba5 ?ba6 ?ba7 ?_; (case ba5 => exact News.isTup (by assumption) (by k_mem)); (case ba6 => decide +kernel); (case ba7 => decide +kernel)) | (refine' build_sn ?ba1 ?ba2 ?ba3 ?ba4 ?ba5 ?_; (case ba5 => exact News.isTup (by assumption) (by k_mem))) | (refine' build_nn ?ba1 ?ba2 ?ba3 ?ba4 ?ba5 ?_; (case ba5 => exact News.isTup (by assumption) (by k_mem))) | (refine' build_ns ?ba1 ?ba2 ?ba3 ?ba4 ?ba5 ?ba7 ?_; (case ba5 => exact News.isTup (by assumption) (by k_mem)); (case ba7 => decide +kernel))); (case ba1 => exact Frag.In.keeps (by assumption) (Fr.keep (by assumption))); (case ba2 => exact Top.keeps (by assumption) (Fr.keep (by assumption))); (case ba3 => ((try dsimp only); omega)); (case ba4 => ((try dsimp only); omega)); intro h9 tk9 t9 e9; (have F9 := fr_ext (by assumption) e9); (have N9 := news_ext (by assumption) e9); (try dsimp only)))
local macro_rules | `(tactic| walk_at "CompEnd") => `(tactic| ((with_reducible rename Mk 79 => hMk); k_dflt (refine LCg.CompEnd.intro (by assumption) (by assumption) _ (fun _ hp => hp) (by assumption) (by lcg_src) ?_)))
local macro_rules | `(tactic| walk_at "subscriptTail Name Name ref int") => `(tactic| ((with_reducible rename Mk 79 => hMk); (with_reducible show wpAny _ _ (subscriptTail _ _ (Value.ref _) (Value.int _ _)) _ _ _); (with_reducible rename News _ _ _ _ => lN'); (with_unfolding_all refine item_listL (News.isList lN' (by k_mem)) (by first | decide | omega) (by first | decide | omega) (by first | rfl | simp) ?_)))
local macro_rules | `(tactic| walk_at "KCtEl") => `(tactic| ((with_reducible rename Mk 79 => hMk); refine kct_el (by decide +kernel) rfl rfl))
set_option maxHeartbeats 4000000 in
theorem names_c {a : Addr} {vs : List Value} {ns : List Int} (hl : g.IsList a vs.toArray) (hi : IntsAre vs ns) (h9 : ns.length ≤ 9) (hr : ∀ n ∈ ns, 0 ≤ n ∧ n < 9)
    (hret : ∀ h' tk' p (vs' : List Value) n, Ext g h' → g.get? p = none → h'.get? p = some (W.listOf vs'.toArray n) → StrsAre vs' (ns.map nm) → Q (.ref p) ⟨h', gs, d, tk', os⟩) :
    wpAny (model prg w) ⟨none, dp, fr, gd, un⟩ (call (.ref 79) [.ref a] []) Q E ⟨g, gs, d, tk, os⟩ := by
  have hMk := mk 79
  refine wpAny_call ?_
  refine' enterC (binds := [(Str.ofString "ranks", .ref a)]) ?k3 ?k5 ?k6 ?k7 ?k8 ?k9 ?kB ?kD ?_ ?c2 ?c3 ?c4; (case k3 => assumption); (case k5 => assumption); (case k6 => k_is); (case k7 => k_is); (case k8 => ((try dsimp only); omega)); (case k9 => exact BindsTo.of_eq rfl); (case kB => exact rfl); (case kD => decide +kernel); (case c2 => exact rfl); (case c3 => exact rfl); (case c4 => exact rfl); k_whole
  intro L h₁ tk cells F N Y
  k_cells Y
  (try simp only [List.cons_append, List.nil_append, List.append_nil] at N)
  dsimp only
  k_steps
  have hC := (by assumption : CarriedAll _ (List.map (fun k => PyData.str (nm k)) ns))
  have hN := (by assumption : News g L _ ((_, LCg.lst _) :: _))
  exact hret _ _ _ _ _ (Fr.keep (by assumption)) (hN _ (.head _)).2.2 (hN _ (.head _)).1 hC.strsOf
end
end
end Mine

namespace Mine
section
def LI (xs : List Int) : PyData := .list (xs.map .int)
def LL (xss : List (List Int)) : PyData := .list (xss.map LI)
def Rd (h : Heap) (v : Value) (d : PyData) : Prop := ∃ as, Reads h v d as
theorem Rd.ext {h h' : Heap} {v : Value} {d : PyData} (r : Rd h v d) (e : Ext h h') : Rd h' v d := let ⟨as, x⟩ := r; ⟨as, PyProof.Rows.Reads.keeps e x⟩
def dI (xs : List Int) : Dat := .list (xs.map .int)
theorem kqdPs_ints : ∀ xs : List Int, kqdPs (xs.map Dat.int) = xs.map PyData.int
  | [] => rfl
  | x :: xs => by show kqdP (Dat.int x) :: kqdPs (xs.map Dat.int) = _; rw [kqdPs_ints xs]; rfl
theorem kqdP_dI (xs : List Int) : kqdP (dI xs) = LI xs := by
  show PyData.list (kqdPs (xs.map Dat.int)) = _
  rw [kqdPs_ints]; rfl
theorem kqdPs_dI : ∀ xss : List (List Int), kqdPs (xss.map dI) = xss.map LI
  | [] => rfl
  | x :: xs => by show kqdP (dI x) :: kqdPs (xs.map dI) = _; rw [kqdPs_dI xs, kqdP_dI]; rfl
theorem ok_dI (n : Nat) (xs : List Int) : kqdOk (n + 1) (dI xs) = true := by
  show (xs.map Dat.int).all (kqdOk n) = true
  rw [List.all_eq_true]
  intro d hd
  obtain ⟨x, _, rfl⟩ := List.mem_map.mp hd
  cases n <;> rfl
theorem ok_dL (xss : List (List Int)) : kqdOk 8 (Dat.list (xss.map dI)) = true := by
  show (xss.map dI).all (kqdOk 7) = true
  rw [List.all_eq_true]
  intro d hd
  obtain ⟨x, _, rfl⟩ := List.mem_map.mp hd
  exact ok_dI 6 x
theorem rd_dL {h₀ h : Heap} {L p : Addr} {l : List (Addr × Obj)} {ws : List Value} {n : Nat} {xss : List (List Int)} (N : News h₀ L h ((p, W.listOf ws.toArray n) :: l)) (D : DatAll l ws (xss.map dI)) :
    Rd h (.ref p) (LL xss) := by
  obtain ⟨as, r⟩ := kqd_in (v := .ref p) (d := Dat.list (xss.map dI)) N 8 (.list (.head _) (DatAll.mono (fun _ x => .tail _ x) D)) (ok_dL xss)
  refine ⟨as, ?_⟩
  have e : kqdP (Dat.list (xss.map dI)) = LL xss := by
    show PyData.list (kqdPs (xss.map dI)) = _
    rw [kqdPs_dI]; rfl
  rw [← e]; exact r
theorem readsAll_ints {h : Heap} {vs : List Value} {ns : List Int} (hi : IntsAre vs ns) : ∃ as, ReadsAll h vs (ns.map PyData.int) as := by
  induction hi with
  | nil => exact ⟨_, ReadsAll.nil⟩
  | cons i t _ ih => obtain ⟨as, r⟩ := ih; exact ⟨_, ReadsAll.cons (Reads.int _ _) r⟩
theorem rd_ints {h : Heap} {p : Addr} {vs : List Value} {ns : List Int} (hl : h.IsList p vs.toArray) (hi : IntsAre vs ns) : Rd h (.ref p) (LI ns) := by
  obtain ⟨o, ho, hc, n, hd⟩ := hl
  obtain ⟨as, r⟩ := readsAll_ints (h := h) hi
  exact ⟨_, reads_list_at ho hc hd (by simpa using r)⟩
theorem eqvAll_int : ∀ xs ys : List Int, PyData.eqvAll (xs.map PyData.int) (ys.map PyData.int) = decide (xs = ys)
  | [], [] => by rfl
  | [], y :: ys => by simp [PyData.eqvAll]
  | x :: xs, [] => by simp [PyData.eqvAll]
  | x :: xs, y :: ys => by
    simp only [List.map_cons, PyData.eqvAll, PyData.eqv, eqvAll_int xs ys]
    by_cases h1 : x = y <;> by_cases h2 : xs = ys <;> simp [h1, h2]
theorem eqv_LI (xs ys : List Int) : PyData.eqv (LI xs) (LI ys) = decide (xs = ys) := by
  simp only [LI, PyData.eqv, eqvAll_int]
theorem eqvAll_LI : ∀ xs ys : List (List Int), PyData.eqvAll (xs.map LI) (ys.map LI) = decide (xs = ys)
  | [], [] => by rfl
  | [], y :: ys => by simp [PyData.eqvAll]
  | x :: xs, [] => by simp [PyData.eqvAll]
  | x :: xs, y :: ys => by
    simp only [List.map_cons, PyData.eqvAll, eqv_LI, eqvAll_LI xs ys]
    by_cases h1 : x = y <;> by_cases h2 : xs = ys <;> simp [h1, h2]
theorem eqv_LL (xs ys : List (List Int)) : PyData.eqv (LL xs) (LL ys) = decide (xs = ys) := by
  simp only [LL, PyData.eqv, eqvAll_LI]
theorem shaped_LI (xs : List Int) : SeqAt.shaped (LI xs) = true := by
  have := kqd_lay 8 (dI xs) (ok_dI 7 xs)
  rw [kqdP_dI] at this
  unfold SeqAt.shaped; rw [this.1, Bool.true_and]; exact decide_eq_true (Nat.le_trans this.2 (by decide))
theorem shaped_LL (xss : List (List Int)) : SeqAt.shaped (LL xss) = true := by
  have := kqd_lay 8 (Dat.list (xss.map dI)) (ok_dL xss)
  have e : kqdP (Dat.list (xss.map dI)) = LL xss := by
    show PyData.list (kqdPs (xss.map dI)) = _
    rw [kqdPs_dI]; rfl
  rw [e] at this
  unfold SeqAt.shaped; rw [this.1, Bool.true_and]; exact decide_eq_true (Nat.le_trans this.2 (by decide))
section
variable {prog : Program} {w : World} {A : Around} {E : Value → Shared → Prop} {s : Shared} {a b : Addr} {Q : Value → Shared → Prop} {xss yss : List (List Int)} {xs ys : List Int}
theorem ll_ne (ra : Rd s.heap (.ref a) (LL xss)) (rb : Rd s.heap (.ref b) (LL yss)) (hu : A.units + 64 < cLine) (h : Q (.bool (!decide (xss = yss))) s) : wpAny (model prog w) A (compareOp .NotEq (.ref a) (.ref b)) Q E s := by
  obtain ⟨as, ra⟩ := ra
  obtain ⟨bs, rb⟩ := rb
  exact ne_dataH ra rb (shaped_LL _) (shaped_LL _) hu (by rw [eqv_LL]; exact h)
theorem ll_eq (ra : Rd s.heap (.ref a) (LL xss)) (rb : Rd s.heap (.ref b) (LL yss)) (hu : A.units + 64 < cLine) (h : Q (.bool (decide (xss = yss))) s) : wpAny (model prog w) A (compareOp .Eq (.ref a) (.ref b)) Q E s := by
  obtain ⟨as, ra⟩ := ra
  obtain ⟨bs, rb⟩ := rb
  exact eq_dataH ra rb (shaped_LL _) (shaped_LL _) hu (by rw [eqv_LL]; exact h)
theorem li_eq (ra : Rd s.heap (.ref a) (LI xs)) (rb : Rd s.heap (.ref b) (LI ys)) (hu : A.units + 64 < cLine) (h : Q (.bool (decide (xs = ys))) s) : wpAny (model prog w) A (compareOp .Eq (.ref a) (.ref b)) Q E s := by
  obtain ⟨as, ra⟩ := ra
  obtain ⟨bs, rb⟩ := rb
  exact eq_dataH ra rb (shaped_LI _) (shaped_LI _) hu (by rw [eqv_LI]; exact h)
end
theorem datAll_ints {news : List (Addr × Obj)} {vs : List Value} {ns : List Int} (h : IntsAre vs ns) : DatAll news vs (ns.map Dat.int) := by
  induction h with
  | nil => exact .nil
  | cons i t _ ih => exact .cons (.int _ _) ih
theorem datAll_snoc {tl : List (Addr × Obj)} {D : Addr} {p : Addr × Obj} {ws vs : List Value} {n : Nat} {ns : List Int} {ds : List Dat} (h : DatAll tl vs ds) (hI : IntsAre ws ns) :
    DatAll ([] ++ ([(D, W.listOf ws.toArray n), p] ++ tl)) (vs ++ [Value.ref D]) (ds ++ [dI ns]) :=
  (DatAll.mono (fun _ hp => .tail _ (.tail _ hp)) h).append (.one (.list (.head _) (datAll_ints hI)))
structure NewOf (g h' : Heap) (l : List (Addr × Obj)) : Prop where
  all : ∀ q ∈ l, h'.get? q.1 = some q.2 ∧ g.get? q.1 = none
theorem newOf {g h' : Heap} {L : Addr} {l : List (Addr × Obj)} (N : News g L h' l) : NewOf g h' l := ⟨fun q hq => ⟨(N q hq).1, (N q hq).2.2⟩⟩
theorem newOf_sub {g h' : Heap} {l l' : List (Addr × Obj)} (N : NewOf g h' l) (s : ∀ q ∈ l', q ∈ l) : NewOf g h' l' := ⟨fun q hq => N.all q (s q hq)⟩
theorem news_all {h₀ g h' : Heap} {L : Addr} {m : Str → Option Value} {news l : List (Addr × Obj)} (F : Fr h₀ L g m) (N : News h₀ L g news) (e : Ext g h') (nw : NewOf g h' l) : News h₀ L h' (l ++ news) := by
  intro q hq
  rcases List.mem_append.mp hq with hq | hq
  · obtain ⟨h1, h2⟩ := nw.all q hq
    refine ⟨h1, ?_, ?_⟩
    · intro e1
      obtain ⟨oL, _, _, hL, _⟩ := F.ns
      rw [e1, hL] at h2
      cases h2
    · cases q0 : h₀.get? q.1 with
      | none => rfl
      | some o' => rw [F.keep _ _ q0] at h2; cases h2
  · exact news_ext N e q hq
def dL (xss : List (List Int)) : Dat := .list (xss.map dI)
theorem rd_of {h₀ h : Heap} {L p : Addr} {l l2 : List (Addr × Obj)} {xss : List (List Int)} (N : News h₀ L h l) (D : DatIn l2 (.ref p) (dL xss)) (s : ∀ q ∈ l2, q ∈ l) : Rd h (.ref p) (LL xss) := by
  cases D with
  | list hm hr => exact rd_dL (n := _) (kst_newsOf N (l' := (p, _) :: l2) (fun q hq => by
      rcases List.mem_cons.mp hq with rfl | hq
      · exact s _ hm
      · exact s q hq)) hr
end
end Mine

namespace Mine
section
def scanL (ns : List Int) (k : Int) (pre : List Int) : Int × List Int :=
  pre.foldl (fun s i => let b := if ns.getD i.toNat 0 < ns.getD s.1.toNat 0 then i else s.1; (b, s.2 ++ [b])) (k, [k])
def lrowI (ns : List Int) (k : Int) : List Int := (scanL ns k (downKs (k - 1) (k - 1 - -1).toNat)).2.reverse
def lrow (ns : List Int) (k : Int) : Dat := dI (lrowI ns k)
def lrows (ns : List Int) : List (List Int) := (rangeKs 0 ns.length).map (lrowI ns)
theorem lrows_dat (ns : List Int) : List.map (fun k => lrow ns k) (rangeKs 0 (((ns.length : Nat) : Int) - 0).toNat) = (lrows ns).map dI := by
  rw [show (((ns.length : Nat) : Int) - 0).toNat = ns.length by omega, lrows, List.map_map]; rfl
theorem scanL_snoc (ns : List Int) (k : Int) (pre : List Int) (i : Int) : scanL ns k (pre ++ [i]) =
    (let s := scanL ns k pre; let b := if ns.getD i.toNat 0 < ns.getD s.1.toNat 0 then i else s.1; (b, s.2 ++ [b])) := by
  simp [scanL, List.foldl_append]
theorem scan_lt {ns pre back : List Int} {k best i : Int} (h1 : best = (scanL ns k pre).1) (h2 : back = (scanL ns k pre).2) (h3 : back.length = pre.length + 1)
    (hlt : ns.getD i.toNat 0 < ns.getD best.toNat 0) (h0 : 0 ≤ i) (hk : i ≤ k) :
    i = (scanL ns k (pre ++ [i])).1 ∧ back ++ [i] = (scanL ns k (pre ++ [i])).2 ∧ 0 ≤ i ∧ i ≤ k ∧ (back ++ [i]).length = (pre ++ [i]).length + 1 := by
  subst h1 h2
  rw [scanL_snoc]
  dsimp only
  rw [if_pos hlt]
  simp [h3, h0, hk]
theorem scan_ge {ns pre back : List Int} {k best i : Int} (h1 : best = (scanL ns k pre).1) (h2 : back = (scanL ns k pre).2) (h3 : back.length = pre.length + 1)
    (hlt : ¬ ns.getD i.toNat 0 < ns.getD best.toNat 0) (h0 : 0 ≤ best) (hk : best ≤ k) :
    best = (scanL ns k (pre ++ [i])).1 ∧ back ++ [best] = (scanL ns k (pre ++ [i])).2 ∧ 0 ≤ best ∧ best ≤ k ∧ (back ++ [best]).length = (pre ++ [i]).length + 1 := by
  subst h1 h2
  rw [scanL_snoc]
  dsimp only
  rw [if_neg hlt]
  simp [h3, h0, hk]
theorem lrow_snoc {ns kPre back : List Int} {k : Int} (h : back = (scanL ns k (downKs (k - 1) (k - 1 - -1).toNat)).2) :
    (List.map (fun k => lrow ns k) kPre ++ [dI back.reverse]).length = (kPre ++ [k]).length ∧
    List.map (fun k => lrow ns k) kPre ++ [dI back.reverse] = List.map (fun k => lrow ns k) (kPre ++ [k]) := by
  subst h
  simp [lrow, lrowI]
end
end Mine

namespace Mine
section
set_option rowWalk.seconds 0
set_option linter.unusedSectionVars false
set_option linter.unusedVariables false
set_option linter.unusedSimpArgs false
local macro_rules | `(tactic| walk_at "m enter") => `(tactic| (refine' enter ?k3 ?k5 ?k6 ?k7 ?k8 ?k9 ?kB ?_ ?c2 ?c3 ?c4 ?c5; (case k3 => assumption); (case k5 => assumption); (case k6 => k_is); (case k7 => k_is); (case k8 => ((try dsimp only); omega)); (case k9 => exact BindsTo.of_eq rfl); (case c5 => decide); (case kB => exact locs rfl); (case c2 => exact rfl); (case c3 => exact rfl); (case c4 => exact rfl); k_whole))
section
variable {w : World} {mean : ExcName → Option Value} {mg mb : Str → Option Value} {dp un : Nat} {fr : Option (List Env)} {gd : Option (List Code)} {Q E : Value → Shared → Prop} {g : Heap} {gs : Array GenState} {d : Drawn} {tk : Nat} {os : OsState}
  (X : (hd.heap_39 w.params).In g) (T : TP mean mg mb g) (hA : dp + 20 < recursionLimit) (hu : un + 100 < cLine)
include X T hA hu
def one1 : Bool := true
omit X T hA hu in
theorem lk_size {vs : List Value} {back : List Int} {k : Int} {pre : List Int} {n : Nat} (h1 : vs.length = back.length) (h2 : back.length = (downKs (k - 1) (k - 1 - -1).toNat).length + 1) (h3 : k = 0 + (pre.length : Int)) (h4 : pre.length < (((n : Nat) : Int) - 0).toNat) (h5 : n ≤ 1000) : vs.toArray.size ≤ sizeLine := by
  rw [downKs_length] at h2
  rw [List.size_toArray, PySem.sizeLine_eq]; omega
local macro_rules | `(tactic| walk_at "subscriptTail Name Slice ref ref") => `(tactic| (k_here; (with_reducible rename Mk 96 => hMk); (with_reducible show wpAny _ _ (subscriptTail _ (PySem.Expr.Slice none none (some _) _) (Value.ref _) (Value.ref _)) _ _ _); (refine' krv_ints ?mF ?mN ?ml ?mk ?mi ?_ ?ms ?mt ?mz; (case mF => k_asm); (case mN => k_asm); (case ml => kmk_list); (case mk => exact IsPart.int _ _); (case mi => l_ints); (case ms => with_unfolding_all rfl); (case mt => kmk_pure); (case mz => exact lk_size (by assumption) (by assumption) (by assumption) (by assumption) (by assumption))); intro D' ws' h' F' N' l1 hI' hC'; (try k_lt l1); (try k_sweep)))
set_option maxHeartbeats 4000000 in
theorem least_c {a : Addr} {vs : List Value} {ns : List Int} (hl : g.IsList a vs.toArray) (hi : IntsAre vs ns) (h7 : ns.length ≤ 1000)
    (hret : ∀ h' tk' p l, Ext g h' → NewOf g h' l → DatIn l (.ref p) (dL (lrows ns)) → Q (.ref p) ⟨h', gs, d, tk', os⟩) :
    wpAny (model prg w) ⟨none, dp, fr, gd, un⟩ (call (.ref 96) [.ref a] []) Q E ⟨g, gs, d, tk, os⟩ := by
  have hMk := mk 96
  refine wpAny_call ?_
  refine' enter (binds := [(Str.ofString "numbers", .ref a)]) ?k3 ?k5 ?k6 ?k7 ?k8 ?k9 ?kB ?_ ?c2 ?c3 ?c4 ?c5; (case k3 => assumption); (case k5 => assumption); (case k6 => k_is); (case k7 => k_is); (case k8 => ((try dsimp only); omega)); (case k9 => exact BindsTo.of_eq rfl); (case c5 => decide); (case kB => exact locs rfl); (case c2 => exact rfl); (case c3 => exact rfl); (case c4 => exact rfl); k_whole
  intro L h₁ tk F N
  dsimp only
  (k_with "pyIter ref" => (k_of "k" => k_dat (fun pre due => due.length = pre.length ∧ due = pre.map (fun k => lrow ns k)) "due*"))
  (k_with "pyIter ref" => (k_of "i" => ((have hG : one1 = true := by rfl); clear hG; k_state_given ["k"] (fun k pre best back => best = (scanL ns k pre).1 ∧ back = (scanL ns k pre).2 ∧ 0 ≤ best ∧ best ≤ k ∧ back.length = pre.length + 1) "best" "back")))
  (k_with "state" => first | exact scan_lt (by assumption) (by assumption) (by assumption) (by assumption) (by omega) (by omega) | exact scan_ge (by assumption) (by assumption) (by assumption) (by (first | assumption | omega)) (by assumption) (by assumption) | exact lrow_snoc (by assumption))
  k_steps
  · kd_ends 0
    case kdS => (try assumption); done
    case kdF => (try assumption); done
    case kdN => (try assumption); done
    case kdn => (try kd_inAll); done
    case kdo =>  ((intro p hp; kst_mem))
    case kda => kd_rfl
    case kdb => kd_addB
    case kdw => kd_addW
    case kdk => kst_all
    case kdr => kst_same
    case kdf => 
      dsimp only
      exact datAll_snoc (by assumption) (by assumption)
    case kdp => kd_p
  · have hD := (by assumption : DatAll kTl _ _)
    rw [lrows_dat] at hD
    have hN := (by assumption : News g L _ ((_, W.listOf _ _) :: kTl))
    exact hret _ _ _ _ (Fr.keep (by assumption)) (newOf hN) (.list (.head _) (DatAll.mono (fun _ x => .tail _ x) hD))
end
end
end Mine

namespace Mine
section
namespace SF
theorem plainAttrs_pat : PlainAttrs "re.Pattern" :=
  ⟨⟨"object.__getattribute__", by rw [typeLookup_type, builtinLookup_eq_fast]; kernel_rfl, by decide +kernel⟩, by rw [typeLookup_type, builtinLookup_eq_fast]; kernel_rfl⟩
theorem owner_pat : Manifest.owners.lookup (String.ofList ['n', 'r', 'e', 't', 't', 'a', 'P', '.', 'e', 'r'].reverse) = some Manifest.sig_re_Pattern := by kernel_rfl
theorem slot_sub : Slot "re.Pattern" "sub" "re.Pattern.sub" :=
  .of (owner := "re.Pattern") (n := "sub") (by rw [typeLookup_type, builtinLookup_eq_fast]; kernel_rfl) (by decide +kernel) (by decide +kernel) (by decide +kernel)
    (by first | exact .inl (by decide +kernel) | exact .inr (by decide +kernel)) (by rw [isSubtype_type]; kernel_rfl)
theorem type_sub : typeOf (.builtin "re.Pattern.sub") = pure (.type "method_descriptor") := by show builtinType _ = _; rw [builtinType_eq_fast]; kernel_rfl
theorem entry_sub : entryFor table "re.Pattern.sub" = some Builtin.«re.Pattern.sub» := entryFor_of_tree (by kernel_rfl)
theorem entry_sub_loop : entryFor table "re.Pattern.sub.loop" = some Builtin.«re.Pattern.sub.loop» := entryFor_of_tree (by kernel_rfl)
theorem plain_sub_loop : plainId "re.Pattern.sub.loop" = true := by decide +kernel
theorem args_sub_3 (a b c : Value) : argsOk "re.Pattern.sub" ⟨[a, b, c], []⟩ := by
  unfold argsOk; rw [signature?_of (id := "re.Pattern.sub") (n := ['b', 'u', 's']) (o := ['n', 'r', 'e', 't', 't', 'a', 'P', '.', 'e', 'r']) (by kernel_rfl) owner_pat]; kernel_rfl
theorem slot_count : Slot "bytes" "count" "bytes.count" :=
  .of (owner := "bytes") (n := "count") (by rw [typeLookup_type, builtinLookup_eq_fast]; kernel_rfl) (by decide +kernel) (by decide +kernel) (by decide +kernel)
    (by first | exact .inl (by decide +kernel) | exact .inr (by decide +kernel)) (by rw [isSubtype_type]; kernel_rfl)
theorem type_count : typeOf (.builtin "bytes.count") = pure (.type "method_descriptor") := by show builtinType _ = _; rw [builtinType_eq_fast]; kernel_rfl
theorem entry_count : entryFor table "bytes.count" = some Builtin.«bytes.count» := entryFor_of_tree (by kernel_rfl)
theorem args_count_2 (a b : Value) : argsOk "bytes.count" ⟨[a, b], []⟩ := by
  unfold argsOk; rw [signature?_of (id := "bytes.count") (n := ['t', 'n', 'u', 'o', 'c']) (o := ['s', 'e', 't', 'y', 'b']) (by kernel_rfl) FB.owner_bytes]; kernel_rfl
theorem slot_join : Slot "bytes" "join" "bytes.join" :=
  .of (owner := "bytes") (n := "join") (by rw [typeLookup_type, builtinLookup_eq_fast]; kernel_rfl) (by decide +kernel) (by decide +kernel) (by decide +kernel)
    (by first | exact .inl (by decide +kernel) | exact .inr (by decide +kernel)) (by rw [isSubtype_type]; kernel_rfl)
theorem entry_join : entryFor table "bytes.join" = some Builtin.«bytes.join» := entryFor_of_tree (by kernel_rfl)
theorem args_join_2 (a b : Value) : argsOk "bytes.join" ⟨[a, b], []⟩ := by
  unfold argsOk; rw [signature?_of (id := "bytes.join") (n := ['n', 'i', 'o', 'j']) (o := ['s', 'e', 't', 'y', 'b']) (by kernel_rfl) FB.owner_bytes]; kernel_rfl
theorem look_call : typeLookup (.type "bytes") "__call__" = pure none := by rw [typeLookup_type, builtinLookup_eq_fast]; kernel_rfl
end SF
end
end Mine

namespace Mine
section
open PySem.Builtin.Re PySem.Builtin PySem.Sre
section
variable {M : Model} {A : Around} {E : Value → Shared → Prop} {s : Shared}
theorem runFor_done {m : Sre.M} (h : m.outcome.isSome = true) : ∀ n, m.runFor n = m
  | 0 => rfl
  | n + 1 => by show (if m.outcome.isSome then m else _) = m; rw [if_pos h]
theorem runFor_add (a b : Nat) : ∀ m : Sre.M, m.runFor (a + b) = (m.runFor a).runFor b := by
  induction a with
  | zero => intro m; rw [Nat.zero_add]; rfl
  | succ a ih =>
    intro m
    by_cases h : m.outcome.isSome = true
    · rw [runFor_done h, runFor_done h, runFor_done h]
    · rw [Nat.succ_add]
      show (if m.outcome.isSome then m else Sre.M.runFor (a + b) m.step) = (if m.outcome.isSome then m else Sre.M.runFor a m.step).runFor b
      rw [if_neg h, if_neg h, ih]
theorem drive {Q : Sre.M → Shared → Prop} : ∀ (n t : Nat) (m : Sre.M), n < t → (m.runFor (4 * n)).outcome.isSome = true → Q (m.runFor (4 * n)) s → wpAny M A (reDrive t m) Q E s
  | _, 0, _, h, _, _ => absurd h (Nat.not_lt_zero _)
  | 0, t + 1, m, _, ho, hq => by
    have ho : m.outcome.isSome = true := ho
    have hq : Q m s := hq
    show wpAny M A (if (m.runFor reTurnSteps).outcome.isSome = true then pure (m.runFor reTurnSteps) else _) Q E s
    rw [runFor_done ho, if_pos ho]
    exact wpAny_pure hq
  | n + 1, t + 1, m, h, ho, hq => by
    have e : m.runFor (4 * (n + 1)) = (m.runFor 4).runFor (4 * n) := by rw [← runFor_add]; congr 1; omega
    rw [e] at ho hq
    show wpAny M A (if (m.runFor 4).outcome.isSome = true then pure (m.runFor 4) else (do rule "sre.turn"; reDrive t (m.runFor 4))) Q E s
    by_cases h4 : (m.runFor 4).outcome.isSome = true
    · rw [if_pos h4]
      rw [runFor_done h4] at hq
      exact wpAny_pure hq
    · rw [if_neg h4]
      exact wpAny_bind (wpAny_rule (drive n t _ (Nat.lt_of_succ_lt_succ h) ho hq))
theorem forRules {f : Nat → PUnit → Sem (ForInStep PUnit)} {Q : PUnit → Shared → Prop} (hf : ∀ i (Q : ForInStep PUnit → Shared → Prop), Q (.yield ⟨⟩) s → wpAny M A (f i ⟨⟩) Q E s) (h : Q ⟨⟩ s) : ∀ (l : List Nat),
    wpAny M A (forIn l PUnit.unit f) Q E s
  | [] => wpAny_pure h
  | i :: l => by
    rw [List.forIn_cons]
    exact wpAny_bind (hf i _ (forRules hf h l))
theorem runToEnd {m m' : Sre.M} {n : Nat} {r : Option Sre.M} {Q : Option Sre.M → Shared → Prop} (e : m.runFor (4 * n) = m') (hn : n < 2 ^ 64) (ho : m'.outcome = some .matched ∧ r = some m' ∨ m'.outcome = some .failed ∧ r = none) (h : Q r s) :
    wpAny M A (reRunToEnd m) Q E s := by
  unfold reRunToEnd
  refine wpAny_bind (drive n _ m hn (by rw [e]; rcases ho with ⟨o, _⟩ | ⟨o, _⟩ <;> rw [o] <;> rfl) ?_)
  rw [e]
  refine wpAny_bind ?_
  refine forRules (fun i Q hq => ?_) ?_ _
  · split
    · exact wpAny_bind (wpAny_rule (wpAny_pure hq))
    · exact wpAny_pure hq
  rcases ho with ⟨o, rfl⟩ | ⟨o, rfl⟩
  · rw [o]; exact wpAny_pure h
  · rw [o]; exact wpAny_pure h
end
end
end Mine

namespace Mine
section
open PySem.Builtin.Re PySem.Builtin PySem.Sre
section
variable {M : Model} {A : Around} {E : Value → Shared → Prop} {s : Shared}
structure PatAt (h : Heap) (a : Addr) (code : Array Nat) : Prop where
  is : ∃ o fs c oc items n, h.get? a = some o ∧ o.cls = .type "re.Pattern" ∧ o.dict = none ∧ o.data = .fields fs ∧ reRawNat (fs.getD 6 .none) = 1 ∧ reRawNat (fs.getD 2 .none) = 0 ∧ fs.getD 5 .none = .ref c ∧
    h.get? c = some oc ∧ oc.data = .seq items n ∧ (items.map reRawOf).map (·.toNat) = code
theorem PatAt.ext {h h' : Heap} {a : Addr} {code : Array Nat} (p : PatAt h a code) (e : ∀ b o, h.get? b = some o → h'.get? b = some o) : PatAt h' a code := by
  obtain ⟨o, fs, c, oc, items, n, h1, h2, h3, h4, h5, h6, h7, h8, h9⟩ := p.is
  exact ⟨o, fs, c, oc, items, n, e _ _ h1, h2, h3, h4, h5, h6, h7, e _ _ h8, h9⟩
theorem textOf {b : Array UInt8} {t : Tok} : reTextOf (.bytes b t) = pure (b.map (·.toNat), 1) := by
  unfold reTextOf
  show (Bytes.bufferQuiet? "_sre" (.bytes b t) >>= _) = _
  rw [KBy.quiet_eq]
  rfl
theorem noColl {b : Array UInt8} {t : Tok} : reNoCollectionInside (.bytes b t) 1 = pure () := by
  unfold reNoCollectionInside
  show (isInstance (.bytes b t) (.type "bytes") >>= _) = _
  rw [KBy.isInstance_eq]
  rfl
theorem litTurned {b : Array UInt8} {t : Tok} : reLiteralCannotBeTurned (.bytes b t) = pure () := by
  unfold reLiteralCannotBeTurned
  rw [show asStr? (.bytes b t) = pure none from rfl, KBy.isInstance_eq]
  rfl
theorem whole {a : Addr} {code : Array Nat} {b : Array UInt8} {t : Tok} {Q : ReTarget → Shared → Prop} (P : PatAt s.heap a code)
    (h : Q { pattern := .ref a, string := .bytes b t, code := code, text := b.map (·.toNat), kind := 1, groups := 0, pos := 0, lim := (b.map (·.toNat)).size } s) :
    wpAny M A (reWholeTarget (.ref a) (.bytes b t)) Q E s := by
  obtain ⟨o, fs, c, oc, items, n, h1, h2, h3, h4, h5, h6, h7, h8, h9, h10⟩ := P.is
  unfold reWholeTarget
  refine wpAny_bind (wpAny_fieldsOf h1 h4 ?_)
  refine wpAny_bind (wpAny_of_eq textOf ?_)
  dsimp only
  rw [h5, h7]
  refine wpAny_bind (wpAny_of_eq noColl ?_)
  unfold reRawItems
  refine wpAny_bind (wpAny_bind (wpAny_seqItems h8 h9 (wpAny_pure ?_)))
  rw [h6, Option.getD_some, h10]
  exact wpAny_pure h
end
end
end Mine

namespace Mine
section
open PySem.Builtin.Re PySem.Builtin PySem.Sre
section
variable {M : Model} {A : Around} {E : Value → Shared → Prop} {s : Shared}
theorem take_eq {id : String} {b : Array UInt8} {t : Tok} : Bytes.takeBufferQuiet? id (.bytes b t) 0 = pure (some (b, none)) := by
  unfold Bytes.takeBufferQuiet? Bytes.takeBuffer?
  rw [KBy.special_eq KBy.look_buffer, KBy.own_buffer, show ((0 : Int) == Bytes.fullReadOnly) = false from rfl, KBy.buffer_eq]
  kernel_rfl
theorem payload_eq {b : Array UInt8} {t : Tok} : Bytes.payload (.bytes b t) = pure b := rfl
theorem sub_list : isSubtype (.type "list") (.type "list") = pure true := by rw [isSubtype_type]; kernel_rfl
theorem tyb {b : Array UInt8} {t : Tok} : typeOf (.bytes b t) = pure (.type "bytes") := rfl
theorem join2 {x y : Array UInt8} {tj tx ty : Tok} {l n : Nat} {Q : Fin → Shared → Prop} (hl : s.heap.get? l = some { cls := .type "list", data := .seq #[.bytes x tx, .bytes y ty] n }) (hz : x.size + y.size ≤ 1000000)
    (h : ∀ t k, Q (.done (.ret (.bytes (x ++ y) t))) { s with toks := k }) : wpAny M A («bytes.join» ⟨[.bytes #[] tj, .ref l], []⟩) Q E s := by
  unfold «bytes.join» Bytes.joinM Bytes.joinItems
  refine wpAny_bind (wpAny_pure ?_)
  dsimp only
  refine wpAny_bind (wpAny_bind (wpAny_typeOf_ref hl ?_))
  refine wpAny_pure ?_
  refine wpAny_bind (wpAny_seqItems hl rfl ?_)
  show wpAny M A (forIn [:2] ((#[] : Array (Array UInt8)), ([] : List (Value × Option Value))) _ >>= _) Q E s
  refine wpAny_bind ?_
  rw [Std.Legacy.Range.forIn_eq_forIn_range', show List.range' [:2].start [:2].size [:2].step = [0, 1] from rfl]
  rw [List.forIn_cons]
  refine wpAny_bind (wpAny_bind (wpAny_seqItems hl rfl ?_))
  dsimp only
  rw [if_neg (by decide)]
  refine wpAny_bind (wpAny_holding (wpAny_of_eq (take_eq (b := x) (t := tx)) ?_))
  dsimp only
  refine wpAny_bind (wpAny_seqItems hl rfl ?_)
  dsimp only
  rw [if_neg (by simp)]
  refine wpAny_pure ?_
  dsimp only
  rw [List.forIn_cons]
  refine wpAny_bind (wpAny_bind (wpAny_seqItems hl rfl ?_))
  dsimp only
  rw [if_neg (by first | decide | simp [Value.onHeap])]
  refine wpAny_bind (wpAny_holding (wpAny_of_eq (take_eq (b := y) (t := ty)) ?_))
  dsimp only
  refine wpAny_bind (wpAny_seqItems hl rfl ?_)
  dsimp only
  rw [if_neg (by simp)]
  refine wpAny_pure ?_
  dsimp only
  rw [List.forIn_nil]
  refine wpAny_pure ?_
  dsimp only
  refine wpAny_bind (wpAny_of_eq payload_eq ?_)
  rw [if_neg (by
    rw [KBy.tooLong_not (by simp; omega)]
    exact Bool.false_ne_true)]
  have ej : Bytes.joined #[] ((#[].push x).push y).toList = x ++ y := by
    simp [Bytes.joined]
  rw [ej]
  refine wpAny_bind ?_
  show wpAny M A (mkBytes (x ++ y)) _ E s
  refine wpAny_mkBytes ?_ (by rw [Array.size_append, sizeLine_eq]; omega)
  refine wpAny_bind (wpAny_holding (wpAny_point ?_))
  refine wpAny_bind ?_
  show wpAny M A (Bytes.joinLetGo [(_, none), (_, none)] _) _ E _
  unfold Bytes.joinLetGo
  refine wpAny_bind (wpAny_letGo ?_)
  unfold Bytes.joinLetGo
  refine wpAny_bind (wpAny_letGo ?_)
  unfold Bytes.joinLetGo
  refine wpAny_pure ?_
  exact wpAny_pure (h _ _)
end
end
end Mine

namespace Mine
section
open PySem.Builtin.Re PySem.Builtin PySem.Sre
def txt (b : Array UInt8) : Array Nat := b.map (·.toNat)
/-- the machine's two searches over b: a match from i to the end; then none -/
structure Cut (code : Array Nat) (b : Array UInt8) (i : Nat) : Prop where
  pos : 0 < i
  lt : i < (txt b).size
  small : (txt b).size ≤ 1000
  one : ∃ n m, (Sre.forSearch code (txt b) 0 0 (txt b).size false).runFor (4 * n) = m ∧ n < 2 ^ 64 ∧ m.outcome = some .matched ∧ m.start = i ∧ m.handed = (txt b).size
  two : ∃ n m, (Sre.forSearch code (txt b) 0 (txt b).size (txt b).size false).runFor (4 * n) = m ∧ n < 2 ^ 64 ∧ m.outcome = some .failed
def piece (b : Array UInt8) (lo hi : Nat) : Array UInt8 := ((txt b).extract lo hi).map (·.toUInt8)
section
variable {prog : Program} {w : World} {A : Around} {s : Shared}
theorem sub_two {a l k : Nat} {code : Array Nat} {b : Array UInt8} {t t1 tx ty t4 t5 t6 t7 t8 : Tok} {i : Nat} {x y : Array UInt8} {R : Result → Shared → Prop} (P : PatAt s.heap a code) (C : Cut code b i)
    (hl : s.heap.get? l = some { cls := .type "list", data := .seq #[.bytes x tx, .bytes y ty] k }) (hz : x.size + y.size ≤ 1000000)
    (h : ∀ t k, R (.ok (.ret (.bytes (x ++ y) t))) { s with toks := k }) :
    codeAny (model prog w) A (.builtin "re.Pattern.sub.loop" ⟨[.ref a, .bytes b t, .bytes #[] t1, .int 0 t4, .int 0 t5, .int 1 t6, .int (txt b).size t7, .int (txt b).size t8, .bool false, .ref l, .bool false], []⟩) R s := by
  refine codeAny_builtin SF.entry_sub_loop ?_
  rw [Around.under_plainId SF.plain_sub_loop]
  unfold «re.Pattern.sub.loop»
  refine wpAny_bind (whole P ?_)
  dsimp only
  rw [if_pos (by decide)]
  refine wpAny_bind (wpAny_of_eq litTurned ?_)
  rw [if_neg (by decide)]
  obtain ⟨n, m, e, hn, ho⟩ := C.two
  refine wpAny_bind (runToEnd (m' := m) (n := n) (r := none) e hn (.inr ⟨ho, rfl⟩) ?_)
  dsimp only
  rw [if_neg (by show ¬ ((txt b).size < (txt b).size); omega)]
  refine wpAny_bind ?_
  have e0 : (Array.extract (txt b) 0 0).map (·.toUInt8) = (#[] : Array UInt8) := by simp
  show wpAny _ _ (mkBytes ((Array.extract (txt b) 0 0).map (·.toUInt8))) _ _ s
  rw [e0]
  refine wpAny_mkBytes ?_ (by simp)
  refine wpAny_bind (wpAny_seqItems hl rfl ?_)
  rw [if_neg (by simp)]
  refine wpAny_bind ?_
  show wpAny _ _ (call (.builtin "bytes.join") [.bytes #[] _, .ref l]) _ _ _
  refine call_meets SF.slot_join (typeIs_bytes _ _ _) SF.entry_join (SF.args_join_2 _ _) (Meets.of_wp (S := fun A R s => s.heap.get? l = some { cls := .type "list", data := .seq #[.bytes x tx, .bytes y ty] k } ∧ ∀ t k, R (.ok (.ret (.bytes (x ++ y) t))) { s with toks := k }) fun prog w A R s hS => ?_) ⟨hl, fun t k => ?_⟩
  · exact join2 hS.1 hz fun t k => ⟨_, rfl, hS.2 t k⟩
  · show wpAny _ _ (if false = true then _ else _) _ _ _
    rw [if_neg (by decide)]
    exact wpAny_pure (h _ _)
theorem mapSeq_push (its : Array Value) (n : Nat) (v : Value) : Obj.mapSeq (·.push v) { cls := .type "list", data := .seq its n } = { cls := .type "list", data := .seq (its.push v) (n + 1) } := by
  simp [Obj.mapSeq]
theorem ext_update {h₀ h : Heap} {l : Addr} {o : Obj} {f : Obj → Obj} (e : ∀ b o, h₀.get? b = some o → h.get? b = some o) (hn : h₀.get? l = none) (_ho : h.get? l = some o) : ∀ b o, h₀.get? b = some o → (h.update l f).get? b = some o := by
  intro b o hb
  have hne : b ≠ l := fun q => by rw [q, hn] at hb; cases hb
  rw [(Heap.SameBut.update ..).2 _ hne]
  exact e _ _ hb
theorem sub_one {a l : Nat} {h₀ : Heap} {code : Array Nat} {b : Array UInt8} {t t1 t4 t5 t6 t7 t8 : Tok} {i : Nat} {R : Result → Shared → Prop} (P : PatAt h₀ a code) (C : Cut code b i) (e₀ : ∀ b o, h₀.get? b = some o → s.heap.get? b = some o) (hn₀ : h₀.get? l = none)
    (hl : s.heap.get? l = some { cls := .type "list", data := .seq #[] 0 })
    (h : ∀ h' t k, (∀ b o, h₀.get? b = some o → h'.get? b = some o) → R (.ok (.ret (.bytes (piece b 0 i) t))) { s with heap := h', toks := k }) :
    codeAny (model prog w) A (.builtin "re.Pattern.sub.loop" ⟨[.ref a, .bytes b t, .bytes #[] t1, .int 0 t4, .int 0 t5, .int 0 t6, .int 0 t7, .int 0 t8, .bool false, .ref l, .bool false], []⟩) R s := by
  refine codeAny_builtin SF.entry_sub_loop ?_
  rw [Around.under_plainId SF.plain_sub_loop]
  unfold «re.Pattern.sub.loop»
  refine wpAny_bind (whole (P.ext e₀) ?_)
  dsimp only
  rw [if_pos (by decide)]
  refine wpAny_bind (wpAny_of_eq litTurned ?_)
  rw [if_neg (by decide)]
  obtain ⟨n, m, e, hn, ho, hs, hh⟩ := C.one
  refine wpAny_bind (runToEnd (m' := m) (n := n) (r := some m) e hn (.inl ⟨ho, rfl⟩) ?_)
  dsimp only
  have hlt := C.lt
  have hpos := C.pos
  have hsm := C.small
  rw [if_pos (by show (0 : Int).toNat < m.start; rw [hs]; exact hpos)]
  refine wpAny_bind ?_
  show wpAny _ _ (mkBytes ((Array.extract (txt b) 0 m.start).map (·.toUInt8))) _ _ s
  rw [hs, hh]
  refine wpAny_mkBytes ?_ (by rw [Array.size_map, Array.size_extract, sizeLine_eq]; omega)
  refine wpAny_bind (wpAny_updateSeq hl rfl ?_ (by simp) (by simp))
  rw [if_pos (by decide)]
  refine wpAny_bind (wpAny_pure ?_)
  rw [if_pos (by rfl)]
  have hl1 := Heap.get?_update_self (f := Obj.mapSeq (·.push (.bytes (Array.map (fun x => x.toUInt8) ((txt b).extract 0 i)) s.toks))) hl (by rw [mapSeq_push]; rfl)
  rw [mapSeq_push] at hl1
  have e1 := ext_update (f := Obj.mapSeq (·.push (.bytes (Array.map (fun x => x.toUInt8) ((txt b).extract 0 i)) s.toks))) e₀ hn₀ hl
  refine wpAny_bind (wpAny_updateSeq hl1 rfl ?_ (by simp [sizeLine_eq]) (by simp [sizeLine_eq]))
  have hl2 := Heap.get?_update_self (f := Obj.mapSeq (·.push (.bytes #[] t1))) hl1 (by rw [mapSeq_push]; rfl)
  rw [mapSeq_push] at hl2
  have e2 := ext_update (f := Obj.mapSeq (·.push (.bytes #[] t1))) e1 hn₀ hl1
  refine wpAny_pure ⟨plainId_quiet SF.plain_sub_loop _, ?_⟩
  rw [show ((txt b).size == i) = false from by simp; omega]
  refine sub_two (P.ext e2) C hl2 (by simp; omega) (fun t k => ?_)
  rw [Array.append_empty]
  exact h _ _ _ e2
end
end
end Mine

namespace Mine
section
open PySem.Builtin.Re PySem.Builtin PySem.Sre
section
variable {prog : Program} {w : World} {A : Around} {E : Value → Shared → Prop} {s : Shared}
theorem named3 (x y : Value) : reNamed "re.Pattern.sub" "sub" ["repl", "string", "count"] 2 [x, y] [] = pure [some x, some y, none] := by kernel_rfl
theorem sub_c {a : Nat} {code : Array Nat} {b : Array UInt8} {t t1 : Tok} {i : Nat} {Q : Value → Shared → Prop} (P : PatAt s.heap a code) (C : Cut code b i)
    (h : ∀ h' t k, (∀ b o, s.heap.get? b = some o → h'.get? b = some o) → Q (.bytes (piece b 0 i) t) { s with heap := h', toks := k }) :
    wpAny (model prog w) A (call (.builtin "re.Pattern.sub") [.ref a, .bytes #[] t1, .bytes b t]) Q E s := by
  have hT : s.TypeIs (.ref a) "re.Pattern" := by
    obtain ⟨o, fs, c, oc, items, n, h1, h2, h3, h4, h5, h6, h7, h8, h9, h10⟩ := P.is
    exact ⟨o, h1, h2⟩
  refine call_meets SF.slot_sub hT SF.entry_sub (SF.args_sub_3 _ _ _) (S := fun A R s => PatAt s.heap a code ∧ ∀ h' t k, (∀ b o, s.heap.get? b = some o → h'.get? b = some o) → R (.ok (.ret (.bytes (piece b 0 i) t))) { s with heap := h', toks := k }) (fun prog w A R s hS => ?_) ⟨P, fun h' t k e => h h' t k e⟩
  unfold «re.Pattern.sub» reSubstitute
  refine wpAny_bind (wpAny_of_eq (named3 _ _) ?_)
  dsimp only
  refine wpAny_bind (wpAny_pure ?_)
  refine wpAny_bind (wpAny_of_eq (KBy.special_eq SF.look_call) ?_)
  rw [if_neg (by decide)]
  refine wpAny_bind (wpAny_of_eq (show asStr? (.bytes #[] t1) = pure none from rfl) ?_)
  dsimp only
  refine wpAny_bind (wpAny_of_eq KBy.quiet_eq ?_)
  dsimp only
  refine wpAny_bind (wpAny_pure ?_)
  rw [if_neg (by decide), if_pos (by simp)]
  refine wpAny_bind (wpAny_pure ?_)
  dsimp only
  refine wpAny_bind (wpAny_holding (whole hS.1 ?_))
  rw [if_neg (by decide)]
  refine wpAny_bind (wpAny_newList ?_)
  refine wpAny_pure ⟨plainId_quiet SF.plain_sub_loop _, ?_⟩
  exact sub_one hS.1 C (fun b o e => Heap.get?_push_of_some _ e) (by
    cases q : s.heap.get? s.heap.objs.size with
    | none => rfl
    | some o => exact absurd (Heap.lt_size q) (Nat.lt_irrefl _)) (Heap.get?_push_size _ rfl) (fun h' t k e => hS.2 h' t k e)
theorem type_pat {a : Addr} {code : Array Nat} (P : PatAt s.heap a code) : s.TypeIs (.ref a) "re.Pattern" := by
  obtain ⟨o, fs, c, oc, items, n, h1, h2, h3, h4, h5, h6, h7, h8, h9, h10⟩ := P.is
  exact ⟨o, h1, h2⟩
theorem sub_m {M : Model} {a : Addr} {code : Array Nat} {pl : Sem Bool} {Q : Value × List Value → Shared → Prop} (P : PatAt s.heap a code) (h : Q (.builtin "re.Pattern.sub", [.ref a]) s) : wpAny M A (getMethod (.ref a) "sub" pl) Q E s :=
  getMethod_builtin (type_pat P) SF.plainAttrs_pat SF.slot_sub SF.type_sub (fun c e => by
    cases e
    obtain ⟨o, fs, c, oc, items, n, h1, h2, h3, h4, h5, h6, h7, h8, h9, h10⟩ := P.is
    exact ⟨o, h1, h3⟩) h
theorem count_m {M : Model} {b : Array UInt8} {t : Tok} {pl : Sem Bool} {Q : Value × List Value → Shared → Prop} (h : Q (.builtin "bytes.count", [.bytes b t]) s) : wpAny M A (getMethod (.bytes b t) "count" pl) Q E s :=
  getMethod_builtin (typeIs_bytes _ _ _) FB.plainAttrs_bytes SF.slot_count SF.type_count (fun _ e => nomatch e) h
def countF (b : Array UInt8) (c : UInt8) : Nat := if (b.size : Int) < 1 then 0 else (Bytes.occurrences b #[c] 0 b.size).length
theorem count_c {b : Array UInt8} {c : UInt8} {t u : Tok} {Q : Value → Shared → Prop} (h : ∀ t k, Q (.int (countF b c) t) { s with toks := k }) :
    wpAny (model prog w) A (call (.builtin "bytes.count") [.bytes b t, .bytes #[c] u]) Q E s := by
  refine call_meets SF.slot_count (typeIs_bytes _ _ _) SF.entry_count (SF.args_count_2 _ _) (Meets.of_wp (S := fun A R s => ∀ t k, R (.ok (.ret (.int (countF b c) t))) { s with toks := k }) fun prog w A R s hS => ?_) (fun t k => h t k)
  unfold «bytes.count» Bytes.countM Bytes.searchArgs
  refine wpAny_bind (wpAny_bind (wpAny_pure ?_))
  dsimp only
  refine wpAny_bind (wpAny_pure ?_)
  refine wpAny_bind (wpAny_pure ?_)
  refine wpAny_bind (wpAny_of_eq (KBy.buffer_eq (b := #[c]) (t := u)) ?_)
  dsimp only
  refine wpAny_bind (wpAny_pure ?_)
  refine wpAny_bind (wpAny_of_eq payload_eq ?_)
  refine wpAny_pure ?_
  have e1 : (Bytes.window b.size none none).1 = 0 := rfl
  have e2 : (Bytes.window b.size none none).2 = (b.size : Int) := by simp [Bytes.window]; omega
  dsimp only
  rw [e1, e2]
  unfold countF at hS
  by_cases hb : (b.size : Int) < 1
  · rw [if_pos (by simpa using hb)]
    simp only [if_pos hb] at hS
    exact wpAny_bind (wpAny_mkInt (wpAny_pure ⟨_, rfl, hS _ _⟩))
  · rw [if_neg (by simpa using hb)]
    simp only [if_neg hb] at hS
    dsimp only
    rw [if_neg (by simp)]
    exact wpAny_bind (wpAny_mkInt (wpAny_pure ⟨_, rfl, by simpa using hS _ _⟩))
end
end
end Mine

namespace Mine
section
open PySem.Sre
def quotedCode : Array Nat := #[14, 8, 1, 2, 4294967295, 1, 1, 34, 0, 16, 34, 28, 22, 0, 4294967295, 7, 11, 13, 7, 21, 16, 34, 16, 92, 0, 15, 8, 6, 16, 92, 2, 15, 2, 0, 1, 16, 34, 1]
def safeL (r : Nat) : List Nat := ([[], [92, 34, 40], [40], [40, 46, 41], [41], [67], [67, 46, 40], [92, 92, 40, 92, 92], [97, 46, 92, 34]] : List (List Nat)).getD r []
def pieceL (s r : Nat) : List Nat := List.replicate s 41 ++ ([40, 34] ++ (safeL r ++ [34]))
def pieceB (s r : Nat) : Array UInt8 := ((pieceL s r).map (·.toUInt8)).toArray
def cutOk (s r : Nat) : Bool :=
  let b := pieceB s r
  let m := (Sre.forSearch quotedCode (txt b) 0 0 (txt b).size false).runFor (4 * 20)
  let m2 := (Sre.forSearch quotedCode (txt b) 0 (txt b).size (txt b).size false).runFor (4 * 20)
  (match m.outcome with | some .matched => true | _ => false) && m.start == s + 1 && m.handed == (txt b).size && (match m2.outcome with | some .failed => true | _ => false) && decide (s + 1 < (txt b).size) && decide ((txt b).size ≤ 1000)
    && countF (piece b 0 (s + 1)) 40 == 1 && countF (piece b 0 (s + 1)) 41 == s
theorem cutOk0 : (List.range 8).all (fun s => cutOk s 0) = true := by decide +kernel
theorem cutOk1 : (List.range 8).all (fun s => cutOk s 1) = true := by decide +kernel
theorem cutOk2 : (List.range 8).all (fun s => cutOk s 2) = true := by decide +kernel
theorem cutOk3 : (List.range 8).all (fun s => cutOk s 3) = true := by decide +kernel
theorem cutOk4 : (List.range 8).all (fun s => cutOk s 4) = true := by decide +kernel
theorem cutOk5 : (List.range 8).all (fun s => cutOk s 5) = true := by decide +kernel
theorem cutOk6 : (List.range 8).all (fun s => cutOk s 6) = true := by decide +kernel
theorem cutOk7 : (List.range 8).all (fun s => cutOk s 7) = true := by decide +kernel
theorem cutOk8 : (List.range 8).all (fun s => cutOk s 8) = true := by decide +kernel
theorem cut_ok {s r : Nat} (hs : s < 8) (hr : r < 9) : cutOk s r = true := by
  have hm : s ∈ List.range 8 := List.mem_range.mpr hs
  rcases (by omega : r = 0 ∨ r = 1 ∨ r = 2 ∨ r = 3 ∨ r = 4 ∨ r = 5 ∨ r = 6 ∨ r = 7 ∨ r = 8) with h | h | h | h | h | h | h | h | h <;> subst h
  · exact List.all_eq_true.mp cutOk0 s hm
  · exact List.all_eq_true.mp cutOk1 s hm
  · exact List.all_eq_true.mp cutOk2 s hm
  · exact List.all_eq_true.mp cutOk3 s hm
  · exact List.all_eq_true.mp cutOk4 s hm
  · exact List.all_eq_true.mp cutOk5 s hm
  · exact List.all_eq_true.mp cutOk6 s hm
  · exact List.all_eq_true.mp cutOk7 s hm
  · exact List.all_eq_true.mp cutOk8 s hm
theorem out_matched {o : Option Sre.Outcome} (h : (match o with | some .matched => true | _ => false) = true) : o = some .matched := by
  split at h
  · rfl
  · cases h
theorem out_failed {o : Option Sre.Outcome} (h : (match o with | some .failed => true | _ => false) = true) : o = some .failed := by
  split at h
  · rfl
  · cases h
theorem cut_piece {s r : Nat} (hs : s < 8) (hr : r < 9) : Cut quotedCode (pieceB s r) (s + 1) ∧ countF (piece (pieceB s r) 0 (s + 1)) 40 = 1 ∧ countF (piece (pieceB s r) 0 (s + 1)) 41 = s := by
  have h := cut_ok hs hr
  unfold cutOk at h
  simp only [Bool.and_eq_true, beq_iff_eq, decide_eq_true_eq] at h
  obtain ⟨⟨⟨⟨⟨⟨⟨h1, h2⟩, h3⟩, h4⟩, h5⟩, h6⟩, h7⟩, h8⟩ := h
  exact ⟨⟨Nat.succ_pos _, h5, h6, ⟨20, _, rfl, by decide, out_matched h1, h2, h3⟩, ⟨20, _, rfl, by decide, out_failed h4⟩⟩, h7, h8⟩
end
end Mine

namespace Mine
section
set_option rowWalk.seconds 0
set_option linter.unusedSectionVars false
set_option linter.unusedVariables false
set_option linter.unusedSimpArgs false
local macro_rules | `(tactic| walk_at "m enter") => `(tactic| (refine' enter ?k3 ?k5 ?k6 ?k7 ?k8 ?k9 ?kB ?_ ?c2 ?c3 ?c4 ?c5; (case k3 => assumption); (case k5 => assumption); (case k6 => k_is); (case k7 => k_is); (case k8 => ((try dsimp only); omega)); (case k9 => exact BindsTo.of_eq rfl); (case c5 => decide); (case kB => exact locs rfl); (case c2 => exact rfl); (case c3 => exact rfl); (case c4 => exact rfl); k_whole))
theorem pat59 {w : World} {g : Heap} (X : (hd.heap_39 w.params).In g) : PatAt g 59 quotedCode := by
  refine ⟨⟨_, _, _, _, _, _, X 59 _ (by rfl), rfl, rfl, rfl, by rfl, by rfl, by rfl, X 58 _ (by rfl), rfl, by decide +kernel⟩⟩
section
variable {w : World} {mean : ExcName → Option Value} {mg mb : Str → Option Value} {dp un : Nat} {fr : Option (List Env)} {gd : Option (List Code)} {Q E : Value → Shared → Prop} {g : Heap} {gs : Array GenState} {d : Drawn} {tk : Nat} {os : OsState}
  (X : (hd.heap_39 w.params).In g) (T : TP mean mg mb g) (hA : dp + 20 < recursionLimit) (hu : un + 100 < cLine)
include X T hA hu
local macro_rules | `(tactic| walk_at "getMethod ref") => `(tactic| ((with_reducible rename Mk 67 => hMk); refine sub_m (pat59 (Frag.In.keeps (by assumption) (Fr.keep (by assumption)))) ?_))
local macro_rules | `(tactic| walk_at "getMethod bytes") => `(tactic| ((with_reducible rename Mk 67 => hMk); refine count_m ?_))
local macro_rules | `(tactic| walk_at "call builtin:re.Pattern.sub") => `(tactic| ((with_reducible rename Mk 67 => hMk); refine sub_c (pat59 (Frag.In.keeps (by assumption) (Fr.keep (by assumption)))) (cut_piece (by assumption) (by assumption)).1 ?_; intro h9 t9 k9 e9; (have F9 := fr_ext (by assumption) e9); (have N9 := news_ext (by assumption) e9)))
local macro_rules | `(tactic| walk_at "call builtin:bytes.count") => `(tactic| ((with_reducible rename Mk 67 => hMk); refine count_c ?_; intro t9 k9))
set_option maxHeartbeats 4000000 in
theorem paren_c {s r : Nat} {tb td : Tok} {dpt : Int} (hs : s < 8) (hr : r < 9) (hd : -1000 ≤ dpt ∧ dpt ≤ 1000)
    (hret : ∀ h' tk' t, Ext g h' → Q (.int (dpt + 1 - s) t) ⟨h', gs, d, tk', os⟩) :
    wpAny (model prg w) ⟨none, dp, fr, gd, un⟩ (call (.ref 67) [.bytes (pieceB s r) tb, .int dpt td] []) Q E ⟨g, gs, d, tk, os⟩ := by
  have hMk := mk 67
  refine wpAny_call ?_
  refine' enter (binds := [(Str.ofString "data", .bytes (pieceB s r) tb), (Str.ofString "depth", .int dpt td)]) ?k3 ?k5 ?k6 ?k7 ?k8 ?k9 ?kB ?_ ?c2 ?c3 ?c4 ?c5; (case k3 => assumption); (case k5 => assumption); (case k6 => k_is); (case k7 => k_is); (case k8 => ((try dsimp only); omega)); (case k9 => exact kp_binds (by assumption) (fun S => by rfl)); (case c5 => decide); (case kB => exact locs rfl); (case c2 => exact rfl); (case c3 => exact rfl); (case c4 => exact rfl); k_whole
  intro L h₁ tk F N
  dsimp only
  k_steps
  dsimp only
  have hc := cut_piece (s := s) (r := r) (by assumption) (by assumption)
  rw [hc.2.1, hc.2.2]
  exact hret _ _ _ (Fr.keep (by assumption))
end
end
end Mine

namespace Mine
section
set_option rowWalk.seconds 0
set_option linter.unusedSectionVars false
set_option linter.unusedVariables false
set_option linter.unusedSimpArgs false
local macro_rules | `(tactic| walk_at "m enter") => `(tactic| (refine' enter ?k3 ?k5 ?k6 ?k7 ?k8 ?k9 ?kB ?_ ?c2 ?c3 ?c4 ?c5; (case k3 => assumption); (case k5 => assumption); (case k6 => k_is); (case k7 => k_is); (case k8 => ((try dsimp only); omega)); (case k9 => exact BindsTo.of_eq rfl); (case c5 => decide); (case kB => exact locs rfl); (case c2 => exact rfl); (case c3 => exact rfl); (case c4 => exact rfl); k_whole))
section
variable {w : World} {mean : ExcName → Option Value} {mg mb : Str → Option Value} {dp un : Nat} {fr : Option (List Env)} {gd : Option (List Code)} {Q E : Value → Shared → Prop} {g : Heap} {gs : Array GenState} {d : Drawn} {tk : Nat} {os : OsState}
  (X : (hd.heap_39 w.params).In g) (T : TP mean mg mb g) (hA : dp + 20 < recursionLimit) (hu : un + 100 < cLine)
include X T hA hu
omit X T hA hu in
theorem bis_half {lo hi : Int} (h0 : 0 ≤ lo) (h : lo < hi) : lo ≤ (lo + hi).fdiv 2 ∧ (lo + hi).fdiv 2 < hi := by
  rw [Int.fdiv_eq_ediv_of_nonneg _ (by omega)]; omega
def Srt (ns : List Int) : Prop := ∀ i j : Nat, i ≤ j → j < ns.length → ns.getD i 0 ≤ ns.getD j 0
def Bis (ns : List Int) (x lo hi : Int) : Prop := 0 ≤ lo ∧ lo ≤ hi ∧ hi ≤ (ns.length : Int) ∧ (∀ i : Nat, (i : Int) < lo → ns.getD i 0 < x) ∧ (∀ i : Nat, hi ≤ (i : Int) → i < ns.length → ¬ ns.getD i 0 < x)
omit X T hA hu in
theorem bis_start {ns : List Int} {x : Int} : Bis ns x 0 (ns.length : Int) := ⟨by omega, by omega, by omega, fun i h => by omega, fun i h h2 => by omega⟩
omit X T hA hu in
theorem bis_lt {ns : List Int} {x lo hi : Int} (S : Srt ns) (b : Bis ns x lo hi) (h : lo < hi) (hx : ns.getD ((lo + hi).fdiv 2).toNat 0 < x) : Bis ns x ((lo + hi).fdiv 2 + 1) hi := by
  obtain ⟨h0, h1, h2, h3, h4⟩ := b
  have hm := bis_half h0 h
  refine ⟨by omega, by omega, h2, fun i hi' => ?_, h4⟩
  exact Int.lt_of_le_of_lt (S i _ (by omega) (by omega)) hx
omit X T hA hu in
theorem bis_ge {ns : List Int} {x lo hi : Int} (S : Srt ns) (b : Bis ns x lo hi) (h : lo < hi) (hx : ¬ ns.getD ((lo + hi).fdiv 2).toNat 0 < x) : Bis ns x lo ((lo + hi).fdiv 2) := by
  obtain ⟨h0, h1, h2, h3, h4⟩ := b
  have hm := bis_half h0 h
  refine ⟨h0, by omega, by omega, h3, fun i hi' hl hc => hx ?_⟩
  exact Int.lt_of_le_of_lt (S _ i (by omega) hl) hc
omit X T hA hu in
theorem bis_start2 {ns : List Int} {x : Int} : Bis ns x 0 (ns.length : Int) ∧ (0 : Int) ≤ 0 ∧ (ns.length : Int) ≤ (ns.length : Int) := ⟨bis_start, Int.le_refl _, Int.le_refl _⟩
omit X T hA hu in
theorem bis_lt2 {ns : List Int} {x lo hi : Int} (S : Srt ns) (b : Bis ns x lo hi) (h : lo < hi) (hx : ns.getD ((lo + hi).fdiv 2).toNat 0 < x) : Bis ns x ((lo + hi).fdiv 2 + 1) hi ∧ 0 ≤ (lo + hi).fdiv 2 + 1 ∧ hi ≤ (ns.length : Int) :=
  have q := bis_lt S b h hx; ⟨q, q.1, q.2.2.1⟩
omit X T hA hu in
theorem bis_ge2 {ns : List Int} {x lo hi : Int} (S : Srt ns) (b : Bis ns x lo hi) (h : lo < hi) (hx : ¬ ns.getD ((lo + hi).fdiv 2).toNat 0 < x) : Bis ns x lo ((lo + hi).fdiv 2) ∧ 0 ≤ lo ∧ (lo + hi).fdiv 2 ≤ (ns.length : Int) :=
  have q := bis_ge S b h hx; ⟨q, q.1, q.2.2.1⟩
omit X T hA hu in
theorem bis_done {ns : List Int} {x lo hi : Int} (b : Bis ns x lo hi) (h : ¬ lo < hi) : Bis ns x lo lo := by
  have e : lo = hi := by have := b.2.1; omega
  subst e; exact b
set_option maxHeartbeats 4000000 in
theorem bisect_c {a : Addr} {vs : List Value} {ns : List Int} {x : Int} {tx : Tok} (hl : g.IsList a vs.toArray) (hi : IntsAre vs ns) (h7 : ns.length ≤ 1000) (hS : Srt ns) 
    (hret : ∀ h' tk' v t, Ext g h' → Bis ns x v v → Q (.int v t) ⟨h', gs, d, tk', os⟩) :
    wpAny (model prg w) ⟨none, dp, fr, gd, un⟩ (call (.ref 54) [.ref a, .int x tx] []) Q E ⟨g, gs, d, tk, os⟩ := by
  have hMk := mk 54
  refine wpAny_call ?_
  refine' enter (binds := [(Str.ofString "a", .ref a), (Str.ofString "x", .int x tx), (Str.ofString "lo", .int 0 303), (Str.ofString "hi", .none), (Str.ofString "key", .none)]) ?k3 ?k5 ?k6 ?k7 ?k8 ?k9 ?kB ?_ ?c2 ?c3 ?c4 ?c5; (case k3 => assumption); (case k5 => assumption); (case k6 => k_is); (case k7 => k_is); (case k8 => ((try dsimp only); omega)); (case k9 => exact kp_binds (by assumption) (fun S => by rfl)); (case c5 => decide); (case kB => exact locs rfl); (case c2 => exact rfl); (case c3 => exact rfl); (case c4 => exact rfl); k_whole
  intro L h₁ tk F N
  dsimp only
  (k_with "exec While Compare cons nil" => k_while_given ["x"] (fun x ns lo hi => Bis ns x lo hi ∧ 0 ≤ lo ∧ hi ≤ (ns.length : Int)) (fun x ns lo hi => (hi - lo).toNat) "lo" "hi")
  (k_with "state" => first | exact bis_start2 | exact bis_lt2 (by assumption) (by assumption) (by assumption) (by assumption) | exact bis_ge2 (by assumption) (by assumption) (by assumption) (by (first | assumption | omega)))
  (k_with "measure" => have hm8 := bis_half (by assumption) (by assumption); omega)
  k_steps
  dsimp only
  have hB := (by assumption : Bis _ _ _ _)
  have hge := (by assumption : ¬ (_ : Int) < (_ : Int))
  exact hret _ _ _ _ (Fr.keep (by assumption)) (bis_done hB hge)
end
end
end Mine

namespace Mine
section
def rdp (sh : List Nat) : Nat → Int
  | 0 => 0
  | k + 1 => rdp sh k + 1 - (sh.getD k 0 : Nat)
def rps (sh : List Nat) : Nat → List Int
  | 0 => []
  | k + 1 => (rps sh k).take (rdp sh (k + 1) - 1).toNat ++ [(k : Int)]
def firstGe (ps : List Int) (i : Int) : Int := (ps.filter fun x => decide (i ≤ x)).headD 0
def rds (sh : List Nat) (n : Nat) : List Int := (List.range n).map fun j => rdp sh (j + 1)
def rts (sh : List Nat) (n : Nat) : List (List Int) := (List.range n).map fun j => (rangeKs 0 (j + 1)).map (firstGe (rps sh (j + 1)))
/-- the shut brackets never outnumber the open ones -/
def ShOk (sh : List Nat) : Prop := ∀ k, k < sh.length → ((sh.getD k 0 : Nat) : Int) ≤ rdp sh k
theorem rdp_bound {sh : List Nat} (H : ShOk sh) : ∀ k, k ≤ sh.length → 0 ≤ rdp sh k ∧ rdp sh k ≤ k
  | 0, _ => by simp [rdp]
  | k + 1, hk => by
    have ih := rdp_bound H k (by omega)
    have h := H k (by omega)
    simp only [rdp]; omega
theorem rps_len {sh : List Nat} (H : ShOk sh) : ∀ k, k ≤ sh.length → ((rps sh k).length : Int) = rdp sh k
  | 0, _ => by simp [rdp, rps]
  | k + 1, hk => by
    have ih := rps_len H k (by omega)
    have h := H k (by omega)
    simp only [rdp, rps, List.length_append, List.length_take, List.length_cons, List.length_nil]
    omega
theorem rps_mem {sh : List Nat} : ∀ k x, x ∈ rps sh k → 0 ≤ x ∧ x < k
  | 0, x, h => by simp [rps] at h
  | k + 1, x, h => by
    simp only [rps, List.mem_append, List.mem_singleton] at h
    rcases h with h | rfl
    · have := rps_mem k x (List.mem_of_mem_take h); omega
    · omega
theorem rps_sorted {sh : List Nat} : ∀ k, (rps sh k).Pairwise (· < ·)
  | 0 => List.Pairwise.nil
  | k + 1 => by
    simp only [rps]
    refine List.pairwise_append.mpr ⟨(rps_sorted k).sublist (List.take_sublist _ _), List.pairwise_singleton _ _, fun x hx y hy => ?_⟩
    have h1 := (rps_mem k x (List.mem_of_mem_take hx)).2
    rw [List.mem_singleton.mp hy]; exact h1
theorem srt_of {ns : List Int} (h : ns.Pairwise (· < ·)) : Srt ns := by
  intro i j hij hj
  rcases Nat.lt_or_eq_of_le hij with h1 | rfl
  · have := List.pairwise_iff_getElem.mp h i j (by omega) hj h1
    rw [List.getD_eq_getElem?_getD, List.getD_eq_getElem?_getD, List.getElem?_eq_getElem hj, List.getElem?_eq_getElem (by omega)]
    simpa using Int.le_of_lt this
  · exact Int.le_refl _
theorem bis_first : ∀ {ns : List Int} {x v : Int}, Bis ns x v v → (∃ y ∈ ns, x ≤ y) → v < ns.length ∧ 0 ≤ v ∧ ns.getD v.toNat 0 = firstGe ns x := by
  intro ns
  induction ns with
  | nil => intro x v _ h; obtain ⟨y, hy, _⟩ := h; cases hy
  | cons a t ih =>
    intro x v b h
    obtain ⟨h0, _, h2, h3, h4⟩ := b
    by_cases hv : v = 0
    · subst hv
      have h := h4 0 (by simp) (by simp)
      simp only [List.getD_cons_zero] at h
      refine ⟨by simp only [List.length_cons]; omega, by omega, ?_⟩
      simp [firstGe, show x ≤ a by omega]
    · have ha := h3 0 (by omega)
      simp only [List.getD_cons_zero] at ha
      have hb : Bis t x (v - 1) (v - 1) := by
        refine ⟨by omega, by omega, by simp at h2; omega, fun i hi => ?_, fun i hi hl => ?_⟩
        · have := h3 (i + 1) (by omega)
          simpa using this
        · have := h4 (i + 1) (by omega) (by simp; omega)
          simpa using this
      have hex : ∃ y ∈ t, x ≤ y := by
        obtain ⟨y, hy, hxy⟩ := h
        rcases List.mem_cons.mp hy with rfl | hy
        · omega
        · exact ⟨y, hy, hxy⟩
      obtain ⟨q1, q2, q3⟩ := ih hb hex
      refine ⟨by simp; omega, by omega, ?_⟩
      rw [show v.toNat = (v - 1).toNat + 1 by omega, List.getD_cons_succ, q3]
      simp [firstGe, show ¬ x ≤ a by omega]
end
end Mine

namespace Mine
section
structure RS where
  dv : List Value
  ds : List Int
  dn : Nat
  tv : List Value
  tds : List (List Int)
  tn : Nat
  oc : Obj
  pl : Addr
  pv : List Value
  ps : List Int
  pn : Nat
  dpt : Int
  td : Tok
abbrev sDepth : Str := Str.ofString "depth"
abbrev sK : Str := Str.ofString "k"
def rLed (T D C : Addr) (c : RS) : List (Addr × Obj) := [(T, W.listOf c.tv.toArray c.tn), (D, W.listOf c.dv.toArray c.dn), (C, c.oc)]
structure RFacts (l : List (Addr × Obj)) (c : RS) : Prop where
  d : IntsAre c.dv c.ds
  t : DatAll l c.tv (c.tds.map dI)
  o : c.oc.data = .cell (some (.ref c.pl))
  p : (c.pl, W.listOf c.pv.toArray c.pn) ∈ l
  pi : IntsAre c.pv c.ps
structure RWord (sh : List Nat) (pre : List Int) (c : RS) : Prop where
  dpt : c.dpt = rdp sh pre.length
  ds : c.ds = rds sh pre.length
  tds : c.tds = rts sh pre.length
  ps : c.ps = rps sh pre.length
abbrev rPs (c : RS) : List (Str × Value) := [(sDepth, .int c.dpt c.td)]
section
variable {prog : Program} {w : World} {A : Around} {E : Value → Shared → Prop} {s : Shared} {env : Env} {h₀ : Heap} {body : List Stmt} {Q : Flow → Shared → Prop}
theorem read_loop {T D C P r : Addr} {o0 : Obj} {sh : List Nat} {t₀ u₀ v₀ td : Tok} {m₀ : Str → Option Value}
    (hh : A.handled = none) (hr : IsRange s.heap r 0 ((sh.length : Nat) : Int) 1 t₀ u₀ v₀) (hn : sh.length ≤ 1000) (F : Fr h₀ env.locals s.heap m₀)
    (N : News h₀ env.locals s.heap [(P, W.listOf #[] 0), (T, W.listOf #[] 0), (D, W.listOf #[] 0), (C, o0)]) (ho : o0.data = .cell (some (.ref P))) (hd : m₀ sDepth = some (.int 0 td))
    (turn : ∀ (c : RS) tl (pre : List Int) (k : Int) t h tk own, k = (pre.length : Int) → pre.length < sh.length → KdSep own tl [T, D, C, P] → OwnOff (tl ++ own) [T, D, C, P] → RFacts ([(P, W.listOf #[] 0)] ++ tl) c → RWord sh pre c →
      Fr h₀ env.locals h (fun y => if y = sK then some (.int k t) else if y = sDepth then some (.int c.dpt c.td) else m₀ y) →
      News h₀ env.locals h ((T, W.listOf c.tv.toArray c.tn) :: (D, W.listOf c.dv.toArray c.dn) :: (C, c.oc) :: (P, W.listOf #[] 0) :: (tl ++ own)) →
      wpAny (model prog w) A (execs body env) (InvPostG h₀ env.locals (KdS (rLed T D C) [(P, W.listOf #[] 0)] rPs RFacts sK [] m₀ (RWord sh) [T, D, C, P] (pre ++ [k])) own { s with heap := h, toks := tk } Q) E { s with heap := h, toks := tk })
    (done : ∀ (c : RS) tl (u : Option Value) h tk, RFacts ([(P, W.listOf #[] 0)] ++ tl) c → RWord sh (rangeKs 0 sh.length) c →
      Fr h₀ env.locals h (fun y => if y = sK then u else if y = sDepth then some (.int c.dpt c.td) else m₀ y) →
      News h₀ env.locals h ((T, W.listOf c.tv.toArray c.tn) :: (D, W.listOf c.dv.toArray c.dn) :: (C, c.oc) :: (P, W.listOf #[] 0) :: tl) → Q .next { s with heap := h, toks := tk }) :
    wpAny (model prog w) A (pyIter (.ref r)) (fun it s₂ => LoopAtV prog w A h₀ env sK body Q E it s₂) E s := by
  refine kd_range (rLed T D C) [(P, W.listOf #[] 0)] rPs RFacts [] (RWord sh) [T, D, C, P] ⟨[], [], 0, [], [], 0, o0, P, [], [], 0, 0, td⟩ hh hr (small_one (by omega) (by omega) (by omega) (by omega)) (rangeSize_nat _ _) F N ?_ (fun c => rfl) ⟨.nil, .nil, ho, .head _, .nil⟩ ?_ ⟨rfl, rfl, rfl, rfl⟩ ?_ ?_
  · intro p hp
    simp [rLed] at hp
    rcases hp with rfl | rfl | rfl | rfl <;> simp
  · intro p hp
    rw [List.mem_singleton.mp hp]
    exact hd
  · intro c tl pre k t u h tk own hk hlt hsep hoff hf hw F' N'
    refine turn c tl pre k t h tk own (by omega) (by omega) hsep hoff hf hw ?_ ?_
    · simpa [kstB, rPs] using F'
    · simpa [rLed] using N'
  · intro c tl u h tk hoff hf hw F' N'
    rw [show ((sh.length : Nat) : Int) - 0 = ((sh.length : Nat) : Int) by omega, Int.toNat_natCast] at hw
    refine done c tl (u sK) h tk hf hw ?_ ?_
    · have e : (fun y => if y = sK then u sK else if y = sDepth then some (.int c.dpt c.td) else m₀ y) = (fun y => if y = sK then u y else kstB (fun z => if ([] : List Str).contains z = true then u z else m₀ z) (rPs c) y) := by
        funext y
        by_cases h1 : y = sK
        · subst h1; simp
        · simp [h1, kstB, rPs]
      rw [e]; exact F'
    · simpa [rLed] using N'
structure Pcs (vs : List Value) (sh rk : List Nat) : Prop where
  len : vs.length = sh.length
  at_ : ∀ k, k < sh.length → ∃ t, vs[k]? = some (.bytes (pieceB (sh.getD k 0) (rk.getD k 0)) t)
  s8 : ∀ k, k < sh.length → sh.getD k 0 < 8
  r9 : ∀ k, k < sh.length → rk.getD k 0 < 9
structure PkAt (vs : List Value) (kk s r : Nat) (tb : Tok) : Prop where
  at_ : vs.toArray[kk]? = some (.bytes (pieceB s r) tb)
  s8 : s < 8
  r9 : r < 9
abbrev shOf {sh : List Nat} (_ : ShOk sh) : List Nat := sh
abbrev kkOf {vs : List Value} {kk s r : Nat} {tb : Tok} (_ : PkAt vs kk s r tb) : Nat := kk
theorem rps_small {sh : List Nat} (H : ShOk sh) {kk : Nat} (hk : kk < sh.length) (h : kk < 1000) : (rps sh (kk + 1)).length ≤ 1000 := by
  have h1 := rps_len H (kk + 1) (by omega)
  have h2 := rdp_bound H (kk + 1) (by omega)
  omega
theorem bis_row {sh : List Nat} {kk : Nat} {x v : Int} (b : Bis (rps sh (kk + 1)) x v v) (hx : x < 0 + (((kk : Int) + 1 - 0).toNat : Int)) : v < (rps sh (kk + 1)).length ∧ 0 ≤ v ∧ (rps sh (kk + 1)).getD v.toNat 0 = firstGe (rps sh (kk + 1)) x :=
  bis_first b ⟨(kk : Int), by simp [rps], by omega⟩
structure PlMk (pl : Addr) : Prop where
abbrev KdR (sh : List Nat) (T D C P : Addr) (m₀ : Str → Option Value) (pre : List Int) : (Str → Option Value) → List (Addr × Obj) → Prop :=
  KdS (rLed T D C) [(P, W.listOf #[] 0)] rPs RFacts sK [] m₀ (RWord sh) [T, D, C, P] pre
theorem read_loop2 {T D C P r : Addr} {o0 : Obj} {sh rk : List Nat} {vs : List Value} {t₀ u₀ v₀ td : Tok} {m₀ : Str → Option Value}
    (hh : A.handled = none) (hr : IsRange s.heap r 0 ((sh.length : Nat) : Int) 1 t₀ u₀ v₀) (hn : vs.length ≤ 1000) (hp : Pcs vs sh rk) (H : ShOk sh) (F : Fr h₀ env.locals s.heap m₀)
    (N : News h₀ env.locals s.heap [(P, W.listOf #[] 0), (T, W.listOf #[] 0), (D, W.listOf #[] 0), (C, o0)]) (ho : o0.data = .cell (some (.ref P))) (hd : m₀ sDepth = some (.int 0 td)) (hP : P ≠ T ∧ P ≠ D ∧ P ≠ C)
    (turn : ∀ (kk : Nat) dv dn tv tn oc pl pv pn td tl (pre : List Int) t h tk own tb, pre.length = kk → kk < sh.length → kk < 1000 → PkAt vs kk (sh.getD kk 0) (rk.getD kk 0) tb → (((sh.getD kk 0 : Nat) : Int) ≤ rdp sh kk ∧ 0 ≤ rdp sh kk ∧ rdp sh kk ≤ kk) → KdSep own tl [T, D, C, P] → OwnOff (tl ++ own) [T, D, C, P] →
      IntsAre dv (rds sh kk) → DatAll ((P, W.listOf #[] 0) :: tl) tv ((rts sh kk).map dI) → oc.data = .cell (some (.ref pl)) → (pl, W.listOf pv.toArray pn) ∈ (P, W.listOf #[] 0) :: tl → IntsAre pv (rps sh kk) → ((@Ne Nat pl T) ∧ (@Ne Nat pl D) ∧ (@Ne Nat pl C)) → (dv.length = kk ∧ tv.length = kk ∧ pv.length ≤ 1000 ∧ kk ≤ 1000) → KstMark → PlMk pl →
      Fr h₀ env.locals h (fun y => if y = sK then some (.int (kk : Int) t) else if y = sDepth then some (.int (rdp sh kk) td) else m₀ y) →
      News h₀ env.locals h ((pl, W.listOf pv.toArray pn) :: (T, W.listOf tv.toArray tn) :: (D, W.listOf dv.toArray dn) :: (C, oc) :: (P, W.listOf #[] 0) :: (tl ++ own)) →
      wpAny (model prog w) A (execs body env) (InvPostG h₀ env.locals (KdR sh T D C P m₀ (pre ++ [(kk : Int)])) own { s with heap := h, toks := tk } Q) E { s with heap := h, toks := tk })
    (done : ∀ dv dn tv tn oc tl (u : Option Value) td h tk, IntsAre dv (rds sh sh.length) → DatAll ((P, W.listOf #[] 0) :: tl) tv ((rts sh sh.length).map dI) →
      Fr h₀ env.locals h (fun y => if y = sK then u else if y = sDepth then some (.int (rdp sh sh.length) td) else m₀ y) →
      News h₀ env.locals h ((T, W.listOf tv.toArray tn) :: (D, W.listOf dv.toArray dn) :: (C, oc) :: (P, W.listOf #[] 0) :: tl) → Q .next { s with heap := h, toks := tk }) :
    wpAny (model prog w) A (pyIter (.ref r)) (fun it s₂ => LoopAtV prog w A h₀ env sK body Q E it s₂) E s := by
  have hn' : sh.length ≤ 1000 := by rw [← hp.len]; exact hn
  have lt : ∀ p ∈ ([(P, W.listOf #[] 0), (T, W.listOf #[] 0), (D, W.listOf #[] 0), (C, o0)] : List (Addr × Obj)), True := fun _ _ => trivial
  refine read_loop (sh := sh) hh hr hn' F N ho hd ?_ ?_
  · rintro ⟨dv, ds, dn, tv, tds, tn, oc, pl, pv, ps, pn, dpt, td⟩ tl pre k t h tk own hk hlt hsep hoff ⟨f1, f2, f3, f4, f5⟩ ⟨w1, w2, w3, w4⟩ F' N'
    dsimp only at w1 w2 w3 w4 f1 f2 f3 f4 f5 F' N'
    subst w1 w2 w3 w4 hk
    obtain ⟨tb, ht⟩ := hp.at_ pre.length hlt
    have hb := rdp_bound H pre.length (by omega)
    have hne : pl ≠ T ∧ pl ≠ D ∧ pl ≠ C := by
      rcases List.mem_append.mp f4 with h1 | h1
      · have e := List.mem_singleton.mp h1
        have e2 : pl = P := congrArg Prod.fst e
        subst e2
        exact hP
      · exact ⟨hsep.three _ h1 T (by simp), hsep.three _ h1 D (by simp), hsep.three _ h1 C (by simp)⟩
    refine turn pre.length dv dn tv tn oc pl pv pn td tl pre t h tk own tb rfl hlt (by omega) ⟨by simpa using ht, hp.s8 _ hlt, hp.r9 _ hlt⟩ ⟨H _ hlt, hb.1, hb.2⟩ hsep hoff f1 f2 f3 f4 f5 hne ⟨by rw [f1.length]; simp [rds], by rw [DatAll.length f2]; simp [rts], by rw [f5.length]; have := rps_len H pre.length (by omega); omega, by omega⟩ kstMark ⟨⟩ F' (fun p hp => ?_)
    rcases List.mem_cons.mp hp with rfl | hp
    · rcases List.mem_append.mp f4 with h1 | h1
      · exact N' _ (.tail _ (.tail _ (.tail _ (by rw [List.mem_singleton.mp h1]; exact .head _))))
      · exact N' _ (.tail _ (.tail _ (.tail _ (.tail _ (List.mem_append.mpr (.inl h1))))))
    · exact N' _ hp
  · rintro ⟨dv, ds, dn, tv, tds, tn, oc, pl, pv, ps, pn, dpt, td⟩ tl u h tk ⟨f1, f2, f3, f4, f5⟩ ⟨w1, w2, w3, w4⟩ F' N'
    dsimp only at w1 w2 w3 w4 f1 f2 f3 f4 f5 F' N'
    rw [rangeKs_length] at w1 w2 w3 w4
    subst w1 w2 w3 w4
    exact done dv dn tv tn oc tl u td h tk f1 f2 F' N'
theorem read_end {T D C P row dPl : Addr} {sh : List Nat} {kk : Nat} {pre : List Int} {L : Addr} {tl own news' : List (Addr × Obj)} {s₁ : Shared} {m₀ m' : Str → Option Value} {h' : Heap} {tk : Nat} {dv tv ys ws : List Value} {dn tn rn wn : Nat} {oc : Obj} {t9 td : Tok} {n' : Nat}
    (hk : pre.length = kk) (hSep : KdSep own tl [T, D, C, P]) (F : Fr h₀ L h' m') (N : News h₀ L h' news')
    (hDv : IntsAre dv (rds sh kk)) (hTv : DatAll ((P, W.listOf #[] 0) :: tl) tv ((rts sh kk).map dI)) (hOc : oc.data = .cell (some (.ref dPl))) (hYs : IntsAre ys (List.map (firstGe (rps sh (kk + 1))) (rangeKs 0 n'))) (hn' : n' = kk + 1) (hWs : IntsAre ws (rps sh (kk + 1)))
    (m1 : (T, W.listOf (tv ++ [Value.ref row]).toArray tn) ∈ news') (m2 : (D, W.listOf (dv ++ [Value.int (rdp sh (kk + 1)) t9]).toArray dn) ∈ news') (m3 : (C, oc) ∈ news') (m4 : (P, W.listOf #[] 0) ∈ news') (m5 : (row, W.listOf ys.toArray rn) ∈ news') (m6 : (dPl, W.listOf ws.toArray wn) ∈ news') (m7 : ∀ p ∈ tl ++ own, p ∈ news')
    (o1 : row ≠ T ∧ row ≠ D ∧ row ≠ C ∧ row ≠ P) (o2 : dPl ≠ T ∧ dPl ≠ D ∧ dPl ≠ C ∧ dPl ≠ P) (o3 : ∀ p ∈ tl ++ own, p.1 ≠ row) (o4 : ∀ p ∈ tl ++ own, p.1 ≠ dPl)
    (hm : m' sDepth = some (.int (rdp sh (kk + 1)) td)) (hr : ∀ z, z ≠ sK → z ≠ sDepth → m' z = m₀ z) :
    InvEndG h₀ L (KdR sh T D C P m₀ (pre ++ [(kk : Int)])) own s₁ { s₁ with heap := h', toks := tk } := by
  subst hk hn'
  refine kd_end (x := sK) ⟨dv ++ [.int (rdp sh (pre.length + 1)) t9], rds sh (pre.length + 1), dn, tv ++ [.ref row], rts sh (pre.length + 1), tn, oc, dPl, ws, rps sh (pre.length + 1), wn, rdp sh (pre.length + 1), td⟩ [(row, W.listOf ys.toArray rn), (dPl, W.listOf ws.toArray wn)] hSep F N ?_ (fun p hp => m7 p (List.mem_append.mpr (.inr hp))) rfl ?_ ?_ ?_ ?_ ⟨?_, ?_, hOc, ?_, hWs⟩ ⟨?_, ?_, ?_, ?_⟩
  · intro p hp
    simp only [rLed, List.cons_append, List.nil_append, List.mem_cons] at hp
    rcases hp with rfl | rfl | rfl | rfl | rfl | rfl | hp
    · exact m1
    · exact m2
    · exact m3
    · exact m4
    · exact m5
    · exact m6
    · exact m7 p (List.mem_append.mpr (.inl hp))
  · intro q hq b hb
    simp only [List.mem_cons, List.not_mem_nil, or_false] at hq hb
    rcases hq with rfl | rfl <;> rcases hb with rfl | rfl | rfl | rfl
    · exact fun e => o1.1 e.symm
    · exact fun e => o1.2.1 e.symm
    · exact fun e => o1.2.2.1 e.symm
    · exact fun e => o1.2.2.2 e.symm
    · exact fun e => o2.1 e.symm
    · exact fun e => o2.2.1 e.symm
    · exact fun e => o2.2.2.1 e.symm
    · exact fun e => o2.2.2.2 e.symm
  · intro q hq p hp
    simp only [List.mem_cons, List.not_mem_nil, or_false] at hq
    rcases hq with rfl | rfl
    · exact o3 p (List.mem_append.mpr (.inr hp))
    · exact o4 p (List.mem_append.mpr (.inr hp))
  · intro p hp
    rw [List.mem_singleton.mp hp]
    exact hm
  · intro z h1 h2 _
    exact hr z h1 (h2 _ (.head _))
  · have e : rds sh (pre.length + 1) = rds sh pre.length ++ [rdp sh (pre.length + 1)] := by simp [rds, List.range_succ]
    dsimp only
    rw [e]
    exact IntsAre.append hDv (.cons _ _ .nil)
  · have e : rts sh (pre.length + 1) = rts sh pre.length ++ [(rangeKs 0 (pre.length + 1)).map (firstGe (rps sh (pre.length + 1)))] := by simp [rts, List.range_succ]
    dsimp only
    rw [e, List.map_append]
    refine DatAll.append (DatAll.mono (fun p hp => ?_) hTv) (.one (.list (n := rn) (vs := ys) ?_ (datAll_ints hYs)))
    · rcases List.mem_cons.mp hp with rfl | hp <;> simp [*]
    · simp
  · simp
  · simp
  · simp
  · simp
  · simp
end
end
end Mine

namespace Mine
section
set_option rowWalk.seconds 0
set_option linter.unusedSectionVars false
set_option linter.unusedVariables false
set_option linter.unusedSimpArgs false
local macro_rules | `(tactic| walk_at "m enter") => `(tactic| (refine' enter ?k3 ?k5 ?k6 ?k7 ?k8 ?k9 ?kB ?_ ?c2 ?c3 ?c4 ?c5; (case k3 => assumption); (case k5 => assumption); (case k6 => k_is); (case k7 => k_is); (case k8 => ((try dsimp only); omega)); (case k9 => exact BindsTo.of_eq rfl); (case c5 => decide); (case kB => exact locs rfl); (case c2 => exact rfl); (case c3 => exact rfl); (case c4 => exact rfl); k_whole))
theorem off1_ne {D : Addr} : ∀ {l : List (Addr × Obj)}, LCg.Off1 D l → ∀ p ∈ l, p.1 ≠ D
  | [], _, _, h => nomatch h
  | _ :: _, x, p, h => by
    rcases List.mem_cons.mp h with rfl | h
    · exact x.1
    · exact off1_ne x.2 p h
theorem rd_dL2 {h₀ h : Heap} {L p : Addr} {l l2 : List (Addr × Obj)} {ws : List Value} {n : Nat} {xss : List (List Int)} (N : News h₀ L h l) (m : (p, W.listOf ws.toArray n) ∈ l) (D : DatAll l2 ws (xss.map dI)) (s : ∀ q ∈ l2, q ∈ l) :
    Rd h (.ref p) (LL xss) :=
  rd_dL (n := n) (kst_newsOf N (l' := (p, W.listOf ws.toArray n) :: l2) (fun q hq => by
    rcases List.mem_cons.mp hq with rfl | hq
    · exact m
    · exact s q hq)) D
theorem read_out {g h' : Heap} {L p D T C P : Addr} {n tn dn : Nat} {dv tv : List Value} {oc : Obj} {tl : List (Addr × Obj)} {xss : List (List Int)}
    (N : News g L h' ((p, W.listOf #[.ref D, .ref T] n) :: (T, W.listOf tv.toArray tn) :: (D, W.listOf dv.toArray dn) :: (C, oc) :: (P, W.listOf #[] 0) :: tl)) (hD : DatAll ((P, W.listOf #[] 0) :: tl) tv (xss.map dI)) :
    NewOf g h' ((p, W.listOf #[.ref D, .ref T] n) :: (D, W.listOf dv.toArray dn) :: ((T, W.listOf tv.toArray tn) :: (P, W.listOf #[] 0) :: tl)) ∧ DatIn ((T, W.listOf tv.toArray tn) :: (P, W.listOf #[] 0) :: tl) (.ref T) (dL xss) := by
  refine ⟨newOf_sub (newOf N) (fun q hq => ?_), .list (.head _) (DatAll.mono (fun _ x => .tail _ x) hD)⟩
  simp only [List.mem_cons] at hq ⊢
  rcases hq with rfl | rfl | rfl | rfl | hq
  · exact .inl rfl
  · exact .inr (.inr (.inl rfl))
  · exact .inr (.inl rfl)
  · exact .inr (.inr (.inr (.inr (.inl rfl))))
  · exact .inr (.inr (.inr (.inr (.inr hq))))
theorem len_p {prog : Program} {w : World} {A : Around} {E : Value → Shared → Prop} {s : Shared} {a : Addr} {vs : List Value} {n : Nat} {Q : Value → Shared → Prop} (hl : s.heap.IsList a vs.toArray) (e : vs.length = n) (h7 : vs.length ≤ 1000)
    (h : Q (.int (n : Int) (s.toks + 1)) { s with toks := s.toks + 1 + 1 }) : wpAny (model prog w) A (call (.builtin "len") [.ref a]) Q E s := by
  have e2 : vs.toArray.size = n := by rw [List.size_toArray, e]
  exact len_list hl (by rw [e2]; omega) (by rw [e2]; exact h)
local macro_rules | `(tactic| walk_at "call builtin:len") => `(tactic| ((with_reducible rename Mk 89 => hMk); (with_reducible rename Pcs _ _ _ => hPc); refine len_p (Fr.lst (by k_asm) (by k_asm)) (Pcs.len hPc) (by assumption) ?_))
theorem item_p {prog : Program} {w : World} {A : Around} {E : Value → Shared → Prop} {st : Shared} {a : Addr} {vs : List Value} {kk s r : Nat} {tb u : Tok} {value slice : PySem.Expr} {Q : Value → Shared → Prop} (hl : st.heap.IsList a vs.toArray) (p : PkAt vs kk s r tb) (hk : kk < 1000) (h : Q (.bytes (pieceB s r) tb) st)
    (hs : subscripted slice false (.ref a) (.int (kk : Int) u) = operate [.ref a, .int (kk : Int) u] (getItem (.ref a) (.int (kk : Int) u)) := by with_unfolding_all rfl) :
    wpAny (model prog w) A (subscriptTail value slice (.ref a) (.int (kk : Int) u)) Q E st :=
  tail_any hl.typeIs slot_list_getitem.lookup (wpAny_getItem_list hl (by omega) (by omega) (by simpa using p.at_) h) hs
theorem item_v {prog : Program} {w : World} {A : Around} {E : Value → Shared → Prop} {st : Shared} {a : Addr} {vs : List Value} {ns : List Int} {v r : Int} {u : Tok} {value slice : PySem.Expr} {Q : Value → Shared → Prop} (hl : st.heap.IsList a vs.toArray) (hi : IntsAre vs ns)
    (q : v < (ns.length : Int) ∧ 0 ≤ v ∧ ns.getD v.toNat 0 = r) (h : ∀ t, Q (.int r t) st) (hz : ns.length ≤ 1000)
    (hs : subscripted slice false (.ref a) (.int v u) = operate [.ref a, .int v u] (getItem (.ref a) (.int v u)) := by with_unfolding_all rfl) :
    wpAny (model prog w) A (subscriptTail value slice (.ref a) (.int v u)) Q E st := by
  obtain ⟨q1, q2, rfl⟩ := q
  have hlt : v.toNat < ns.length := by omega
  obtain ⟨t, hx⟩ := hi.get v.toNat ns[v.toNat] (by simp [hlt])
  have e : ns.getD v.toNat 0 = ns[v.toNat] := by rw [List.getD_eq_getElem?_getD, List.getElem?_eq_getElem hlt]; rfl
  have h2 := h t
  rw [e] at h2
  exact tail_any hl.typeIs slot_list_getitem.lookup (wpAny_getItem_list hl q2 (by omega) (by simpa using hx) h2) hs
local macro_rules | `(tactic| walk_at "pyIter ref") => `(tactic| ((with_reducible rename Mk 89 => hMk); (rename IsRange _ _ _ _ _ _ _ _ => rgX); (rename Fr _ _ _ _ => lF'); (rename News _ _ _ _ => lN'); (refine' read_loop2 ?rla rgX ?rlb ?rlp ?rlh lF' lN' ?rlc ?rld ?rlP ?rlT ?rlD; (case rla => rfl); (case rlb => assumption); (case rlp => assumption); (case rlh => assumption); (case rlc => assumption); (case rld => rfl); (case rlP => (refine ⟨?_, ?_, ?_⟩ <;> (show ¬ (@Eq Nat _ _)) <;> omega)); (case' rlT => (intro kk dv dn tv tn oc pl pv pn td tl pre t h tk own tb hk1 hk2 hk3 hPk hBd hSep hOff hDv hTv hOc hMem hPs hNe hLn hKs hPm F' N')))))
local macro_rules | `(tactic| walk_at "subscriptTail") => `(tactic| ((with_reducible rename Mk 89 => hMk); (with_reducible rename PkAt _ _ _ _ _ => hPk); refine item_p (Fr.lst (by k_asm) (by k_asm)) hPk (by assumption) ?_))
local macro_rules | `(tactic| walk_at "call ref") => `(tactic| ((with_reducible rename Mk 89 => hMk); (with_reducible rename PkAt _ _ _ _ _ => hPk); (with_reducible show wpAny _ _ (PySem.call (Value.ref 67) _ _) _ _ _); refine' paren_c ?ba1 ?ba2 ?ba3 ?ba4 (PkAt.s8 hPk) (PkAt.r9 hPk) ?ba5 ?_; (case ba1 => exact Frag.In.keeps (by assumption) (Fr.keep (by assumption))); (case ba2 => exact Top.keeps (by assumption) (Fr.keep (by assumption))); (case ba3 => ((try dsimp only); omega)); (case ba4 => ((try dsimp only); omega)); (case ba5 => omega); intro h9 tk9 t9 e9; (have F9 := fr_ext (by assumption) e9); (have N9 := news_ext (by assumption) e9); (try dsimp only)))
local macro_rules | `(tactic| walk_at "CompSrc") => `(tactic| ((with_reducible rename Mk 89 => hMk); (with_reducible rename PkAt _ _ _ _ _ => hPk); (with_reducible rename ShOk _ => hSh); k_dflt (refine LCg.CompSrc.range (by rfl) (by k_asm) (by k_asm) (by assumption) (small_one (by omega) (by omega) (by omega) (by omega)) (rangeSize_nat _ _) (by rw [PySem.sizeLine_eq]; omega) ?_; intro g'; (refine' kcf_range (firstGe (rps (shOf hSh) (kkOf hPk + 1))) (fun k' t' I' oI' C' oC' D' m' ys' h' tk' E' hlo' hhi' hC' hx' F' N' off' ne' hMark' => ?_) ?_); (all_goals (dsimp only [shOf, kkOf])); (all_goals (try (simp only [LCg.Off3, and_true] at off'))))))
local macro_rules | `(tactic| walk_at "call ref") => `(tactic| ((with_reducible rename Mk 89 => hMk); (with_reducible rename PkAt _ _ _ _ _ => hPk); (with_reducible rename ShOk _ => hSh); (with_reducible show wpAny _ _ (PySem.call (Value.ref 54) _ _) _ _ _); refine' bisect_c (ns := rps (shOf hSh) (kkOf hPk + 1)) ?ba1 ?ba2 ?ba3 ?ba4 ?ba5 ?ba6 ?ba7 ?ba8 ?_; (case ba1 => exact Frag.In.keeps (by assumption) (Fr.keep (by assumption))); (case ba2 => exact Top.keeps (by assumption) (Fr.keep (by assumption))); (case ba3 => ((try dsimp only); omega)); (case ba4 => ((try dsimp only); omega)); (case ba5 => exact News.isList (by k_asm) (by k_mem)); (case ba6 => assumption); (case ba7 => exact rps_small hSh (by assumption) (by assumption)); (case ba8 => exact srt_of (rps_sorted _)); intro h9 tk9 v9 t9 e9 hB9; (have F9 := fr_ext (by assumption) e9); (have N9 := news_ext (by assumption) e9); (have q9 := bis_row hB9 (by assumption)); (try dsimp only)))
local macro_rules | `(tactic| walk_at "subscriptTail") => `(tactic| ((with_reducible rename Mk 89 => hMk); (with_reducible rename PkAt _ _ _ _ _ => hPk); (with_reducible rename Bis _ _ _ _ => hB9); refine item_v (ns := rps _ (kkOf hPk + 1)) (News.isList (by k_asm) (by k_mem)) (by assumption) (bis_row hB9 (by assumption)) ?_ (rps_small (by assumption) (by assumption) (by assumption)); intro t9))
local macro_rules | `(tactic| walk_at "KCfEl") => `(tactic| ((with_reducible rename Mk 89 => hMk); refine kcf_el rfl rfl rfl))
section
variable {w : World} {mean : ExcName → Option Value} {mg mb : Str → Option Value} {dp un : Nat} {fr : Option (List Env)} {gd : Option (List Code)} {Q E : Value → Shared → Prop} {g : Heap} {gs : Array GenState} {d : Drawn} {tk : Nat} {os : OsState}
  (X : (hd.heap_39 w.params).In g) (T : TP mean mg mb g) (hA : dp + 40 < recursionLimit) (hu : un + 200 < cLine)
include X T hA hu
set_option maxHeartbeats 4000000 in
theorem read_c {a : Addr} {vs : List Value} {sh rk : List Nat} (hl : g.IsList a vs.toArray) (hi : Pcs vs sh rk) (h7 : vs.length ≤ 1000) (hsh : ShOk sh) 
    (hret : ∀ h' tk' p D T n dn dv l, Ext g h' → NewOf g h' ((p, W.listOf #[.ref D, .ref T] n) :: (D, W.listOf dv.toArray dn) :: l) → IntsAre dv (rds sh sh.length) → DatIn l (.ref T) (dL (rts sh sh.length)) → Q (.ref p) ⟨h', gs, d, tk', os⟩) :
    wpAny (model prg w) ⟨none, dp, fr, gd, un⟩ (call (.ref 89) [.ref a] []) Q E ⟨g, gs, d, tk, os⟩ := by
  have hMk := mk 89
  refine wpAny_call ?_
  refine' enterC (binds := [(Str.ofString "pieces", .ref a)]) ?k3 ?k5 ?k6 ?k7 ?k8 ?k9 ?kB ?kD ?_ ?c2 ?c3 ?c4; (case k3 => assumption); (case k5 => assumption); (case k6 => k_is); (case k7 => k_is); (case k8 => ((try dsimp only); omega)); (case k9 => exact BindsTo.of_eq rfl); (case kB => exact rfl); (case kD => decide +kernel); (case c2 => exact rfl); (case c3 => exact rfl); (case c4 => exact rfl); k_whole
  intro L h₁ tk cells F N Y
  k_cells Y
  (try simp only [List.cons_append, List.nil_append, List.append_nil] at N)
  dsimp only
  k_steps
  · (rename News _ _ _ _ => nE)
    (try simp only [List.push_toArray] at nE)
    (rename (@Ne Nat _ _) ∧ (@Ne Nat _ _) ∧ (@Ne Nat _ _) ∧ (@Ne Nat _ _) ∧ (@Ne Nat _ _) ∧ (@Ne Nat _ _) ∧ (@Ne Nat _ _) ∧ (@Ne Nat _ _) ∧ LCg.Off1 _ _ => hO)
    have hO1 := hO.2.2.2.2.2.2.2.2
    refine' read_end (by assumption) (by assumption) (by assumption) nE (by assumption) (by assumption) (by assumption) (by assumption) (by omega) (by assumption) ?m1 ?m2 ?m3 ?m4 ?m5 ?m6 ?m7 ?o1 ?o2 ?o3 ?o4 ?hm ?hr
    case m1 => k_mem
    case m2 => k_mem
    case m3 => k_mem
    case m4 => k_mem
    case m5 => k_mem
    case m6 => k_mem
    case m7 => (intro p hp; kst_mem)
    case o1 => (refine ⟨?_, ?_, ?_, ?_⟩ <;> (show ¬ (@Eq Nat _ _)) <;> omega)
    case o2 => (refine ⟨?_, ?_, ?_, ?_⟩ <;> (show ¬ (@Eq Nat _ _)) <;> omega)
    case o3 => exact off1_ne hO1
    case o4 => kst_allNe
    case hm => rfl
    case hr => (intro z h1 h2; simp [h1, h2])
  · (rename News _ _ _ _ => nE)
    have hD := (by assumption : DatAll (_ :: _) _ _)
    have hI := (by assumption : IntsAre _ (rds sh sh.length))
    obtain ⟨q1, q2⟩ := read_out nE hD
    exact hret _ _ _ _ _ _ _ _ _ (Fr.keep (by assumption)) q1 hI q2
end
end
end Mine

namespace Mine
section
open LCg
def CompSrcS (prog : Program) (w : World) (A : Around) (h₀ : Heap) (L : Addr) (m : Str → Option Value) (env : Env) (elt : Expr) (x : Str) (scope : Scope) (cl : List (Str × Addr)) (Fin : Shared → List Value → List (Addr × Obj) → Prop) (xv : Value) (s₁ : Shared) : Prop :=
  ∃ y t news, xv = .str y t ∧ A.handled = none ∧ Fr h₀ L s₁.heap m ∧ News h₀ L s₁.heap news ∧ y.cps.size ≤ sizeLine ∧
    ∀ s₂ : Shared, (∃ h, s₂ = { s₁ with heap := h }) → CompRest prog w A h₀ L m env elt x scope cl s₂ (fun _ => True) (SignAt y) (Fin s₂) y.cps.size 0 [] news
section
variable {prog : Program} {w : World} {A : Around} {E : Value → Shared → Prop} {s : Shared} {h₀ : Heap} {L : Addr} {m : Str → Option Value} {env : Env}
theorem CompSrcS.intro {elt : Expr} {x : Str} {scope : Scope} {cl : List (Str × Addr)} {Fin : Shared → List Value → List (Addr × Obj) → Prop} {y : Str} {t : Tok} {news : List (Addr × Obj)} {s₁ : Shared}
    (hh : A.handled = none) (F : Fr h₀ L s₁.heap m) (N : News h₀ L s₁.heap news) (hsz : y.cps.size ≤ sizeLine)
    (h : ∀ g, CompRest prog w A h₀ L m env elt x scope cl { s₁ with heap := g } (fun _ => True) (SignAt y) (Fin { s₁ with heap := g }) y.cps.size 0 [] news) :
    CompSrcS prog w A h₀ L m env elt x scope cl Fin (.str y t) s₁ := ⟨y, t, news, rfl, hh, F, N, hsz, fun _ ⟨g, e⟩ => e ▸ h g⟩
theorem ListComp_S {elt iter : Expr} {x : Str} {px : Pos} {scope : Scope} {cl : List (Str × Addr)} {pos : Pos} {Q : Value → Shared → Prop} (F₀ : Fr h₀ L s.heap m)
    (hclos : closureFor scope env = pure cl) (hcell : ∀ y ∈ scope.names, y.2 ≠ .cell) (hkind : scope.kind = .function)
    (hnames : ∀ y ∈ scope.names, y.2 = .local → scope.names.lookup y.1 = some .local) (hx : scope.names.lookup x = some .local)
    (h : wpAny (model prog w) A (eval iter env) (CompSrcS prog w A h₀ L m env elt x scope cl (fun s₂ => FinE h₀ L m s₂ Q)) E s)
    (hs : ∀ x, foldedSetIterable iter env x = pure x := by intro _; rfl) :
    wpAny (model prog w) A (eval (.ListComp elt [⟨.Name x px, iter, [], 0⟩] scope pos) env) Q E s := by
  rw [eval_ListComp]
  refine wpAny_comprehension_free (use := none) rfl hs hclos hkind hnames (wpAny_mono h (fun xv s₁ h₁ => ?_) fun _ _ e => e)
  obtain ⟨y, t, news, rfl, hh, F, N, hsz, R⟩ := h₁
  cases ha : y.cps.all (· < 128)
  · refine wpAny_pyIter_wide ha ?_
    refine block_U (S := fun _ => True) (Walks.strWide hh _ y t) hsz (fun i h st => by obtain ⟨o, e, _⟩ := st; exact ⟨o, e⟩) (fun i h h' o nw st e e' _ _ _ => by obtain ⟨o', q, r⟩ := st; rw [e] at q; cases q; exact ⟨o, e', r⟩) hcell hkind hx ⟨_, Heap.get?_push_size _ rfl, rfl, rfl⟩ (fun b hb => ?_)
      (F.keeps fun _ _ e => Heap.get?_push_of_some _ e) (N.grown fun _ _ e => Heap.get?_push_of_some _ e) (Nat.ne_of_lt F.ns.lt) (next_is_new F) (fun p hp => Nat.ne_of_lt (Heap.lt_size (N p hp).1)) trivial (R _ ⟨_, rfl⟩) ?_
    · rw [List.mem_singleton.mp hb]
      show s₁.heap.objs.size < (s₁.heap.push _).objs.size
      rw [Heap.size_push]; exact Nat.lt_succ_self _
    · intro D C h tk m' ys news' F' N' o1 hn hC₀ hD₀ hCL hDL hCD offC fin
      refine ⟨m', hn, fun h'' hs'' => fin D h'' tk (F'.change hs'' hCL hC₀) (fun p hp => ?_) o1⟩
      refine ⟨hs''.extBut _ _ ?_ (N' p hp).1, (N' p hp).2⟩
      rcases List.mem_cons.mp hp with rfl | hp
      · exact Ne.symm hCD
      · exact offC p hp
  · refine wpAny_pyIter_ascii ha ?_
    refine block_U (S := fun _ => True) (Walks.strAscii hh _ y t) hsz (fun i h st => by obtain ⟨o, e, _⟩ := st; exact ⟨o, e⟩) (fun i h h' o nw st e e' _ _ _ => by obtain ⟨o', q, r⟩ := st; rw [e] at q; cases q; exact ⟨o, e', r⟩) hcell hkind hx ⟨_, Heap.get?_push_size _ rfl, rfl, rfl⟩ (fun b hb => ?_)
      (F.keeps fun _ _ e => Heap.get?_push_of_some _ e) (N.grown fun _ _ e => Heap.get?_push_of_some _ e) (Nat.ne_of_lt F.ns.lt) (next_is_new F) (fun p hp => Nat.ne_of_lt (Heap.lt_size (N p hp).1)) trivial (R _ ⟨_, rfl⟩) ?_
    · rw [List.mem_singleton.mp hb]
      show s₁.heap.objs.size < (s₁.heap.push _).objs.size
      rw [Heap.size_push]; exact Nat.lt_succ_self _
    · intro D C h tk m' ys news' F' N' o1 hn hC₀ hD₀ hCL hDL hCD offC fin
      refine ⟨m', hn, fun h'' hs'' => fin D h'' tk (F'.change hs'' hCL hC₀) (fun p hp => ?_) o1⟩
      refine ⟨hs''.extBut _ _ ?_ (N' p hp).1, (N' p hp).2⟩
      rcases List.mem_cons.mp hp with rfl | hp
      · exact Ne.symm hCD
      · exact offC p hp
theorem sign_rest {P : List Value → List Nat → Prop} {elt : Expr} {x : Str} {scope : Scope} {cl : List (Str × Addr)} {S : List (Addr × Obj) → Prop} {Fin : List Value → List (Addr × Obj) → Prop} {news : List (Addr × Obj)} {y : Str} {El : Nat → Value → Prop}
    (hnil : P [] []) (hsnoc : ∀ ys cs v c, P ys cs → El c v → P (ys ++ [v]) (cs ++ [c]))
    (turn : ∀ c u I oI C oC D m₂ ys h tk (E' : Value → Shared → Prop), c ∈ y.cps.toList → NsObj oC m₂ → m₂ x = some (.str ⟨#[c]⟩ u) → Fr h₀ L h m → News h₀ L h ((I, oI) :: (C, oC) :: (D, lst ys) :: news) → Off3 I C D news → ((@Ne Nat I C) ∧ (@Ne Nat I D) ∧ (@Ne Nat C D)) →
      wpAny (model prog w) A (eval elt (compEnvC scope cl C env)) (CompEnd h₀ L m { s with heap := h, toks := tk } I oI C oC D (lst ys) S (fun v news' => news' = news ∧ El c v)) E' { s with heap := h, toks := tk })
    (fin : ∀ ys, P ys y.cps.toList → Fin ys news) : CompRest prog w A h₀ L m env elt x scope cl s S (SignAt y) Fin y.cps.size 0 [] news := by
  have key : ∀ (j i : Nat) (ys : List Value), i + j = y.cps.size → P ys (y.cps.toList.take i) → CompRest prog w A h₀ L m env elt x scope cl s S (SignAt y) Fin j i ys news := by
    intro j
    induction j with
    | zero =>
      intro i ys hi hy
      have e : i = y.cps.toList.length := by rw [Array.length_toList]; omega
      subst e
      rw [List.take_length] at hy
      exact CompRest.zero (fin ys hy)
    | succ j ih =>
      intro i ys hi hy
      refine CompRest.succ ?_
      intro v I oI C oC D m₂ h tk E' hv hC hx F N off ne
      obtain ⟨c, u, hc, rfl⟩ := hv
      have hc' : y.cps.toList[i]? = some c := by simpa using hc
      refine wpAny_mono (turn c u I oI C oC D m₂ ys h tk E' (List.mem_of_getElem? hc') hC hx F N off ne) (fun v s₂ hq => ?_) fun _ _ e => e
      obtain ⟨h', tk', nw, e, F', N', off', hS, hn, hel⟩ := hq
      subst hn
      refine ⟨h', tk', nw, e, F', N', off', hS, ?_⟩
      refine ih (i + 1) _ (by omega) ?_
      rw [List.take_add_one, hc']
      exact hsnoc _ _ _ _ hy hel
  exact key y.cps.size 0 [] (by omega) (by simpa using hnil)
end
def NatsAre (vs : List Value) (cs : List Nat) : Prop := IntsAre vs (cs.map (fun (c : Nat) => (c : Int)))
def TxtsAre (g : Nat → Str) (vs : List Value) (cs : List Nat) : Prop := ∃ l : List (Str × Tok), vs = strValues l ∧ l.map (·.1) = cs.map g
theorem nats_nil : NatsAre [] [] := .nil
theorem nats_snoc (ys : List Value) (cs : List Nat) (v : Value) (c : Nat) (h : NatsAre ys cs) (e : ∃ t, v = .int (c : Int) t) : NatsAre (ys ++ [v]) (cs ++ [c]) := by
  obtain ⟨t, rfl⟩ := e
  show IntsAre _ ((cs ++ [c]).map _)
  rw [List.map_append]
  exact IntsAre.append h (.cons _ _ .nil)
theorem txts_nil (g : Nat → Str) : TxtsAre g [] [] := ⟨[], rfl, rfl⟩
theorem txts_snoc (g : Nat → Str) (ys : List Value) (cs : List Nat) (v : Value) (c : Nat) (h : TxtsAre g ys cs) (e : ∃ t, v = .str (g c) t) : TxtsAre g (ys ++ [v]) (cs ++ [c]) := by
  obtain ⟨t, rfl⟩ := e
  obtain ⟨l, rfl, h2⟩ := h
  exact ⟨l ++ [(g c, t)], by simp [strValues], by simp [h2]⟩
end
end Mine

namespace Mine
section
def popTo (st : List Int) (r : Int) : List Int := (st.reverse.dropWhile fun x => decide (r ≤ x)).reverse
def lst (ns : List Int) : Nat → List Int
  | 0 => []
  | i + 1 => popTo (lst ns i) (ns.getD i 0) ++ [ns.getD i 0]
def lsh (ns : List Int) (i : Nat) : Nat := (lst ns i).length - (popTo (lst ns i) (ns.getD i 0)).length
structure BysAre (ns : List Int) (pv : List Value) (i : Nat) : Prop where
  len : pv.length = i
  at_ : ∀ j, j < i → ∃ t, pv[j]? = some (.bytes (pieceB (lsh ns j) (ns.getD j 0).toNat) t)
theorem BysAre.snoc {ns : List Int} {pv : List Value} {i : Nat} {b : Array UInt8} {t : Tok} (h : BysAre ns pv i) (e : b = pieceB (lsh ns i) (ns.getD i 0).toNat) : BysAre ns (pv ++ [.bytes b t]) (i + 1) := by
  subst e
  refine ⟨by simp [h.len], fun j hj => ?_⟩
  by_cases hji : j < i
  · obtain ⟨t, ht⟩ := h.at_ j hji
    exact ⟨t, by rw [List.getElem?_append_left (by rw [h.len]; exact hji)]; exact ht⟩
  · have e : j = i := by omega
    subst e
    exact ⟨t, by rw [List.getElem?_append_right (by rw [h.len]; exact Nat.le_refl _), h.len]; simp⟩
theorem dw_split {α : Type} (p : α → Bool) : ∀ (l : List α) (k : Nat), (∀ x ∈ l.take k, p x = true) → (l.drop k = [] ∨ ∃ y t, l.drop k = y :: t ∧ p y = false) → l.dropWhile p = l.drop k
  | l, 0, _, h => by
    rcases h with h | ⟨y, t, h, hy⟩
    · rw [List.drop_zero] at h ⊢; rw [h]; rfl
    · rw [List.drop_zero] at h ⊢; rw [h, List.dropWhile_cons]; simp [hy]
  | [], k + 1, _, _ => by simp
  | a :: l, k + 1, h, h2 => by
    have ha : p a = true := h a (by simp)
    rw [List.dropWhile_cons, if_pos ha, List.drop_succ_cons]
    exact dw_split p l k (fun x hx => h x (by simp [hx])) (by simpa using h2)
theorem pop_is {st : List Int} {r : Int} {j : Nat} (hj : j ≤ st.length) (h1 : ∀ x ∈ st.drop j, r ≤ x) (h2 : j = 0 ∨ ∃ y, (st.take j).getLast? = some y ∧ ¬ r ≤ y) : popTo st r = st.take j := by
  unfold popTo
  have e : st.reverse.drop (st.length - j) = (st.take j).reverse := by
    rw [List.reverse_take, List.drop_reverse]
  have hA : ∀ x ∈ st.reverse.take (st.length - j), decide (r ≤ x) = true := by
    intro x hx
    have : x ∈ (st.drop j).reverse := by rw [List.reverse_drop]; exact hx
    exact decide_eq_true (h1 x (by simpa using this))
  have hB : st.reverse.drop (st.length - j) = [] ∨ ∃ y t, st.reverse.drop (st.length - j) = y :: t ∧ decide (r ≤ y) = false := by
    rw [e]
    rcases h2 with rfl | ⟨y, hy, hr⟩
    · left; simp
    · right
      rw [List.getLast?_eq_head?_reverse] at hy
      cases hq : (st.take j).reverse with
      | nil => rw [hq] at hy; cases hy
      | cons a t =>
        rw [hq] at hy
        simp at hy
        subst hy
        exact ⟨a, t, rfl, decide_eq_false hr⟩
  rw [dw_split _ _ (st.length - j) hA hB, e]
  simp
abbrev sName : Str := Str.ofString "name"
abbrev lStored : List Str := [Str.ofString "shut", Str.ofString "safe", Str.ofString "text"]
def LInv (ns : List Int) (P H : Addr) (m₀ : Str → Option Value) (i : Nat) (m : Str → Option Value) (nx : List (Addr × Obj)) : Prop :=
  ∃ pv pn hv hn, nx = [(P, W.listOf pv.toArray pn), (H, W.listOf hv.toArray hn)] ∧ BysAre ns pv i ∧ StrsAre hv ((lst ns i).map nm) ∧ ∀ z, z ≠ sName → lStored.contains z = false → m z = m₀ z
structure NmAt (ns : List Int) (i : Nat) (k : Int) : Prop where
  lt : i < ns.length
  is : ns.getD i 0 = k
  lo : 0 ≤ k
  hi : k < 9
section
variable {prog : Program} {w : World} {A : Around} {E : Value → Shared → Prop} {s : Shared} {env : Env} {h₀ : Heap} {body : List Stmt} {Q : Flow → Shared → Prop}
theorem line_loop {P H a : Addr} {vs : List Value} {ns : List Int} {m₀ : Str → Option Value} (hh : A.handled = none) (hl : h₀.IsList a vs.toArray) (hi : StrsAre vs (ns.map nm)) (hr : ∀ n ∈ ns, 0 ≤ n ∧ n < 9) (F : Fr h₀ env.locals s.heap m₀)
    (N : News h₀ env.locals s.heap [(P, W.listOf #[] 0), (H, W.listOf #[] 0)])
    (turn : ∀ (i : Nat) (k : Int) t pv pn hv hn (u : Str → Option Value) h tk own, NmAt ns i k → OwnOff own [P, H] → BysAre ns pv i → StrsAre hv ((lst ns i).map nm) → hv.length ≤ i → KstMark →
      Fr h₀ env.locals h (fun y => if y = sName then some (.str (nm k) t) else if lStored.contains y then u y else m₀ y) → News h₀ env.locals h ((P, W.listOf pv.toArray pn) :: (H, W.listOf hv.toArray hn) :: own) →
      wpAny (model prog w) A (execs body env) (InvPostN h₀ env.locals (LInv ns P H m₀ (i + 1)) own [P, H] { s with heap := h, toks := tk } Q) E { s with heap := h, toks := tk })
    (done : ∀ (pv : List Value) (pn : Nat) (hv : List Value) (hn : Nat) (u : Str → Option Value) h tk, BysAre ns pv ns.length → Fr h₀ env.locals h (fun y => if y = sName then u y else if lStored.contains y then u y else m₀ y) → News h₀ env.locals h [(P, W.listOf pv.toArray pn), (H, W.listOf hv.toArray hn)] → Q .next { s with heap := h, toks := tk }) :
    wpAny (model prog w) A (pyIter (.ref a)) (fun it s₂ => LoopAtV prog w A h₀ env sName body Q E it s₂) E s := by
  have hls : s.heap.IsList a vs.toArray := hl.at fun o e => F.keep a o e
  obtain ⟨ol, hol, _⟩ := id hl
  have hlt : a < h₀.objs.size := Heap.lt_size hol
  have hne : a ≠ s.heap.objs.size := Nat.ne_of_lt (Nat.lt_trans (Nat.lt_of_lt_of_le hlt F.above) F.ns.lt)
  have hlen : vs.toArray.size = ns.length := by simp [hi.length]
  have llen : ∀ i, (lst ns i).length ≤ i := by
    intro i
    induction i with
    | zero => simp [lst]
    | succ i ih =>
      have h1 : (popTo (lst ns i) (ns.getD i 0)).length ≤ (lst ns i).length := by
        unfold popTo
        rw [List.length_reverse]
        exact Nat.le_trans (List.dropWhile_sublist _).length_le (by simp)
      simp only [lst, List.length_append, List.length_cons, List.length_nil]
      omega
  refine wpAny_pyIter_list hls ?_
  have W' := Walks.list (prog := prog) (w := w) hh s.heap.objs.size a hne vs.toArray
  rw [hlen] at W'
  refine loop_invN (LInv ns P H m₀) W' ?_ ?_ ?_ ?_ ⟨⟨_, Heap.get?_push_size _ rfl, rfl, rfl⟩, hls.at fun o e => Heap.get?_push_of_some _ e⟩ (F.push _) (fun p hp => ⟨Heap.get?_push_of_some _ (N p hp).1, (N p hp).2⟩) ⟨[], 0, [], 0, rfl, ⟨rfl, fun _ h => absurd h (Nat.not_lt_zero _)⟩, .nil, fun _ _ _ => rfl⟩ ?_ ?_
  · intro hm
    rcases List.mem_cons.mp hm with e | hm
    · exact absurd F.ns.lt (e ▸ Nat.lt_irrefl _)
    · exact absurd (Nat.lt_of_lt_of_le hlt F.above) ((List.mem_singleton.mp hm) ▸ Nat.lt_irrefl _)
  · intro b hb
    rw [List.mem_singleton.mp hb]
    exact next_is_new F
  · intro p hp hI
    exact absurd (Heap.lt_size (N p hp).1) ((List.mem_singleton.mp hI) ▸ Nat.lt_irrefl _)
  · intro p hp hI
    rcases List.mem_cons.mp hI with e | hI
    · exact absurd (Heap.lt_size (N p hp).1) (e ▸ Nat.lt_irrefl _)
    · have h3 := (N p hp).2.2
      rw [List.mem_singleton.mp hI, hol] at h3
      cases h3
  · rintro i v m₁ news₁ h tk own hin hP _ hoff ⟨pv, pn, hv, hn, rfl, hb, hs, hm⟩ F₁ N₁
    have hlt' : i < ns.length := hin
    have hx : (ns.map nm)[i]? = some (nm (ns.getD i 0)) := by
      simp [hlt']
    obtain ⟨t, ht⟩ := hi.get i _ hx
    have hv' : v = .str (nm (ns.getD i 0)) t := by
      have hP' : vs[i]? = some v := by simpa using hP
      rw [ht] at hP'; exact (Option.some.inj hP').symm
    subst hv'
    have hmem : ns.getD i 0 ∈ ns := by
      rw [List.getD_eq_getElem?_getD, List.getElem?_eq_getElem hlt']; exact List.getElem_mem hlt'
    refine turn i _ t pv pn hv hn m₁ h tk own ⟨hlt', rfl, (hr _ hmem).1, (hr _ hmem).2⟩ hoff hb hs (by rw [hs.length, List.length_map]; exact llen i) kstMark ?_ N₁
    have e : (fun y => if y = sName then some (.str (nm (ns.getD i 0)) t) else if lStored.contains y then m₁ y else m₀ y) = (fun y => if y = sName then some (.str (nm (ns.getD i 0)) t) else m₁ y) := by
      funext y
      by_cases h1 : y = sName
      · simp only [if_pos h1]
      · rw [if_neg h1, if_neg h1]
        cases h2 : lStored.contains y with
        | true => simp
        | false => simp only [Bool.false_eq_true, if_false]; exact (hm y h1 h2).symm
    rw [e]; exact F₁
  · rintro m₁ news₁ h tk ⟨pv, pn, hv, hn, rfl, hb, hs, hm⟩ F₁ N₁
    refine done pv pn hv hn m₁ h tk hb ?_ N₁
    have e : (fun y => if y = sName then m₁ y else if lStored.contains y then m₁ y else m₀ y) = m₁ := by
      funext y
      by_cases h1 : y = sName
      · rw [if_pos h1]
      · rw [if_neg h1]
        cases h2 : lStored.contains y with
        | true => simp
        | false => simp only [Bool.false_eq_true, if_false]; exact (hm y h1 h2).symm
    rw [e]; exact F₁
end
end
end Mine

namespace Mine
section
def WInv (name : Str) (held0 : List Str) (shut : Int) (held : List Str) : Prop :=
  0 ≤ shut ∧ shut + held.length = held0.length ∧ held = held0.take held.length ∧ ∀ s ∈ held0.drop held.length, 0 ≤ scoll s name
def Good (ss : List Str) : Prop := ∀ x ∈ ss, PyData.strOk x = true
theorem winv_start {name : Str} {h : List Str} : WInv name h 0 h := ⟨by omega, by omega, by simp, by simp⟩
theorem winv_pop {name : Str} {held0 : List Str} {shut : Int} {held : List Str} (w : WInv name held0 shut held) (hne : held ≠ []) (h : 0 ≤ scoll (held.getLast hne) name) : WInv name held0 (shut + 1) held.dropLast := by
  obtain ⟨h0, h1, h2, h3⟩ := w
  have hl : held.length ≠ 0 := fun e => hne (List.length_eq_zero_iff.mp e)
  have hd : held.dropLast.length = held.length - 1 := List.length_dropLast
  obtain ⟨j, hj⟩ : ∃ j, held.length = j := ⟨_, rfl⟩
  rw [hj] at h1 h2 h3 hl hd
  have hlt : j - 1 < held0.length := by omega
  refine ⟨by omega, by rw [hd]; omega, ?_, ?_⟩
  · rw [hd, List.dropLast_eq_take, hj, h2, List.take_take]
    congr 1
    omega
  · intro s hs
    rw [hd, List.drop_eq_getElem_cons hlt] at hs
    rcases List.mem_cons.mp hs with rfl | hs
    · have e : held.getLast hne = held0[j - 1] := by
        rw [List.getLast_eq_getElem]
        have h4 : held[j - 1]? = held0[j - 1]? := by
          rw [h2, List.getElem?_take_of_lt (by omega)]
        rw [List.getElem?_eq_getElem (by omega), List.getElem?_eq_getElem hlt] at h4
        simp only [hj]
        exact Option.some.inj h4
      rw [← e]; exact h
    · rw [show j - 1 + 1 = j by omega] at hs
      exact h3 s hs
theorem winv_less {held : List Str} (hne : held ≠ []) : held.dropLast.length < held.length := by
  have hl : held.length ≠ 0 := fun e => hne (List.length_eq_zero_iff.mp e)
  rw [List.length_dropLast]; omega
theorem strs_last {hv : List Value} {ss : List Str} (h : StrsAre hv ss) (hne : ss ≠ []) : ∃ p t, hv = p ++ [Value.str (ss.getLast hne) t] ∧ StrsAre p ss.dropLast := by
  have hl : ss.length ≠ 0 := fun e => hne (List.length_eq_zero_iff.mp e)
  have hlen := h.length
  have hx : ss[ss.length - 1]? = some (ss.getLast hne) := by
    rw [List.getLast_eq_getElem]; exact List.getElem?_eq_getElem (by omega)
  obtain ⟨t, ht⟩ := h.get _ _ hx
  refine ⟨hv.take (ss.length - 1), t, ?_, ?_⟩
  · have e := List.take_append_drop (ss.length - 1) hv
    have hlt : ss.length - 1 < hv.length := by omega
    rw [List.drop_eq_getElem_cons hlt] at e
    rw [List.getElem?_eq_getElem hlt] at ht
    rw [Option.some.inj ht, show ss.length - 1 + 1 = hv.length by omega, List.drop_length] at e
    exact e.symm
  · rw [List.dropLast_eq_take]
    exact h.take' _
theorem kl_last_snoc (y : Value) : ∀ p : List Value, kl_last (p ++ [y]) = some (p, y)
  | p => by
    cases hq : kl_last (p ++ [y]) with
    | none => exact absurd (kl_last_none hq) (by simp)
    | some q =>
      obtain ⟨p', y'⟩ := q
      have e := kl_last_spec hq
      have e2 := List.append_inj' e rfl
      rw [← e2.1, ← (List.cons.inj e2.2).1]
theorem canLayAll0_strs : ∀ {ss : List Str}, Good ss → PyData.canLayAll0 (ss.map PyData.str) = true
  | [], _ => rfl
  | x :: ss, h => by
    simp only [List.map_cons, PyData.canLayAll0, PyData.canLay0, Bool.and_eq_true]
    exact ⟨h x (.head _), canLayAll0_strs fun y hy => h y (.tail _ hy)⟩
theorem depthAll_strs : ∀ {ss : List Str}, PyData.depthAll (ss.map PyData.str) = 0
  | [] => rfl
  | x :: ss => by simp [PyData.depthAll, PyData.depth, depthAll_strs]
theorem good_drop {ss : List Str} (h : Good ss) : Good ss.dropLast := fun x hx => h x (List.dropLast_subset _ hx)
theorem good_nm {k : Int} (h0 : 0 ≤ k) (h9 : k < 9) : PyData.strOk (nm k) = true := by
  rcases (by omega : k = 0 ∨ k = 1 ∨ k = 2 ∨ k = 3 ∨ k = 4 ∨ k = 5 ∨ k = 6 ∨ k = 7 ∨ k = 8) with h | h | h | h | h | h | h | h | h <;> subst h <;> decide +kernel
theorem pop_mem {st : List Int} {r x : Int} (h : x ∈ popTo st r) : x ∈ st := by
  unfold popTo at h
  rw [List.mem_reverse] at h
  have := (List.dropWhile_sublist _).subset h
  simpa using this
theorem lst_mem {ns : List Int} : ∀ i, i ≤ ns.length → ∀ x ∈ lst ns i, x ∈ ns
  | 0, _, x, h => by simp [lst] at h
  | i + 1, hi, x, h => by
    simp only [lst, List.mem_append, List.mem_singleton] at h
    rcases h with h | rfl
    · exact lst_mem i (by omega) x (pop_mem h)
    · rw [List.getD_eq_getElem?_getD, List.getElem?_eq_getElem (by omega)]; exact List.getElem_mem (by omega)
theorem good_lst {ns : List Int} (hr : ∀ n ∈ ns, 0 ≤ n ∧ n < 9) {i : Nat} {k : Int} (hi : NmAt ns i k) : Good ((lst ns i).map nm) := by
  intro x hx
  obtain ⟨k, hk, rfl⟩ := List.mem_map.mp hx
  have := hr k (lst_mem i (Nat.le_of_lt hi.lt) k hk)
  exact good_nm this.1 this.2
theorem lst_small {ns : List Int} {hv : List Value} {i : Nat} {k : Int} (h : StrsAre hv ((lst ns i).map nm)) (h1 : hv.length ≤ i) (h2 : NmAt ns i k) (h3 : ns.length ≤ 7) : ((lst ns i).map nm).length ≤ 1000 := by
  rw [← h.length]; have := h2.lt; omega
def escS (c : Nat) : Str := if c = 34 ∨ c = 92 then ⟨#[92, c]⟩ else ⟨#[c]⟩
theorem nm_signs {ns : List Int} {i : Nat} {k : Int} (h : NmAt ns i k) {c : Nat} (hc : c ∈ (nm k).cps.toList) : c = 34 ∨ c = 40 ∨ c = 41 ∨ c = 46 ∨ c = 67 ∨ c = 92 ∨ c = 97 := by
  obtain ⟨_, _, h0, h9⟩ := h
  rcases (by omega : k = 0 ∨ k = 1 ∨ k = 2 ∨ k = 3 ∨ k = 4 ∨ k = 5 ∨ k = 6 ∨ k = 7 ∨ k = 8) with h | h | h | h | h | h | h | h | h <;> subst h <;> simp [nm, nmL] at hc <;> omega
theorem nm_short {ns : List Int} {i : Nat} {k : Int} (h : NmAt ns i k) : (nm k).cps.size ≤ 10 := by
  obtain ⟨_, _, h0, h9⟩ := h
  rcases (by omega : k = 0 ∨ k = 1 ∨ k = 2 ∨ k = 3 ∨ k = 4 ∨ k = 5 ∨ k = 6 ∨ k = 7 ∨ k = 8) with h | h | h | h | h | h | h | h | h <;> subst h <;> decide +kernel
theorem bys_small {ns : List Int} {pv : List Value} {i : Nat} {k : Int} (h : BysAre ns pv i) (h2 : NmAt ns i k) (h3 : ns.length ≤ 7) : pv.length ≤ 1000 := by
  rw [h.len]; have := h2.lt; omega
section
variable {prog : Program} {w : World} {A : Around} {E : Value → Shared → Prop} {s : Shared} {a b : Addr} {vs : List Value} {ss : List Str} {Q : Value → Shared → Prop}
theorem held_ne (ha : s.heap.IsList a vs.toArray) (hs : StrsAre vs ss) (hb : s.heap.IsList b #[]) (ok : Good ss) (hu : A.units + 64 < cLine) (h1 : ss = [] → Q (.bool false) s) (h2 : ss ≠ [] → Q (.bool true) s) :
    wpAny (model prog w) A (compareOp .NotEq (.ref a) (.ref b)) Q E s := by
  obtain ⟨o, ho, hc, n, hd⟩ := ha
  obtain ⟨o2, ho2, hc2, n2, hd2⟩ := hb
  have r1 := reads_list_at ho hc hd (by simpa using hs.reads s.heap)
  have r2 := reads_list_at (xs := []) ho2 hc2 hd2 (by simpa using ReadsAll.nil)
  refine ne_dataH r1 r2 ?_ (by decide) hu ?_
  · unfold SeqAt.shaped
    simp only [PyData.canLay0, PyData.depth, canLayAll0_strs ok, depthAll_strs]
    decide
  · cases ss with
    | nil => exact h1 rfl
    | cons x t => simpa [PyData.eqv, PyData.eqvAll] using h2 (by simp)
theorem held_last {value slice : PySem.Expr} {u : Tok} (ha : s.heap.IsList a vs.toArray) (hs : StrsAre vs ss) (hne : ss ≠ []) (h : ∀ t, Q (.str (ss.getLast hne) t) s)
    (hsub : subscripted slice false (.ref a) (.int (-1) u) = operate [.ref a, .int (-1) u] (getItem (.ref a) (.int (-1) u)) := by with_unfolding_all rfl) :
    wpAny (model prog w) A (subscriptTail value slice (.ref a) (.int (-1) u)) Q E s := by
  obtain ⟨p, t, e, hp⟩ := strs_last hs hne
  subst e
  refine kde_neg ha (by decide) (by decide) (j := p.length) ?_ (by simp) (h t) hsub
  simp [seqIndex?]
  try omega
end
end
end Mine

namespace Mine
section
def safeS (k : Int) : Str := ⟨(safeL k.toNat).toArray⟩
theorem join_safe {k : Int} (h0 : 0 ≤ k) (h9 : k < 9) : Txt.join (Str.ofString "") ((nm k).cps.toList.map escS) = safeS k ∧ JoinOk (Str.ofString "") ((nm k).cps.toList.map escS) = true := by
  rcases (by omega : k = 0 ∨ k = 1 ∨ k = 2 ∨ k = 3 ∨ k = 4 ∨ k = 5 ∨ k = 6 ∨ k = 7 ∨ k = 8) with h | h | h | h | h | h | h | h | h <;> subst h <;> decide +kernel
theorem el_str {x y : Str} {u : Tok} (e : x = y) : ∃ t, Value.str x u = Value.str y t := ⟨u, by rw [e]⟩
theorem el_int {x y : Int} {u : Tok} (e : x = y) : ∃ t, Value.int x u = Value.int y t := ⟨u, by rw [e]⟩
section
variable {prog : Program} {w : World} {A : Around} {E : Value → Shared → Prop} {s : Shared} {Q : Value → Shared → Prop}
theorem join_p {D : Addr} {ys : List Value} {ns : List Int} {i : Nat} {k : Int} {t : Tok} (hl : s.heap.IsList D ys.toArray) (hP : TxtsAre escS ys (nm k).cps.toList) (hNm : NmAt ns i k) (h : ∀ t' k', Q (.str (safeS k) t') { s with toks := k' }) :
    wpAny (model prog w) A (call (.builtin "str.join") [.str (Str.ofString "") t, .ref D]) Q E s := by
  obtain ⟨l, rfl, h2⟩ := hP
  have hj := join_safe hNm.lo hNm.hi
  refine SC.join hl h2 hj.2 ?_
  rw [hj.1]
  exact h
theorem foldl_rep (c : Nat) : ∀ (n : Nat) (a : Array Nat), (List.foldl (fun x1 x2 => x1 ++ x2) a (List.replicate n #[c])).toList = a.toList ++ List.replicate n c
  | 0, a => by simp
  | n + 1, a => by
    rw [List.replicate_succ, List.foldl_cons, foldl_rep c n, Array.toList_append, List.replicate_succ]
    simp
theorem mul_cps (n : Nat) : (Txt.mul (Str.ofString ")") (n : Int)).cps.toList = List.replicate n 41 := by
  have e : (Str.ofString ")").cps = #[41] := by decide +kernel
  have el : (Str.ofString ")").length = 1 := by decide +kernel
  unfold Txt.mul
  by_cases h1 : (n : Int) < 1
  · rw [if_pos h1]
    have : n = 0 := by omega
    subst this; rfl
  · rw [if_neg h1]
    by_cases h2 : n = 1
    · subst h2
      rw [if_pos (by decide), e]; rfl
    · rw [if_neg (by rw [el]; simp; omega), e, foldl_rep]
      simp
theorem mul_ok (n : Nat) (h : n ≤ 1000) : MulOk (Str.ofString ")") (n : Int) := by
  have el : (Str.ofString ")").length = 1 := by decide +kernel
  refine ⟨?_, fun h1 _ => ?_, fun _ _ => ?_⟩
  · simp; omega
  · rw [el]
    have h3 : (1000 : Int) ≤ (2 ^ 63 - 1) / (n : Int) := by
      refine Int.le_ediv_of_mul_le (by omega) ?_
      omega
    omega
  · rw [el]
    show decide _ = false
    rw [sizeLine_eq]
    exact decide_eq_false (by omega)
theorem text_cps {n : Nat} {k : Int} : (Txt.mul (Str.ofString ")") (n : Int) ++ Str.ofString "(\"" ++ safeS k ++ Str.ofString "\"").cps.toList = pieceL n k.toNat := by
  rw [Str.cps_append, Str.cps_append, Str.cps_append]
  simp only [Array.toList_append, mul_cps]
  rw [show (Str.ofString "(\"").cps = #[40, 34] from by decide +kernel, show (Str.ofString "\"").cps = #[34] from by decide +kernel]
  simp [pieceL, safeS]
theorem piece_lt {n : Nat} {k : Int} (h0 : 0 ≤ k) (h9 : k < 9) : ∀ c ∈ pieceL n k.toNat, c < 128 := by
  intro c hc
  unfold pieceL at hc
  simp only [List.mem_append] at hc
  rcases hc with hc | hc | hc | hc
  · have := List.eq_of_mem_replicate hc; omega
  · simp at hc; omega
  · rcases (by omega : k = 0 ∨ k = 1 ∨ k = 2 ∨ k = 3 ∨ k = 4 ∨ k = 5 ∨ k = 6 ∨ k = 7 ∨ k = 8) with h | h | h | h | h | h | h | h | h <;> subst h <;> simp [safeL] at hc <;> omega
  · simp at hc; omega
theorem winv_nat {name : Str} {held0 : List Str} {shut : Int} {held : List Str} (w : WInv name held0 shut held) : ∃ n : Nat, shut = (n : Int) ∧ n ≤ held0.length := by
  obtain ⟨h0, h1, _, _⟩ := w
  exact ⟨shut.toNat, by omega, by omega⟩
theorem len_mul (n : Nat) : (Txt.mul (Str.ofString ")") (n : Int)).length = n := by
  show (Txt.mul (Str.ofString ")") (n : Int)).cps.size = n
  rw [← Array.length_toList, mul_cps, List.length_replicate]
theorem len_safe {k : Int} (h0 : 0 ≤ k) (h9 : k < 9) : (safeS k).length ≤ 10 := by
  rcases (by omega : k = 0 ∨ k = 1 ∨ k = 2 ∨ k = 3 ∨ k = 4 ∨ k = 5 ∨ k = 6 ∨ k = 7 ∨ k = 8) with h | h | h | h | h | h | h | h | h <;> subst h <;> decide +kernel
theorem len_op : (Str.ofString "(\"").length = 2 := by decide +kernel
theorem len_cl : (Str.ofString "\"").length = 1 := by decide +kernel
theorem text_small {n : Nat} {k : Int} (h0 : 0 ≤ k) (h9 : k < 9) (hn : n ≤ 1000) : (Txt.mul (Str.ofString ")") (n : Int) ++ Str.ofString "(\"" ++ safeS k ++ Str.ofString "\"").cps.size ≤ sizeLine := by
  show (Txt.mul (Str.ofString ")") (n : Int) ++ Str.ofString "(\"" ++ safeS k ++ Str.ofString "\"").length ≤ sizeLine
  have := len_safe h0 h9
  simp only [Str.length_append, len_mul, len_op, len_cl, sizeLine_eq]
  omega
theorem bytes_p {D : Addr} {ys : List Value} {x : Str} {n : Nat} {k : Int} (hl : s.heap.IsList D ys.toArray) (hP : NatsAre ys x.cps.toList) (hx : x.cps.toList = pieceL n k.toNat) (h0 : 0 ≤ k) (h9 : k < 9) (hn : n ≤ 1000) (hh : A.handled = none)
    (h : ∀ h' t k', (∀ b o, s.heap.get? b = some o → h'.get? b = some o) → Q (.bytes (pieceB n k.toNat) t) { s with heap := h', toks := k' }) :
    wpAny (model prog w) A (call (.type "bytes") [.ref D]) Q E s := by
  unfold NatsAre at hP
  rw [hx] at hP
  have hlen : ys.length ≤ 2000 := by
    have hs : (safeL k.toNat).length ≤ 10 := by
      rcases (by omega : k = 0 ∨ k = 1 ∨ k = 2 ∨ k = 3 ∨ k = 4 ∨ k = 5 ∨ k = 6 ∨ k = 7 ∨ k = 8) with h | h | h | h | h | h | h | h | h <;> subst h <;> decide
    rw [hP.length]; simp [pieceL]; omega
  refine call_bytes_ints hl hP (fun m hm => ?_) (by rw [sizeLine_eq]; omega) hh (fun h' t k' e => ?_)
  · obtain ⟨c, hc, rfl⟩ := List.mem_map.mp hm
    have := piece_lt h0 h9 c hc; omega
  · have e2 : byteArr ((pieceL n k.toNat).map fun (c : Nat) => (c : Int)) = pieceB n k.toNat := by
      simp [byteArr, pieceB, Function.comp_def]
    rw [e2]; exact h h' t k' e
end
end
end Mine

namespace Mine
section
theorem scoll_all : (List.range 9).all (fun x => (List.range 9).all fun y => decide ((0 ≤ scoll (nm (x : Int)) (nm (y : Int))) = (y ≤ x)) && decide (scoll (nm (x : Int)) (nm (y : Int)) = if y < x then 1 else if x = y then 0 else -1)) = true := by decide +kernel
theorem scoll_nm {x y : Int} (hx : 0 ≤ x ∧ x < 9) (hy : 0 ≤ y ∧ y < 9) : ((0 ≤ scoll (nm x) (nm y)) ↔ y ≤ x) ∧ scoll (nm x) (nm y) = if y < x then 1 else if x = y then 0 else -1 := by
  have h := List.all_eq_true.mp scoll_all x.toNat (List.mem_range.mpr (by omega))
  have h2 := List.all_eq_true.mp h y.toNat (List.mem_range.mpr (by omega))
  simp only [Bool.and_eq_true, decide_eq_true_eq] at h2
  have ex : ((x.toNat : Nat) : Int) = x := by omega
  have ey : ((y.toNat : Nat) : Int) = y := by omega
  rw [ex, ey] at h2
  refine ⟨?_, ?_⟩
  · rw [h2.1]; omega
  · rw [h2.2]
    by_cases h1 : y < x
    · rw [if_pos h1, if_pos (by omega)]
    · rw [if_neg h1, if_neg (by omega)]
      by_cases h3 : x = y
      · rw [if_pos h3, if_pos (by omega)]
      · rw [if_neg h3, if_neg (by omega)]
theorem winv_is {ns : List Int} {i : Nat} {k : Int} {n : Nat} {held : List Str} (hr : ∀ n ∈ ns, 0 ≤ n ∧ n < 9) (hNm : NmAt ns i k) (hW : WInv (nm k) ((lst ns i).map nm) (n : Int) held)
    (hex : held = [] ∨ ∃ hne, ¬ 0 ≤ scoll (held.getLast hne) (nm k)) : held = (popTo (lst ns i) k).map nm ∧ n = lsh ns i := by
  obtain ⟨_, h1, h2, h3⟩ := hW
  obtain ⟨j, hj⟩ : ∃ j, held.length = j := ⟨_, rfl⟩
  rw [hj] at h1 h2 h3
  rw [List.length_map] at h1
  have hjl : j ≤ (lst ns i).length := by omega
  have hmem : ∀ x ∈ lst ns i, 0 ≤ x ∧ x < 9 := fun x hx => hr x (lst_mem i (Nat.le_of_lt hNm.lt) x hx)
  rw [← List.map_take] at h2
  have hpop : popTo (lst ns i) k = (lst ns i).take j := by
    refine pop_is hjl (fun x hx => ?_) ?_
    · have h4 := h3 (nm x) (by rw [← List.map_drop]; exact List.mem_map.mpr ⟨x, hx, rfl⟩)
      exact (scoll_nm (hmem x (List.mem_of_mem_drop hx)) ⟨hNm.lo, hNm.hi⟩).1.mp h4
    · rcases hex with he | ⟨hne, hs⟩
      · left
        rw [← hj, he]; rfl
      · right
        have hne2 : (lst ns i).take j ≠ [] := fun e => hne (by rw [h2, e]; rfl)
        refine ⟨((lst ns i).take j).getLast hne2, List.getLast?_eq_some_getLast hne2, fun hk => hs ?_⟩
        have e : held.getLast hne = nm (((lst ns i).take j).getLast hne2) := by
          simp only [h2, List.getLast_map]
        rw [e]
        exact (scoll_nm (hmem _ (List.mem_of_mem_take (List.getLast_mem hne2))) ⟨hNm.lo, hNm.hi⟩).1.mpr hk
  refine ⟨by rw [hpop]; exact h2, ?_⟩
  have e2 : lsh ns i = (lst ns i).length - (popTo (lst ns i) k).length := by unfold lsh; rw [hNm.is]
  rw [e2, hpop, List.length_take]
  omega
section
variable {s₁ : Shared} {h₀ : Heap}
theorem line_end {ns : List Int} {P H L : Addr} {m₀ m' : Str → Option Value} {i : Nat} {k : Int} {n : Nat} {held : List Str} {hv pv : List Value} {own news' : List (Addr × Obj)} {h' : Heap} {tk : Nat} {pn hn : Nat} {t t9 : Tok}
    (hr : ∀ n ∈ ns, 0 ≤ n ∧ n < 9) (hNm : NmAt ns i k) (hW : WInv (nm k) ((lst ns i).map nm) (n : Int) held) (hex : held = [] ∨ ∃ hne, ¬ 0 ≤ scoll (held.getLast hne) (nm k))
    (hSt : StrsAre hv held) (hBy : BysAre ns pv i) (F : Fr h₀ L h' m') (N : News h₀ L h' news')
    (mP : (P, W.listOf (pv ++ [Value.bytes (pieceB n k.toNat) t9]).toArray pn) ∈ news') (mH : (H, W.listOf (hv ++ [Value.str (nm k) t]).toArray hn) ∈ news') (mo : ∀ p ∈ own, p ∈ news')
    (hm : ∀ z, z ≠ sName → lStored.contains z = false → m' z = m₀ z) : InvEndN h₀ L (LInv ns P H m₀ (i + 1)) own [P, H] s₁ { s₁ with heap := h', toks := tk } := by
  obtain ⟨e1, e2⟩ := winv_is hr hNm hW hex
  refine InvEndN.intro F N (nx := [(P, W.listOf (pv ++ [Value.bytes (pieceB n k.toNat) t9]).toArray pn), (H, W.listOf (hv ++ [Value.str (nm k) t]).toArray hn)]) ⟨_, _, _, _, rfl, hBy.snoc (by rw [e2, hNm.is]), ?_, hm⟩ rfl ?_ mo
  · show StrsAre _ ((popTo (lst ns i) (ns.getD i 0) ++ [ns.getD i 0]).map nm)
    rw [hNm.is, List.map_append, ← e1]
    exact hSt.append' (.cons _ _ .nil)
  · intro p hp
    simp only [List.mem_cons, List.not_mem_nil, or_false] at hp
    rcases hp with rfl | rfl
    · exact mP
    · exact mH
end
end
end Mine

namespace Mine
section
set_option rowWalk.seconds 0
set_option linter.unusedSectionVars false
set_option linter.unusedVariables false
set_option linter.unusedSimpArgs false
local macro_rules | `(tactic| walk_at "m enter") => `(tactic| (refine' enter ?k3 ?k5 ?k6 ?k7 ?k8 ?k9 ?kB ?_ ?c2 ?c3 ?c4 ?c5; (case k3 => assumption); (case k5 => assumption); (case k6 => k_is); (case k7 => k_is); (case k8 => ((try dsimp only); omega)); (case k9 => exact BindsTo.of_eq rfl); (case c5 => decide); (case kB => exact locs rfl); (case c2 => exact rfl); (case c3 => exact rfl); (case c4 => exact rfl); k_whole))
local macro_rules | `(tactic| walk_at "pyIter ref") => `(tactic| ((with_reducible rename Mk 84 => hMk); (rename Fr _ _ _ _ => lF'); (rename News _ _ _ _ => lN'); (refine' line_loop ?rla ?rlb ?rlc ?rld lF' lN' ?_ ?_; (case rla => rfl); (case rlb => assumption); (case rlc => assumption); (case rld => assumption); (intro i k t pv pn hv hn u h tk own hNm hOff hBy hSt hLn hKs F' N'; (have hGd := good_lst (by assumption) hNm); (have hGl := lst_small hSt hLn hNm (by assumption)); (have hPl := bys_small hBy hNm (by assumption))))))
local macro_rules | `(tactic| walk_at "exec For Name Name cons nil") => `(tactic| ((with_reducible rename Mk 84 => hMk); (rename Fr _ _ _ _ => lF'); (with_unfolding_all refine' For_invVF lF' ?rlk1 ?rlk2 ?_; (case rlk1 => exact rfl); (case rlk2 => exact rfl); k_whole)))
local macro_rules | `(tactic| walk_at "exec While BoolOp cons nil") => `(tactic| ((with_reducible rename Mk 84 => hMk); k_while_given ["name", "held!"] (fun name held0 script shut held => WInv name held0 shut held ∧ Good held ∧ held.length ≤ 1000) (fun name held0 script shut held => held.length) "shut" "held$"))
local macro_rules | `(tactic| walk_at "compareOp NotEq ref ref") => `(tactic| ((with_reducible rename Mk 84 => hMk); (refine' held_ne ?hea ?hes ?heb ?heg ?heu ?_ ?_; (case hea => exact News.isList (by k_asm) (by k_mem)); (case hes => assumption); (case heb => exact News.isList (by k_asm) (by k_mem)); (case heg => assumption); (case heu => (simp only [Around.deeper_units]; omega))); all_goals intro hHe))
local macro_rules | `(tactic| walk_at "subscriptTail Name UnaryOp ref int") => `(tactic| ((with_reducible rename Mk 84 => hMk); (with_reducible rename (@Ne (List Str) _ _) => hHe); (refine' held_last ?hea ?hes hHe ?_; (case hea => exact News.isList (by k_asm) (by k_mem)); (case hes => assumption)); intro t9))
local macro_rules | `(tactic| walk_at "call ref") => `(tactic| ((with_reducible rename Mk 84 => hMk); (with_reducible show wpAny _ _ (PySem.call (Value.ref 38) _ _) _ _ _); refine' strcoll_c ?ba1 ?ba2 ?ba3 ?ba4 ?_; (case ba1 => exact Frag.In.keeps (by assumption) (Fr.keep (by assumption))); (case ba2 => exact Top.keeps (by assumption) (Fr.keep (by assumption))); (case ba3 => ((try dsimp only); omega)); (case ba4 => ((try dsimp only); omega)); intro h9 tk9 t9 e9; (have F9 := fr_ext (by assumption) e9); (have N9 := news_ext (by assumption) e9); (try dsimp only)))
local macro_rules | `(tactic| walk_at "call builtin:list.pop") => `(tactic| ((with_reducible rename Mk 84 => hMk); (with_reducible rename StrsAre _ _ => hSt9); (with_reducible rename (@Ne (List Str) _ _) => hHe); obtain ⟨p9, t9, e9, hp9⟩ := strs_last hSt9 hHe; subst e9; (refine' kl_pop (p := p9) ?kpF ?kpN ?kpE ?kpU ?kpZ ?_; (case kpF => k_asm); (case kpN => k_asm); (case kpU => k_upd); (case kpE => exact kl_last_snoc _ _); (case kpZ => (simp only [List.toList_toArray, PySem.sizeLine_eq]; omega))); intro h' F' N'))
local macro_rules | `(tactic| walk_at "eval ListComp") => `(tactic| ((with_reducible rename Mk 84 => hMk); k_dflt (refine ListComp_S (F₀ := by k_asm) (by with_unfolding_all rfl) (by decide) (by rfl) (by decide) (by rfl) ?_)))
local macro_rules | `(tactic| walk_at "CompSrcS") => `(tactic| ((with_reducible rename Mk 84 => hMk); (with_reducible rename NmAt _ _ _ => hNm); (with_reducible show CompSrcS _ _ _ _ _ _ _ (PySem.Expr.IfExp _ _ _ _) _ _ _ _ _ _); k_dflt (refine CompSrcS.intro (by rfl) (by k_asm) (by k_asm) (by have := nm_short hNm; rw [PySem.sizeLine_eq]; omega) ?_); intro g'; (refine' sign_rest (P := TxtsAre escS) (El := fun c v => ∃ t, v = .str (escS c) t) (txts_nil _) (txts_snoc _) ?_ ?_); rotate_left; (intro ys' hP' D' h' tk' F' N' o1'; (try (simp only [LCg.Off1, and_true] at o1')); (try dsimp only)); rotate_right; (intro c u' I' oI' C' oC' D' m2' ys' h' tk' E' hc' hC' hx' F' N' off' ne'; rcases nm_signs hNm hc' with hz | hz | hz | hz | hz | hz | hz <;> subst hz)))
local macro_rules | `(tactic| walk_at "CompEnd") => `(tactic| ((with_reducible rename Mk 84 => hMk); first
  | (exfalso; (rename List.isEmpty _ = _ => hb); exact absurd hb (by decide +kernel))
  | (refine LCg.CompEnd.intro (by assumption) (by assumption) _ (fun _ hp => hp) (by assumption) trivial ⟨rfl, ?_⟩; first | exact el_int rfl | exact el_str (by decide +kernel))))
local macro_rules | `(tactic| walk_at "binaryOp Mult str int") => `(tactic| ((with_reducible rename Mk 84 => hMk); (with_reducible rename WInv _ _ _ _ => hW); obtain ⟨n9, hn9, hn8⟩ := winv_nat hW; subst hn9; refine SB.mul (mul_ok n9 (by omega)) ?_; intro t9 k9))
local macro_rules | `(tactic| walk_at "binaryOp Add str str") => `(tactic| ((with_reducible rename Mk 84 => hMk); (with_reducible rename WInv _ _ _ _ => hW); (with_reducible rename NmAt _ _ _ => hNm); (have hs9 := len_safe hNm.lo hNm.hi); (refine' PyProof.Rows.add_str ?_ ?adZ; (case adZ => (simp only [Str.length_append, len_mul, len_op, len_cl, sizeLine_eq]; omega)); intro t9 k9)))
local macro_rules | `(tactic| walk_at "CompSrcS") => `(tactic| ((with_reducible rename Mk 84 => hMk); (with_reducible rename NmAt _ _ _ => hNm); (with_reducible show CompSrcS _ _ _ _ _ _ _ (PySem.Expr.Call _ _ _ _) _ _ _ _ _ _); k_dflt (refine CompSrcS.intro (by rfl) (by k_asm) (by k_asm) (text_small hNm.lo hNm.hi (by omega)) ?_); intro g'; (refine' sign_rest (P := NatsAre) (El := fun c v => ∃ t, v = .int (c : Int) t) nats_nil nats_snoc ?_ ?_); rotate_left; (intro ys' hP' D' h' tk' F' N' o1'; (try (simp only [LCg.Off1, and_true] at o1')); (try dsimp only)); rotate_right; (intro c u' I' oI' C' oC' D' m2' ys' h' tk' E' hc' hC' hx' F' N' off' ne')))
local macro_rules | `(tactic| walk_at "call type:bytes") => `(tactic| ((with_reducible rename Mk 84 => hMk); (with_reducible rename NmAt _ _ _ => hNm); refine bytes_p (News.isList (by k_asm) (by k_mem)) (by assumption) text_cps hNm.lo hNm.hi (by omega) (by rfl) ?_; intro h9 t9 k9 e9; (have F9 := fr_ext (by assumption) e9); (have N9 := news_ext (by assumption) e9); (try dsimp only)))
local macro_rules | `(tactic| walk_at "call builtin:str.join") => `(tactic| ((with_reducible rename Mk 84 => hMk); refine join_p (News.isList (by k_asm) (by k_mem)) (by assumption) (by assumption) ?_; intro t9 k9))
section
variable {w : World} {mean : ExcName → Option Value} {mg mb : Str → Option Value} {dp un : Nat} {fr : Option (List Env)} {gd : Option (List Code)} {Q E : Value → Shared → Prop} {g : Heap} {gs : Array GenState} {d : Drawn} {tk : Nat} {os : OsState}
  (X : (hd.heap_39 w.params).In g) (T : TP mean mg mb g) (hA : dp + 40 < recursionLimit) (hu : un + 200 < cLine)
include X T hA hu
set_option maxHeartbeats 40000000 in
theorem line_c {a : Addr} {vs : List Value} {ns : List Int} (hl : g.IsList a vs.toArray) (hi : StrsAre vs (ns.map nm)) (h7 : ns.length ≤ 7) (hr : ∀ n ∈ ns, 0 ≤ n ∧ n < 9)
    (hret : ∀ h' tk' p pv n, Ext g h' → g.get? p = none → h'.get? p = some (W.listOf pv.toArray n) → BysAre ns pv ns.length → Q (.ref p) ⟨h', gs, d, tk', os⟩) :
    wpAny (model prg w) ⟨none, dp, fr, gd, un⟩ (call (.ref 84) [.ref a] []) Q E ⟨g, gs, d, tk, os⟩ := by
  have hMk := mk 84
  refine wpAny_call ?_
  refine' enter (binds := [(Str.ofString "names", .ref a)]) ?k3 ?k5 ?k6 ?k7 ?k8 ?k9 ?kB ?_ ?c2 ?c3 ?c4 ?c5; (case k3 => assumption); (case k5 => assumption); (case k6 => k_is); (case k7 => k_is); (case k8 => ((try dsimp only); omega)); (case k9 => exact BindsTo.of_eq rfl); (case c5 => decide); (case kB => exact locs rfl); (case c2 => exact rfl); (case c3 => exact rfl); (case c4 => exact rfl); k_whole
  intro L h₁ tk F N
  dsimp only
  (k_with "state" => first | exact ⟨winv_start, by assumption, by assumption⟩ | exact ⟨winv_pop (by assumption) (by assumption) (by assumption), good_drop (by assumption), Nat.le_trans (Nat.le_of_lt (winv_less (by assumption))) (by assumption)⟩)
  (k_with "measure" => exact winv_less (by assumption))
  k_steps
  iterate 2
    · (rename News _ _ _ _ => nE)
      (try simp only [List.push_toArray] at nE)
      refine line_end hr (by assumption) (by assumption) (by first | exact .inl (by assumption) | exact .inr ⟨by assumption, by assumption⟩) (by assumption) (by assumption) (by assumption) nE (by k_mem) (by k_mem) (by (intro p hp; kst_mem)) ?_
      intro z h1 h2
      simp only [List.contains_cons, List.contains_nil, Bool.or_false, Bool.or_eq_false_iff, beq_eq_false_iff_ne, ne_eq] at h2
      simp [h1, h2]
  · (rename News _ _ _ _ => nE)
    have hB := (by assumption : BysAre ns _ ns.length)
    exact hret _ _ _ _ _ (Fr.keep (by assumption)) (nE _ (.head _)).2.2 (nE _ (.head _)).1 hB
end
end
end Mine

namespace Mine
section
set_option rowWalk.seconds 0
set_option linter.unusedSectionVars false
set_option linter.unusedVariables false
set_option linter.unusedSimpArgs false
local macro_rules | `(tactic| walk_at "m enter") => `(tactic| (refine' enter ?k3 ?k5 ?k6 ?k7 ?k8 ?k9 ?kB ?_ ?c2 ?c3 ?c4 ?c5; (case k3 => assumption); (case k5 => assumption); (case k6 => k_is); (case k7 => k_is); (case k8 => ((try dsimp only); omega)); (case k9 => exact BindsTo.of_eq rfl); (case c5 => decide); (case kB => exact locs rfl); (case c2 => exact rfl); (case c3 => exact rfl); (case c4 => exact rfl); k_whole))
section
variable {w : World} {mean : ExcName → Option Value} {mg mb : Str → Option Value} {dp un : Nat} {fr : Option (List Env)} {gd : Option (List Code)} {Q E : Value → Shared → Prop} {g : Heap} {gs : Array GenState} {d : Drawn} {tk : Nat} {os : OsState}
  (X : (hd.heap_39 w.params).In g) (T : TP mean mg mb g) (hA : dp + 40 < recursionLimit) (hu : un + 200 < cLine)
include X T hA hu

omit X T hA hu in
theorem range_keep {h₀ h : Heap} {L r : Addr} {m : Str → Option Value} {a b c : Int} {t u v : Tok} (R : IsRange h₀ r a b c t u v) (F : Fr h₀ L h m) : IsRange h r a b c t u v := F.keep _ _ R
omit X T hA hu in
theorem nineR {ns : List Int} (hr : ∀ n ∈ ns, 0 ≤ n ∧ n < 9) {k : Int} (hk : k ∈ ns) : k = 0 ∨ k = 1 ∨ k = 2 ∨ k = 3 ∨ k = 4 ∨ k = 5 ∨ k = 6 ∨ k = 7 ∨ k = 8 := by
  have := hr k hk; omega
omit X T hA hu in
theorem nineR2 {k : Int} (h0 : 0 ≤ k) (h9 : k < 0 + ((9 : Nat) : Int)) : k = 0 ∨ k = 1 ∨ k = 2 ∨ k = 3 ∨ k = 4 ∨ k = 5 ∨ k = 6 ∨ k = 7 ∨ k = 8 := by
  omega
local macro_rules | `(tactic| walk_at "CompSrc") => `(tactic| ((with_reducible rename Mk 79 => hMk); (with_reducible rename IsRange _ _ _ _ _ _ _ _ => hRg); k_dflt (refine LCg.CompSrc.range (n := 9) (by rfl) (by k_asm) (by k_asm) (range_keep hRg (by assumption)) (by decide) (by rfl) (by decide) ?_); intro g'; k_dflt (refine' kct_range nm (fun k' t' I' oI' C' oC' D' m' ys' h' tk' E' hlo' hhi' hC' hx' F' N' off' ne' => ?_) ?_); rotate_left; (skip); rotate_right; (intro hMark'; rcases nineR2 hlo' hhi' with hz | hz | hz | hz | hz | hz | hz | hz | hz <;> subst hz)))
local macro_rules | `(tactic| walk_at "call ref") => `(tactic| ((with_reducible rename Mk 79 => hMk); (with_reducible show wpAny _ _ (PySem.call (Value.ref 45) [Value.ref _] []) _ _ _); (first | (refine' build_ss ?ba1 ?ba2 ?ba3 ?ba4 ?ba5 ?ba6 ?ba7 ?_; (case ba5 => exact News.isTup (by assumption) (by k_mem)); (case ba6 => decide +kernel); (case ba7 => decide +kernel)) | (refine' build_sn ?ba1 ?ba2 ?ba3 ?ba4 ?ba5 ?_; (case ba5 => exact News.isTup (by assumption) (by k_mem))) | (refine' build_nn ?ba1 ?ba2 ?ba3 ?ba4 ?ba5 ?_; (case ba5 => exact News.isTup (by assumption) (by k_mem))) | (refine' build_ns ?ba1 ?ba2 ?ba3 ?ba4 ?ba5 ?ba7 ?_; (case ba5 => exact News.isTup (by assumption) (by k_mem)); (case ba7 => decide +kernel))); (case ba1 => exact Frag.In.keeps (by assumption) (Fr.keep (by assumption))); (case ba2 => exact Top.keeps (by assumption) (Fr.keep (by assumption))); (case ba3 => ((try dsimp only); omega)); (case ba4 => ((try dsimp only); omega)); intro h9 tk9 t9 e9; (have F9 := fr_ext (by assumption) e9); (have N9 := news_ext (by assumption) e9); (try dsimp only)))
local macro_rules | `(tactic| walk_at "CompEnd") => `(tactic| ((with_reducible rename Mk 79 => hMk); k_dflt (refine LCg.CompEnd.intro (by assumption) (by assumption) _ (fun _ hp => hp) (by assumption) (by lcg_src) ?_)))
local macro_rules | `(tactic| walk_at "subscriptTail Name Name ref int") => `(tactic| ((with_reducible rename Mk 79 => hMk); (with_reducible show wpAny _ _ (subscriptTail _ _ (Value.ref _) (Value.int _ _)) _ _ _); (with_reducible rename News _ _ _ _ => lN'); (with_unfolding_all refine item_listL (News.isList lN' (by k_mem)) (by first | decide | omega) (by first | decide | omega) (by first | rfl | simp) ?_)))
local macro_rules | `(tactic| walk_at "KCtEl") => `(tactic| ((with_reducible rename Mk 79 => hMk); refine kct_el (by decide +kernel) rfl rfl))
set_option maxHeartbeats 4000000 in
theorem names_r {r : Addr} {t u v : Tok} (hRg : IsRange g r 0 9 1 t u v)
    (hret : ∀ h' tk' p (vs' : List Value) n, Ext g h' → g.get? p = none → h'.get? p = some (W.listOf vs'.toArray n) → StrsAre vs' ((rangeKs 0 9).map nm) → Q (.ref p) ⟨h', gs, d, tk', os⟩) :
    wpAny (model prg w) ⟨none, dp, fr, gd, un⟩ (call (.ref 79) [.ref r] []) Q E ⟨g, gs, d, tk, os⟩ := by
  have hMk := mk 79
  refine wpAny_call ?_
  refine' enterC (binds := [(Str.ofString "ranks", .ref r)]) ?k3 ?k5 ?k6 ?k7 ?k8 ?k9 ?kB ?kD ?_ ?c2 ?c3 ?c4; (case k3 => assumption); (case k5 => assumption); (case k6 => k_is); (case k7 => k_is); (case k8 => ((try dsimp only); omega)); (case k9 => exact BindsTo.of_eq rfl); (case kB => exact rfl); (case kD => decide +kernel); (case c2 => exact rfl); (case c3 => exact rfl); (case c4 => exact rfl); k_whole
  intro L h₁ tk cells F N Y
  k_cells Y
  (try simp only [List.cons_append, List.nil_append, List.append_nil] at N)
  dsimp only
  k_steps
  have hC := (by assumption : CarriedAll _ (List.map (fun k => PyData.str (nm k)) _))
  have hN := (by assumption : News g L _ ((_, LCg.lst _) :: _))
  exact hret _ _ _ _ _ (Fr.keep (by assumption)) (hN _ (.head _)).2.2 (hN _ (.head _)).1 hC.strsOf
end
end
end Mine

namespace Mine
section
open LCg
section
variable {prog : Program} {w : World} {A : Around} {E : Value → Shared → Prop} {s : Shared} {h₀ : Heap} {L : Addr} {m : Str → Option Value} {env : Env}
/-- a list comprehension whose target is a cell, over a list of ints of the caller's, each element a new list of ints -/
def RowEnd (h₀ : Heap) (L : Addr) (m : Str → Option Value) (s₁ : Shared) (led : List (Addr × Obj)) (row : List Int) (y : Value) (s₂ : Shared) : Prop :=
  ∃ h' tk p vs, s₂ = { s₁ with heap := h', toks := tk } ∧ y = .ref p ∧ Fr h₀ L h' m ∧ News h₀ L h' ((p, LCg.lst vs) :: led) ∧ Off1 p led ∧ IntsAre vs row
theorem off1_all {D : Addr} : ∀ {l : List (Addr × Obj)}, LCg.Off1 D l → ∀ p ∈ l, p.1 ≠ D
  | [], _, _, h => nomatch h
  | _ :: _, x, p, h => by
    rcases List.mem_cons.mp h with rfl | h
    · exact x.1
    · exact off1_all x.2 p h
structure CcSt (h₀ : Heap) (L : Addr) (m : Str → Option Value) (I D C R : Addr) (news : List (Addr × Obj)) : Prop where
  nL : I ≠ L ∧ D ≠ L ∧ C ≠ L ∧ R ≠ L
  n0 : h₀.get? I = none ∧ h₀.get? D = none ∧ h₀.get? C = none ∧ h₀.get? R = none
  ne : I ≠ D ∧ I ≠ C ∧ I ≠ R ∧ D ≠ C ∧ D ≠ R ∧ C ≠ R
  off : ∀ p ∈ news, p.1 ≠ I ∧ p.1 ≠ D ∧ p.1 ≠ C ∧ p.1 ≠ R
set_option maxHeartbeats 4000000 in
theorem loopC {elt iter : Expr} {x : Str} {px : Pos} {scope : Scope} {cl : List (Str × Addr)} {pos : Pos} {RR : Result → Shared → Prop} {row : Int → List Int} {I D C R ax : Addr} {vs : List Value} {ns : List Int} {news : List (Addr × Obj)}
    (hh : A.handled = none) (hl : h₀.IsList ax vs.toArray) (hi : IntsAre vs ns) (hz : ns.length ≤ 1000) (hax : ax ≠ I) (hkind : scope.kind = .function) (hkx : (compEnvC scope ((x, R) :: cl) C env).kindOf x = some .cell)
    (turn : ∀ k t oI oC oR ys rows hh tk, k ∈ ns → oR.data = .cell (some (.int k t)) → Fr h₀ L hh m → News h₀ L hh ((I, oI) :: (C, oC) :: (R, oR) :: (D, LCg.lst ys) :: (news ++ rows)) →
        wpAny (model prog w) A (eval elt (compEnvC scope ((x, R) :: cl) C env)) (RowEnd h₀ L m { s with heap := hh, toks := tk } ((I, oI) :: (C, oC) :: (R, oR) :: (D, LCg.lst ys) :: (news ++ rows)) (row k)) (fun _ _ => False) { s with heap := hh, toks := tk })
    (fin : ∀ ys rows hh tk mC, Fr h₀ L hh m → News h₀ L hh ((D, LCg.lst ys) :: (news ++ rows)) → (∀ p ∈ rows, p.1 ≠ C) → hh.Ns C mC → DatAll rows ys (ns.map fun k => dI (row k)) → RR (.ok .next) { s with heap := hh, toks := tk })
    (Z : CcSt h₀ L m I D C R news) {g : Heap} {tk₀ : Nat} {m₁ : Str → Option Value} (hit : g.IsListIter I ax 0) (F : Fr h₀ L g m) (N : News h₀ L g ((D, LCg.lst []) :: news)) (hC : g.Ns C m₁) (hR : g.IsCell R none) :
    codeAny (model prog w) A (.compLoop (.ListComp elt [⟨.Name x px, iter, [], 0⟩] scope pos) 0 (.ref I) (.ref D) (compEnvC scope ((x, R) :: cl) C env)) RR { s with heap := g, toks := tk₀ } := by
  have hlen : vs.toArray.size = ns.length := by simp [hi.length]
  obtain ⟨⟨nIL, nDL, nCL, nRL⟩, ⟨I0, D0, C0, R0⟩, ⟨nID, nIC, nIR, nDC, nDR, nCR⟩, off⟩ := Z
  have Wk := Walks.list (prog := prog) (w := w) hh I ax hax vs.toArray
  rw [hlen] at Wk
  refine codeAny_compLoop_tests
    (fun k s' => ∃ h' tk i ys mC rows cv, s' = { s with heap := h', toks := tk } ∧ i ≤ ns.length ∧ k = ns.length + 1 - i ∧ h'.IsListIter I ax i ∧ Fr h₀ L h' m ∧ h'.Ns C mC ∧ h'.IsCell R cv ∧ News h₀ L h' ((D, LCg.lst ys) :: (news ++ rows)) ∧
      (∀ p ∈ rows, p.1 ≠ I ∧ p.1 ≠ D ∧ p.1 ≠ C ∧ p.1 ≠ R) ∧ DatAll rows ys ((ns.take i).map fun k => dI (row k)) ∧ ys.length = i) ?_ (ns.length + 1)
    ⟨g, tk₀, 0, [], m₁, [], none, rfl, Nat.zero_le _, rfl, hit, F, hC, hR, by simpa using N, fun _ h => (nomatch h), .nil, rfl⟩
  rintro k s' ⟨h', tk, i, ys, mC, rows, cv, rfl, hile, rfl, hst, F', hn, hc, N', offR, hD, hyl⟩
  have hls : h'.IsList ax vs.toArray := hl.at fun o e => F'.keep ax o e
  by_cases hlt : i < ns.length
  · refine Wk.item i _ _ _ hlt ⟨hst, hls⟩ fun v h₂ tk₂ hPv hst₂ hk₂ => ?_
    obtain ⟨t, hx⟩ := hi.get i ns[i] (by simp [hlt])
    have hv : v = .int ns[i] t := by
      have hP' : vs[i]? = some v := by simpa using hPv
      rw [hx] at hP'; exact (Option.some.inj hP').symm
    subst hv
    have hc₂ : h₂.IsCell R cv := by
      obtain ⟨o, e, hd⟩ := hc
      exact ⟨o, hk₂ R o (by simpa using Ne.symm nIR) e, hd⟩
    refine wpAny_assign_Name (wpAny_storeName_cell (env := compEnvC scope ((x, R) :: cl) C env) hkind hkx (by simp [compEnvC]) hc₂ fun h₃ hc₃ hs₃ => ?_)
    refine wpAny_tests_nil ?_
    simp only [if_true]
    have F₃ : Fr h₀ L h₃ m := (fr_but F' hk₂ (Ne.symm nIL) I0).change hs₃ nRL R0
    have keep3 : ∀ b o, b ≠ I → b ≠ R → h'.get? b = some o → h₃.get? b = some o := fun b o h1 h2 e => hs₃.extBut b o h2 (hk₂ b o (by simpa using h1) e)
    obtain ⟨oI, heI, _⟩ := id hst₂.1
    have heI3 : h₃.get? I = some oI := hs₃.extBut _ _ nIR heI
    obtain ⟨oC, heC, hoC⟩ := ns_obj hn
    have heC3 := keep3 _ _ (Ne.symm nIC) nCR heC
    obtain ⟨oR, heR, hdR⟩ := hc₃
    have N₃ : News h₀ L h₃ ((I, oI) :: (C, oC) :: (R, oR) :: (D, LCg.lst ys) :: (news ++ rows)) := fun p hp => by
      rcases List.mem_cons.mp hp with rfl | hp
      · exact ⟨heI3, nIL, I0⟩
      rcases List.mem_cons.mp hp with rfl | hp
      · exact ⟨heC3, nCL, C0⟩
      rcases List.mem_cons.mp hp with rfl | hp
      · exact ⟨heR, nRL, R0⟩
      have z := N' p hp
      refine ⟨?_, z.2⟩
      rcases List.mem_cons.mp hp with rfl | hp
      · exact keep3 _ _ (Ne.symm nID) nDR z.1
      rcases List.mem_append.mp hp with hp | hp
      · exact keep3 _ _ (off p hp).1 (off p hp).2.2.2 z.1
      · exact keep3 _ _ (offR p hp).1 (offR p hp).2.2.2 z.1
    refine wpAny_mono (turn ns[i] t oI oC oR ys rows h₃ _ (List.getElem_mem hlt) hdR F₃ N₃) (fun y s₄ h₄ => ?_) fun _ _ e => e.elim
    obtain ⟨h₄, tk₄, p, vs', rfl, rfl, F₄, N₄, off₄, hI₄⟩ := h₄
    have o4 := off1_all off₄
    have zI := (N₄ (I, oI) (by simp)).1
    have zC := (N₄ (C, oC) (by simp)).1
    have zR := (N₄ (R, oR) (by simp)).1
    have zD := (N₄ (D, LCg.lst ys) (by simp)).1
    refine append_at (hsz := by rw [sizeLine_eq, List.size_toArray, hyl]; omega) zD fun h₅ hs₅ hD₅ => ?_
    have hpD : p ≠ D := fun e => o4 (D, LCg.lst ys) (by simp) e.symm
    have hpI : p ≠ I := fun e => o4 (I, oI) (by simp) e.symm
    have hpC : p ≠ C := fun e => o4 (C, oC) (by simp) e.symm
    have hpR : p ≠ R := fun e => o4 (R, oR) (by simp) e.symm
    refine ⟨ns.length + 1 - (i + 1), by omega, h₅, tk₄, i + 1, ys ++ [.ref p], _, rows ++ [(p, LCg.lst vs')], some (.int ns[i] t), rfl, hlt, rfl, ?_, F₄.change hs₅ nDL D0, (hoC.ns zC).sameBut hs₅ (Ne.symm nDC), ⟨oR, hs₅.extBut _ _ (Ne.symm nDR) zR, hdR⟩, ?_, ?_, ?_, by simp [hyl]⟩
    · obtain ⟨o', q, r⟩ := hst₂.1
      rw [heI] at q; cases q
      exact ⟨oI, hs₅.extBut _ _ nID zI, r⟩
    · intro q hq
      rcases List.mem_cons.mp hq with rfl | hq
      · exact ⟨hD₅.trans (congrArg some (lst_snoc ys _)), nDL, D0⟩
      · have hq4 : q ∈ (p, LCg.lst vs') :: (I, oI) :: (C, oC) :: (R, oR) :: (D, LCg.lst ys) :: (news ++ rows) ∧ q.1 ≠ D := by
          rcases List.mem_append.mp hq with hq | hq
          · exact ⟨by simp [hq], (off q hq).2.1⟩
          rcases List.mem_append.mp hq with hq | hq
          · exact ⟨by simp [hq], (offR q hq).2.1⟩
          · rw [List.mem_singleton.mp hq]; exact ⟨by simp, hpD⟩
        exact ⟨hs₅.extBut _ _ hq4.2 (N₄ q hq4.1).1, (N₄ q hq4.1).2⟩
    · intro q hq
      rcases List.mem_append.mp hq with hq | hq
      · exact offR q hq
      · rw [List.mem_singleton.mp hq]; exact ⟨hpI, hpD, hpC, hpR⟩
    · have e : ns.take (i + 1) = ns.take i ++ [ns[i]] := by rw [List.take_add_one, List.getElem?_eq_getElem hlt]; rfl
      rw [e, List.map_append]
      exact DatAll.append (DatAll.mono (fun q hq => List.mem_append.mpr (.inl hq)) hD) (.one (.list (n := vs'.length) (vs := vs') (by simp [LCg.lst, W.listOf]) (datAll_ints hI₄)))
  · obtain rfl : i = ns.length := by omega
    refine Wk.done _ _ _ ⟨hst, hls⟩ fun h₂ tk₂ hk₂ => ?_
    rw [List.take_length] at hD
    refine fin ys rows h₂ tk₂ mC (fr_but F' hk₂ (Ne.symm nIL) I0) (fun q hq => ⟨hk₂ _ _ ?_ (N' q hq).1, (N' q hq).2⟩) (fun q hq => (offR q hq).2.2.1) (hn.at' fun o e => hk₂ _ o (by simpa using Ne.symm nIC) e) hD
    rcases List.mem_cons.mp hq with rfl | hq
    · simpa using Ne.symm nID
    rcases List.mem_append.mp hq with hq | hq
    · simpa using (off q hq).1
    · simpa using (offR q hq).1
def CcSrc (prog : Program) (w : World) (A : Around) (h₀ : Heap) (L : Addr) (m : Str → Option Value) (env : Env) (elt : Expr) (x : Str) (scope : Scope) (cl : List (Str × Addr)) (row : Int → List Int) (Q : Value → Shared → Prop) (xv : Value) (s₁ : Shared) : Prop :=
  ∃ ax vs ns news, xv = .ref ax ∧ A.handled = none ∧ Fr h₀ L s₁.heap m ∧ News h₀ L s₁.heap news ∧ h₀.IsList ax vs.toArray ∧ IntsAre vs ns ∧ ns.length ≤ 1000 ∧
      (∀ k t I oI C oC R oR D ys rows hh tk, k ∈ ns → oR.data = .cell (some (.int k t)) → Fr h₀ L hh m → News h₀ L hh ((I, oI) :: (C, oC) :: (R, oR) :: (D, LCg.lst ys) :: (news ++ rows)) →
        wpAny (model prog w) A (eval elt (compEnvC scope ((x, R) :: cl) C env)) (RowEnd h₀ L m { s₁ with heap := hh, toks := tk } ((I, oI) :: (C, oC) :: (R, oR) :: (D, LCg.lst ys) :: (news ++ rows)) (row k)) (fun _ _ => False) { s₁ with heap := hh, toks := tk }) ∧
      (∀ D ys rows hh tk, Fr h₀ L hh m → News h₀ L hh ((D, LCg.lst ys) :: (news ++ rows)) → DatAll rows ys (ns.map fun k => dI (row k)) → Q (.ref D) { s₁ with heap := hh, toks := tk })
theorem CcSrc.intro {elt : Expr} {x : Str} {scope : Scope} {cl : List (Str × Addr)} {row : Int → List Int} {Q : Value → Shared → Prop} {ax : Addr} {vs : List Value} {ns : List Int} {news : List (Addr × Obj)} {s₁ : Shared}
    (hh : A.handled = none) (F : Fr h₀ L s₁.heap m) (N : News h₀ L s₁.heap news) (hl : h₀.IsList ax vs.toArray) (hi : IntsAre vs ns) (hz : ns.length ≤ 1000)
    (turn : ∀ k t I oI C oC R oR D ys rows hh tk, k ∈ ns → oR.data = .cell (some (.int k t)) → Fr h₀ L hh m → News h₀ L hh ((I, oI) :: (C, oC) :: (R, oR) :: (D, LCg.lst ys) :: (news ++ rows)) →
        wpAny (model prog w) A (eval elt (compEnvC scope ((x, R) :: cl) C env)) (RowEnd h₀ L m { s₁ with heap := hh, toks := tk } ((I, oI) :: (C, oC) :: (R, oR) :: (D, LCg.lst ys) :: (news ++ rows)) (row k)) (fun _ _ => False) { s₁ with heap := hh, toks := tk })
    (fin : ∀ D ys rows hh tk, Fr h₀ L hh m → News h₀ L hh ((D, LCg.lst ys) :: (news ++ rows)) → DatAll rows ys (ns.map fun k => dI (row k)) → Q (.ref D) { s₁ with heap := hh, toks := tk }) :
    CcSrc prog w A h₀ L m env elt x scope cl row Q (.ref ax) s₁ := ⟨ax, vs, ns, news, rfl, hh, F, N, hl, hi, hz, turn, fin⟩
theorem ListComp_C {elt iter : Expr} {x : Str} {px : Pos} {scope : Scope} {cl : List (Str × Addr)} {pos : Pos} {Q : Value → Shared → Prop} {row : Int → List Int}
    (_F₀ : Fr h₀ L s.heap m) (hclos : closureFor scope env = pure cl) (hkind : scope.kind = .function)
    (hnames : ∀ y ∈ scope.names, y.2 = .local → scope.names.lookup y.1 = some .local)
    (hcf : ∀ n, cellsFrom n scope.names cl = (x, n) :: cl) (hpc : ∀ h, pushCells h scope.names = h.push { cls := .type "cell", data := .cell none })
    (hkx : ∀ C R, (compEnvC scope ((x, R) :: cl) C env).kindOf x = some .cell)
    (h : wpAny (model prog w) A (eval iter env) (CcSrc prog w A h₀ L m env elt x scope cl row Q) E s)
    (hs : ∀ x, foldedSetIterable iter env x = pure x := by intro _; rfl) :
    wpAny (model prog w) A (eval (.ListComp elt [⟨.Name x px, iter, [], 0⟩] scope pos) env) Q E s := by
  rw [eval_ListComp]
  refine wpAny_comprehension_free (use := none) rfl hs hclos hkind hnames (wpAny_mono h (fun xv s₁ h₁ => ?_) fun _ _ e => e)
  obtain ⟨ax, vs, ns, news, rfl, hh, F, N, hl, hi, hz, turn, fin⟩ := h₁
  have hls : s₁.heap.IsList ax vs.toArray := hl.at fun o e => F.keep ax o e
  obtain ⟨ol, hol, _⟩ := id hl
  have hlt : ax < s₁.heap.objs.size := by obtain ⟨_, e, _⟩ := hls; exact Heap.lt_size e
  have hlen : vs.toArray.size = ns.length := by simp [hi.length]
  refine wpAny_pyIter_list hls ?_
  refine wpAny_newObj_type ?_
  -- the frame of the comprehension: its dict, its cell
  simp only [newFunctionEnv, Option.isSome_some, if_true]
  refine wpAny_bind (wpAny_alloc ?_)
  refine wpAny_bind (wpAny_layCells _ (fun name kind cells => by cases hkc : kind == NameKind.cell <;> simp [hkc]) _ _ _ _ ?_)
  rw [hcf, hpc]
  dsimp only
  refine wpAny_bind ?_
  rw [List.forIn_nil]
  refine wpAny_pure (wpAny_pure ?_)
  generalize hH1 : s₁.heap.push { cls := Value.type "list_iterator", data := Data.fields #[Value.ref ax, Value.int 0 0] } = H1
  generalize hH2 : H1.push { cls := Value.type "list", data := Data.seq #[] } = H2
  generalize hH3 : H2.push { cls := Value.type "dict", data := Data.dict #[] } = H3
  have z1 : H1.objs.size = s₁.heap.objs.size + 1 := by rw [← hH1, Heap.size_push]
  have z2 : H2.objs.size = H1.objs.size + 1 := by rw [← hH2, Heap.size_push]
  have z3 : H3.objs.size = H2.objs.size + 1 := by rw [← hH3, Heap.size_push]
  have k1 : ∀ b o, s₁.heap.get? b = some o → H1.get? b = some o := fun b o e => hH1 ▸ Heap.get?_push_of_some _ e
  have k2 : ∀ b o, H1.get? b = some o → H2.get? b = some o := fun b o e => hH2 ▸ Heap.get?_push_of_some _ e
  have k3 : ∀ b o, H2.get? b = some o → H3.get? b = some o := fun b o e => hH3 ▸ Heap.get?_push_of_some _ e
  have k4 : ∀ b o, H3.get? b = some o → (H3.push { cls := Value.type "cell", data := Data.cell none }).get? b = some o := fun b o e => Heap.get?_push_of_some _ e
  have kk : ∀ b o, s₁.heap.get? b = some o → (H3.push { cls := Value.type "cell", data := Data.cell none }).get? b = some o := fun b o e => k4 _ _ (k3 _ _ (k2 _ _ (k1 _ _ e)))
  have fresh₀ : ∀ a, s₁.heap.objs.size ≤ a → h₀.get? a = none := fun a ha => by
    cases e : h₀.get? a with
    | none => rfl
    | some o' => exact absurd (Heap.lt_size (F.keep a o' e)) (Nat.not_lt.mpr ha)
  have hLlt : @LT.lt Nat _ L s₁.heap.objs.size := F.ns.lt
  have hoffN : ∀ p ∈ news, p.1 ≠ s₁.heap.objs.size ∧ p.1 ≠ H1.objs.size ∧ p.1 ≠ H2.objs.size ∧ p.1 ≠ H3.objs.size := by
    intro p hp
    have hp' : @LT.lt Nat _ p.1 s₁.heap.objs.size := Heap.lt_size (N p hp).1
    refine ⟨?_, ?_, ?_, ?_⟩ <;> (show ¬ (@Eq Nat _ _); omega)
  have Z : CcSt h₀ L m s₁.heap.objs.size H1.objs.size H2.objs.size H3.objs.size news := by
    refine ⟨⟨?_, ?_, ?_, ?_⟩, ⟨fresh₀ _ ?_, fresh₀ _ ?_, fresh₀ _ ?_, fresh₀ _ ?_⟩, ⟨?_, ?_, ?_, ?_, ?_, ?_⟩, hoffN⟩
    all_goals first
      | (show ¬ (@Eq Nat _ _); omega)
      | (show (_ : Nat) ≤ _; omega)
  have hit : (H3.push { cls := Value.type "cell", data := Data.cell none }).IsListIter s₁.heap.objs.size ax 0 := ⟨_, k4 _ _ (k3 _ _ (k2 _ _ (hH1 ▸ Heap.get?_push_size _ rfl))), rfl, rfl⟩
  have hD0 : (H3.push { cls := Value.type "cell", data := Data.cell none }).get? H1.objs.size = some (LCg.lst []) := k4 _ _ (k3 _ _ (hH2 ▸ Heap.get?_push_size _ rfl))
  have hC0 : (H3.push { cls := Value.type "cell", data := Data.cell none }).Ns H2.objs.size (fun _ => none) := (Heap.Ns.new H2 (.type "dict")).keeps fun b o e => k4 b o (by rw [← hH3]; exact e)
  have hR0 : (H3.push { cls := Value.type "cell", data := Data.cell none }).IsCell H3.objs.size none := ⟨_, Heap.get?_push_size _ rfl, rfl⟩
  have hlsN : (H3.push { cls := Value.type "cell", data := Data.cell none }).IsList ax vs.toArray := hls.at fun o e => kk _ _ e
  have loop := fun tk₀ => loopC (prog := prog) (w := w) (A := A) (s := s₁) (h₀ := h₀) (L := L) (m := m) (env := env) (elt := elt) (iter := iter) (x := x) (px := px) (scope := scope) (cl := cl) (pos := pos) (row := row) (tk₀ := tk₀)
    (RR := compPost (model prog w) A E none Q (.ref H1.objs.size) H2.objs.size) hh hl hi hz (Nat.ne_of_lt hlt) hkind (hkx _ _) (fun k t oI oC oR ys rows hh tk hk ho F N => turn k t _ oI _ oC _ oR _ ys rows hh tk hk ho F N)
    (fun ys rows h' tk mC F' N' hoC hn hD => ⟨mC, hn, fun h'' hs'' => fin _ ys rows h'' tk (F'.change hs'' Z.nL.2.2.1 Z.n0.2.2.1) (fun q hq => ⟨hs''.extBut _ _ (by
      rcases List.mem_cons.mp hq with rfl | hq
      · exact Z.ne.2.2.2.1
      rcases List.mem_append.mp hq with hq | hq
      · exact (Z.off q hq).2.2.1
      · exact hoC q hq) (N' q hq).1, (N' q hq).2⟩) hD⟩)
    Z hit (F.keeps kk) (fun q hq => by
      rcases List.mem_cons.mp hq with rfl | hq
      · exact ⟨hD0, Z.nL.2.1, Z.n0.2.1⟩
      · exact ⟨kk _ _ (N q hq).1, (N q hq).2⟩) hC0 hR0
  have Wk := Walks.list (prog := prog) (w := w) hh s₁.heap.objs.size ax (Nat.ne_of_lt hlt) vs.toArray
  exact codeAny_compStart_list (loop _) (Wk.self 0 _ _ _ ⟨hit, hlsN⟩ (loop _))
theorem gen_rest {α : Type} {PL : List Value → List α → Prop} {xs : List α} {n : Nat} {Pv : Nat → Value → Prop} {V : α → Value → Prop} {El : α → Value → Prop} {elt : Expr} {x : Str} {scope : Scope} {cl : List (Str × Addr)} {S : List (Addr × Obj) → Prop} {Fin : List Value → List (Addr × Obj) → Prop} {news : List (Addr × Obj)}
    (hn : xs.length = n) (hPv : ∀ i v, i < n → Pv i v → ∃ c, xs[i]? = some c ∧ V c v) (hnil : PL [] []) (hsnoc : ∀ ys cs v c, PL ys cs → El c v → PL (ys ++ [v]) (cs ++ [c]))
    (turn : ∀ c u I oI C oC D m₂ ys h tk (E' : Value → Shared → Prop), c ∈ xs → V c u → NsObj oC m₂ → m₂ x = some u → Fr h₀ L h m → News h₀ L h ((I, oI) :: (C, oC) :: (D, LCg.lst ys) :: news) → Off3 I C D news → ((@Ne Nat I C) ∧ (@Ne Nat I D) ∧ (@Ne Nat C D)) →
      wpAny (model prog w) A (eval elt (compEnvC scope cl C env)) (CompEnd h₀ L m { s with heap := h, toks := tk } I oI C oC D (LCg.lst ys) S (fun v news' => news' = news ∧ El c v)) E' { s with heap := h, toks := tk })
    (fin : ∀ ys, PL ys xs → Fin ys news) : CompRest prog w A h₀ L m env elt x scope cl s S Pv Fin n 0 [] news := by
  subst hn
  have key : ∀ (j i : Nat) (ys : List Value), i + j = xs.length → PL ys (xs.take i) → CompRest prog w A h₀ L m env elt x scope cl s S Pv Fin j i ys news := by
    intro j
    induction j with
    | zero =>
      intro i ys hi hy
      have e : i = xs.length := by omega
      subst e
      rw [List.take_length] at hy
      exact CompRest.zero (fin ys hy)
    | succ j ih =>
      intro i ys hi hy
      refine CompRest.succ ?_
      intro v I oI C oC D m₂ h tk E' hv hC hx F N off ne
      obtain ⟨c, hc, hV⟩ := hPv i v (by omega) hv
      refine wpAny_mono (turn c v I oI C oC D m₂ ys h tk E' (List.mem_of_getElem? hc) hV hC hx F N off ne) (fun v s₂ hq => ?_) fun _ _ e => e
      obtain ⟨h', tk', nw, e, F', N', off', hS, hn, hel⟩ := hq
      subst hn
      refine ⟨h', tk', nw, e, F', N', off', hS, ?_⟩
      refine ih (i + 1) _ (by omega) ?_
      rw [List.take_add_one, hc]
      exact hsnoc _ _ _ _ hy hel
  exact key xs.length 0 [] (by omega) (by simpa using hnil)
theorem item_s {D : Addr} {vs : List Value} {ns : List Int} {k : Int} {u : Tok} {value slice : PySem.Expr} {Q : Value → Shared → Prop} (hl : s.heap.IsList D vs.toArray) (hs9 : StrsAre vs ((rangeKs 0 9).map nm)) (hr : ∀ n ∈ ns, 0 ≤ n ∧ n < 9) (hk : k ∈ ns) (h : ∀ t, Q (.str (nm k) t) s)
    (hs : subscripted slice false (.ref D) (.int k u) = operate [.ref D, .int k u] (getItem (.ref D) (.int k u)) := by with_unfolding_all rfl) :
    wpAny (model prog w) A (subscriptTail value slice (.ref D) (.int k u)) Q E s := by
  have hb := hr k hk
  have hx : ((rangeKs 0 9).map nm)[k.toNat]? = some (nm k) := by
    have : (rangeKs 0 9)[k.toNat]? = some k := by
      simp [rangeKs, show k.toNat < 9 by omega]
      omega
    rw [List.getElem?_map, this]; rfl
  obtain ⟨t, ht⟩ := hs9.get _ _ hx
  exact tail_any hl.typeIs slot_list_getitem.lookup (wpAny_getItem_list hl hb.1 (by omega) (by simpa using ht) (h t)) hs
end
def againstRow (k : Int) : List Int := (rangeKs 0 9).map fun j => if j < k then 1 else if k = j then 0 else -1
def RowAre (k : Int) (vs : List Value) (js : List Int) : Prop := IntsAre vs (js.map fun j => if j < k then 1 else if k = j then 0 else -1)
structure KMk (k : Int) : Prop where
abbrev kmOf {k : Int} (_ : KMk k) : Int := k
def RowEl (k c : Int) (v : Value) : Prop := ∃ t, v = .int (if c < k then 1 else if k = c then 0 else -1) t
theorem rowEl_of {k c r : Int} {t : Tok} (e : r = if c < k then 1 else if k = c then 0 else -1) : RowEl k c (.int r t) := ⟨t, by rw [e]⟩
theorem rowAre_nil (k : Int) : RowAre k [] [] := .nil
theorem rowAre_snoc (k : Int) (ys : List Value) (cs : List Int) (v : Value) (c : Int) (h : RowAre k ys cs) (e : RowEl k c v) : RowAre k (ys ++ [v]) (cs ++ [c]) := by
  obtain ⟨t, rfl⟩ := e
  show IntsAre _ ((cs ++ [c]).map _)
  rw [List.map_append]
  exact IntsAre.append h (.cons _ _ .nil)
theorem nineAt {vs : List Value} (h : StrsAre vs ((rangeKs 0 9).map nm)) : ∀ i v, i < 9 → vs.toArray[i]? = some v → ∃ c, (rangeKs 0 9)[i]? = some c ∧ ∃ t, v = .str (nm c) t := by
  intro i v hi hv
  have hc : (rangeKs 0 9)[i]? = some ((i : Int)) := by simp [rangeKs, hi]
  have hx : ((rangeKs 0 9).map nm)[i]? = some (nm (i : Int)) := by rw [List.getElem?_map, hc]; rfl
  obtain ⟨t, ht⟩ := h.get _ _ hx
  refine ⟨_, hc, t, ?_⟩
  have hv' : vs[i]? = some v := by simpa using hv
  rw [ht] at hv'; exact (Option.some.inj hv').symm
end
end Mine

namespace Mine
section
set_option rowWalk.seconds 0
set_option linter.unusedSectionVars false
set_option linter.unusedVariables false
set_option linter.unusedSimpArgs false
local macro_rules | `(tactic| walk_at "m enter") => `(tactic| (refine' enter ?k3 ?k5 ?k6 ?k7 ?k8 ?k9 ?kB ?_ ?c2 ?c3 ?c4 ?c5; (case k3 => assumption); (case k5 => assumption); (case k6 => k_is); (case k7 => k_is); (case k8 => ((try dsimp only); omega)); (case k9 => exact BindsTo.of_eq rfl); (case c5 => decide); (case kB => exact locs rfl); (case c2 => exact rfl); (case c3 => exact rfl); (case c4 => exact rfl); k_whole))
structure RowsAt (h : Heap) (p : Addr) (xss : List (List Int)) : Prop where
  is : ∃ (ys : List Value), h.IsList p ys.toArray ∧ ys.length = xss.length ∧ (∀ i (hi : i < xss.length), ∃ (q : Addr) (vs : List Value), ys[i]? = some (Value.ref q) ∧ h.IsList q vs.toArray ∧ IntsAre vs xss[i]) ∧ Rd h (.ref p) (LL xss)
theorem RowsAt.ext {h h' : Heap} {p : Addr} {xss : List (List Int)} (r : RowsAt h p xss) (e : Ext h h') : RowsAt h' p xss := by
  obtain ⟨ys, h1, h2, h3, h4⟩ := r.is
  refine ⟨ys, h1.at fun o x => e _ _ x, h2, fun i hi => ?_, h4.ext e⟩
  obtain ⟨q, vs, a, b, c⟩ := h3 i hi
  exact ⟨q, vs, a, b.at fun o x => e _ _ x, c⟩
theorem ints_of_dat {news : List (Addr × Obj)} : ∀ {vs : List Value} {ns : List Int}, DatAll news vs (ns.map Dat.int) → IntsAre vs ns
  | [], [], _ => .nil
  | [], _ :: _, h => by cases h
  | v :: vs, [], h => by cases h
  | v :: vs, n :: ns, h => by
    cases h with
    | cons h r => cases h with
      | int i t => exact .cons _ _ (ints_of_dat r)
theorem rows_at {h₀ h : Heap} {L p : Addr} {l l2 : List (Addr × Obj)} {ys : List Value} {ns : List Int} {row : Int → List Int} (N : News h₀ L h l) (m : (p, LCg.lst ys) ∈ l) (D : DatAll l2 ys (ns.map fun k => dI (row k))) (s : ∀ q ∈ l2, q ∈ l) : RowsAt h p (ns.map row) := by
  have D' : DatAll l2 ys ((ns.map row).map dI) := by rw [List.map_map]; exact D
  refine ⟨ys, News.isList N (n := ys.length) m, by rw [DatAll.length D]; simp, fun i hi => ?_, rd_dL (n := ys.length) (kst_newsOf N (l' := (p, LCg.lst ys) :: l2) (fun q hq => by
    rcases List.mem_cons.mp hq with rfl | hq
    · exact m
    · exact s q hq)) D'⟩
  obtain ⟨v, hv, hd⟩ := DatAll.get D' (k := i) (by simpa using hi)
  have e : ((ns.map row).map dI)[i]'(by simpa using hi) = dI ((ns.map row)[i]) := by simp
  rw [e] at hd
  cases hd with
  | list hm hr => exact ⟨_, _, hv, News.isList N (s _ hm), ints_of_dat hr⟩
theorem nine_mem {c : Int} (h : c ∈ rangeKs 0 9) : 0 ≤ c ∧ c < 9 := by
  have := mem_rangeKs h; omega
open LCg
local macro_rules | `(tactic| walk_at "call ref") => `(tactic| ((with_reducible rename Mk 106 => hMk); (with_reducible show wpAny _ _ (PySem.call (Value.ref 79) _ _) _ _ _); (rename IsRange _ _ _ _ _ _ _ _ => rgX); (rename Fr _ _ _ _ => lF'); (rename News _ _ _ _ => lN'); refine' names_r ?ba1 ?ba2 ?ba3 ?ba4 rgX ?_; (case ba1 => exact Frag.In.keeps (by assumption) (Fr.keep (by assumption))); (case ba2 => exact Top.keeps (by assumption) (Fr.keep (by assumption))); (case ba3 => ((try dsimp only); omega)); (case ba4 => ((try dsimp only); omega)); intro h9 tk9 p9 vs9 n9 e9 hf9 hg9 hS9; (have F9 := fr_ext lF' e9); (have N9 := news_add lF' lN' e9 hf9 hg9); (try dsimp only)))
local macro_rules | `(tactic| walk_at "call ref") => `(tactic| ((with_reducible rename Mk 106 => hMk); (with_reducible show wpAny _ _ (PySem.call (Value.ref 38) _ _) _ _ _); refine' strcoll_c ?ba1 ?ba2 ?ba3 ?ba4 ?_; (case ba1 => exact Frag.In.keeps (by assumption) (Fr.keep (by assumption))); (case ba2 => exact Top.keeps (by assumption) (Fr.keep (by assumption))); (case ba3 => ((try dsimp only); omega)); (case ba4 => ((try dsimp only); omega)); intro h9 tk9 t9 e9; (have F9 := fr_ext (by assumption) e9); (have N9 := news_ext (by assumption) e9); (try dsimp only)))
local macro_rules | `(tactic| walk_at "eval ListComp") => `(tactic| ((with_reducible rename Mk 106 => hMk); (with_reducible show wpAny _ _ (eval (PySem.Expr.ListComp (PySem.Expr.ListComp _ _ _ _) _ _ _) _) _ _ _); k_dflt (refine ListComp_C (row := againstRow) (by k_asm) (by with_unfolding_all rfl) (by rfl) (by decide) (fun n => by rfl) (fun h => by rfl) (fun C R => by rfl) ?_)))
local macro_rules | `(tactic| walk_at "eval ListComp") => `(tactic| ((with_reducible rename Mk 106 => hMk); (with_reducible rename KMk _ => hKm); k_dflt (refine LCg.ListComp_U (F₀ := by k_asm) (by with_unfolding_all rfl) (by decide) (by rfl) (by decide) (by rfl) ?_)))
local macro_rules | `(tactic| walk_at "CcSrc") => `(tactic| ((with_reducible rename Mk 106 => hMk); k_dflt (refine CcSrc.intro (by rfl) (by k_asm) (by k_asm) (by assumption) (by assumption) (by assumption) ?_ ?_); rotate_left; (intro D' ys' rows' h' tk' F' N' hDat'; (try simp only [List.cons_append, List.nil_append] at N'); (try dsimp only)); rotate_right; (intro k' t' I' oI' C' oC' R' oR' D' ys' rows' h' tk' hk' hoR' F' N'; (have hKm : KMk k' := ⟨⟩); (try simp only [List.cons_append, List.nil_append] at N'))))
local macro_rules | `(tactic| walk_at "CompSrc") => `(tactic| ((with_reducible rename Mk 106 => hMk); (with_reducible rename KMk _ => hKm); (with_reducible rename StrsAre _ _ => hS9); k_dflt (refine LCg.CompSrc.ledger (by rfl) (by k_asm) (by k_asm) (by k_mem) (by rw [List.size_toArray, StrsAre.length hS9, PySem.sizeLine_eq]; decide) ?_); intro g'; (refine' gen_rest (xs := rangeKs 0 9) (PL := RowAre (kmOf hKm)) (V := fun c v => ∃ t, v = .str (nm c) t) (El := RowEl (kmOf hKm)) ?grn ?grp (rowAre_nil _) (rowAre_snoc _) ?_ ?_); (case grn => (rw [List.size_toArray, StrsAre.length hS9]; rfl)); (case grp => (intro i v hi hv; exact nineAt hS9 i v (by have e := hS9.length; rw [List.size_toArray, e] at hi; exact hi) hv)); rotate_left; (intro ys2 hP2 D2 h2 tk2 F2 N2 o2); rotate_right; (intro c2 u2 I2 oI2 C2 oC2 D2 m2 ys2 h2 tk2 E2 hc2 hV2 hC2 hx2 F2 N2 off2 ne2; obtain ⟨t2, e2⟩ := hV2; subst e2)))
local macro_rules | `(tactic| walk_at "subscriptTail") => `(tactic| ((with_reducible rename Mk 106 => hMk); refine item_s (News.isList (by k_asm) (by k_mem)) (by assumption) (by assumption) (by assumption) ?_; intro t9))
local macro_rules | `(tactic| walk_at "CompEnd") => `(tactic| ((with_reducible rename Mk 106 => hMk); (with_reducible rename KMk _ => hKm); (with_reducible rename ∀ n ∈ _, 0 ≤ n ∧ n < 9 => hRr); refine LCg.CompEnd.intro (by assumption) (by assumption) _ (fun _ hp => hp) (by assumption) (by lcg_src) ⟨rfl, rowEl_of (scoll_nm (hRr _ (by assumption)) (nine_mem (by assumption))).2⟩))
section
variable {w : World} {mean : ExcName → Option Value} {mg mb : Str → Option Value} {dp un : Nat} {fr : Option (List Env)} {gd : Option (List Code)} {Q E : Value → Shared → Prop} {g : Heap} {gs : Array GenState} {d : Drawn} {tk : Nat} {os : OsState}
  (X : (hd.heap_39 w.params).In g) (T : TP mean mg mb g) (hA : dp + 80 < recursionLimit) (hu : un + 300 < cLine)
include X T hA hu
set_option maxHeartbeats 40000000 in
theorem against_c {a : Addr} {vs : List Value} {ns : List Int} (hl : g.IsList a vs.toArray) (hi : IntsAre vs ns) (h7 : ns.length ≤ 1000) (hr : ∀ n ∈ ns, 0 ≤ n ∧ n < 9)
    (hret : ∀ h' tk' p ys l, Ext g h' → NewOf g h' ((p, LCg.lst ys) :: l) → DatAll l ys ((ns.map againstRow).map dI) → Q (.ref p) ⟨h', gs, d, tk', os⟩) :
    wpAny (model prg w) ⟨none, dp, fr, gd, un⟩ (call (.ref 106) [.ref a] []) Q E ⟨g, gs, d, tk, os⟩ := by
  have hMk := mk 106
  refine wpAny_call ?_
  refine' enterC (binds := [(Str.ofString "ranks", .ref a)]) ?k3 ?k5 ?k6 ?k7 ?k8 ?k9 ?kB ?kD ?_ ?c2 ?c3 ?c4; (case k3 => assumption); (case k5 => assumption); (case k6 => k_is); (case k7 => k_is); (case k8 => ((try dsimp only); omega)); (case k9 => exact BindsTo.of_eq rfl); (case kB => exact rfl); (case kD => decide +kernel); (case c2 => exact rfl); (case c3 => exact rfl); (case c4 => exact rfl); k_whole
  intro L h₁ tk cells F N Y
  k_cells Y
  (try simp only [List.cons_append, List.nil_append, List.append_nil] at N)
  dsimp only
  k_steps
  · exact ⟨_, _, _, _, rfl, rfl, by assumption, by assumption, by assumption, (by assumption : RowAre _ _ _)⟩
  · (rename News _ _ _ _ => nE)
    have hD := (by assumption : DatAll _ _ (List.map (fun k => dI (againstRow k)) ns))
    refine hret _ _ _ _ _ (Fr.keep (by assumption)) (newOf_sub (newOf nE) (fun q hq => ?_)) (by rw [List.map_map]; exact hD)
    rcases List.mem_cons.mp hq with rfl | hq
    · exact .head _
    · exact .tail _ (.tail _ (.tail _ hq))
end
end
end Mine

namespace Mine
section
def shl (ns : List Int) : List Nat := (List.range ns.length).map (lsh ns)
def rkl (ns : List Int) : List Nat := ns.map Int.toNat
theorem shl_len (ns : List Int) : (shl ns).length = ns.length := by simp [shl]
theorem shl_get {ns : List Int} {k : Nat} (h : k < ns.length) : (shl ns).getD k 0 = lsh ns k := by
  simp [shl, h]
theorem pop_len (st : List Int) (r : Int) : (popTo st r).length ≤ st.length := by
  unfold popTo
  rw [List.length_reverse]
  exact Nat.le_trans (List.dropWhile_sublist _).length_le (by simp)
theorem lst_len {ns : List Int} : ∀ k, k ≤ ns.length → ((lst ns k).length : Int) = rdp (shl ns) k
  | 0, _ => by simp [lst, rdp]
  | k + 1, h => by
    have ih := lst_len (ns := ns) k (by omega)
    have hp := pop_len (lst ns k) (ns.getD k 0)
    simp only [lst, rdp, List.length_append, List.length_cons, List.length_nil]
    rw [shl_get (ns := ns) (k := k) (by omega)]
    unfold lsh
    omega
theorem shOk (ns : List Int) : ShOk (shl ns) := by
  intro k hk
  rw [shl_len] at hk
  rw [shl_get hk, ← lst_len (ns := ns) k (by omega)]
  unfold lsh
  omega
theorem lst_le {ns : List Int} : ∀ k, (lst ns k).length ≤ k
  | 0 => by simp [lst]
  | k + 1 => by
    have ih := lst_le (ns := ns) k
    have hp := pop_len (lst ns k) (ns.getD k 0)
    simp only [lst, List.length_append, List.length_cons, List.length_nil]
    omega
theorem pcs_of {ns : List Int} {pv : List Value} (h : BysAre ns pv ns.length) (h7 : ns.length = 7) (hr : ∀ n ∈ ns, 0 ≤ n ∧ n < 9) : Pcs pv (shl ns) (rkl ns) := by
  have hrk : ∀ k, k < ns.length → (rkl ns).getD k 0 = (ns.getD k 0).toNat := fun k hk => by simp [rkl, hk]
  refine ⟨by rw [shl_len, h.len], fun k hk => ?_, fun k hk => ?_, fun k hk => ?_⟩
  · rw [shl_len] at hk
    obtain ⟨t, ht⟩ := h.at_ k hk
    exact ⟨t, by rw [shl_get hk, hrk k hk]; exact ht⟩
  · rw [shl_len] at hk
    rw [shl_get hk]
    have := lst_le (ns := ns) k
    unfold lsh; omega
  · rw [shl_len] at hk
    rw [hrk k hk]
    have hm : ns.getD k 0 ∈ ns := by
      rw [List.getD_eq_getElem?_getD, List.getElem?_eq_getElem hk]; exact List.getElem_mem hk
    have := hr _ hm
    omega
theorem news_tail {h₀ g h' : Heap} {L : Addr} {m : Str → Option Value} {news l : List (Addr × Obj)} (F : Fr h₀ L g m) (N : News h₀ L g news) (e : Ext g h') (nw : NewOf g h' l) : News h₀ L h' (news ++ l) :=
  kst_newsOf (news_all F N e nw) (fun q hq => by rcases List.mem_append.mp hq with h | h <;> simp [h])
section
variable {prog : Program} {w : World} {A : Around} {E : Value → Shared → Prop} {s : Shared} {h₀ : Heap} {L a b : Addr} {Q : Value → Shared → Prop} {xss yss : List (List Int)} {la lb news : List (Addr × Obj)}
theorem dl_ne (N : News h₀ L s.heap news) (Da : DatIn la (.ref a) (dL xss)) (Db : DatIn lb (.ref b) (dL yss)) (e : xss = yss) (sa : ∀ q ∈ la, q ∈ news) (sb : ∀ q ∈ lb, q ∈ news) (hu : A.units + 64 < cLine) (h : Q (.bool false) s) :
    wpAny (model prog w) A (compareOp .NotEq (.ref a) (.ref b)) Q E s :=
  ll_ne (rd_of N Da sa) (rd_of N Db sb) hu (by rw [e]; simpa using h)
theorem dl_eq (N : News h₀ L s.heap news) (Da : DatIn la (.ref a) (dL xss)) (Db : DatIn lb (.ref b) (dL yss)) (sa : ∀ q ∈ la, q ∈ news) (sb : ∀ q ∈ lb, q ∈ news) (hu : A.units + 64 < cLine) (h : Q (.bool (decide (xss = yss))) s) :
    wpAny (model prog w) A (compareOp .Eq (.ref a) (.ref b)) Q E s :=
  ll_eq (rd_of N Da sa) (rd_of N Db sb) hu h
end
end
end Mine

namespace Mine
section
/-- the value at a place -/
def vat (ns : List Int) (x : Int) : Int := ns.getD x.toNat 0
theorem popTo_nil (r : Int) : popTo [] r = [] := rfl
theorem popTo_snoc (st : List Int) (x r : Int) : popTo (st ++ [x]) r = if r ≤ x then popTo st r else st ++ [x] := by
  unfold popTo
  rw [List.reverse_append]
  simp only [List.reverse_cons, List.reverse_nil, List.nil_append, List.singleton_append, List.dropWhile_cons]
  by_cases h : r ≤ x
  · simp [h]
  · simp [h]
theorem pop_take (st : List Int) (r : Int) : popTo st r = st.take (popTo st r).length := by
  have : ∀ l : List Int, popTo l.reverse r = l.reverse.take (popTo l.reverse r).length := by
    intro l
    induction l with
    | nil => rfl
    | cons x l ih =>
      rw [List.reverse_cons, popTo_snoc]
      by_cases h : r ≤ x
      · rw [if_pos h, List.take_append_of_le_length (pop_len _ _)]; exact ih
      · rw [if_neg h, List.take_length]
  simpa using this st.reverse
theorem pop_idx (st : List Int) (r : Int) (hs : st.Pairwise (· < ·)) : ∀ m (h : m < st.length), st[m] < r ↔ m < (popTo st r).length := by
  have : ∀ l : List Int, (l.reverse).Pairwise (· < ·) → ∀ m (h : m < l.reverse.length), l.reverse[m] < r ↔ m < (popTo l.reverse r).length := by
    intro l
    induction l with
    | nil => intro _ m h; simp at h
    | cons x l ih =>
      intro hp m hm
      have e : (x :: l).reverse = l.reverse ++ [x] := List.reverse_cons
      simp only [e] at hp hm ⊢
      obtain ⟨h1, _, h3⟩ := List.pairwise_append.mp hp
      rw [popTo_snoc]
      have hl := pop_len l.reverse r
      simp only [List.length_append, List.length_cons, List.length_nil] at hm
      by_cases h : r ≤ x
      · rw [if_pos h]
        by_cases hm2 : m < l.reverse.length
        · rw [List.getElem_append_left hm2]; exact ih h1 m hm2
        · rw [List.getElem_append_right (by omega)]
          simp only [show m - l.reverse.length = 0 by omega, List.getElem_cons_zero]
          omega
      · rw [if_neg h]
        simp only [List.length_append, List.length_cons, List.length_nil]
        constructor
        · intro _; omega
        · intro _
          by_cases hm2 : m < l.reverse.length
          · rw [List.getElem_append_left hm2]
            have := h3 _ (List.getElem_mem hm2) x (by simp)
            omega
          · rw [List.getElem_append_right (by omega)]
            simp only [show m - l.reverse.length = 0 by omega, List.getElem_cons_zero]
            omega
  have h2 := this st.reverse (by simpa using hs)
  intro m h
  have := h2 m (by simpa using h)
  simpa using this
/-- the index at which the k-th name's pop stops -/
def cut (ns : List Int) (k : Nat) : Nat := (popTo (lst ns k) (ns.getD k 0)).length
theorem rps_step {ns : List Int} {k : Nat} (h : k < ns.length) : rps (shl ns) (k + 1) = (rps (shl ns) k).take (cut ns k) ++ [(k : Int)] := by
  have e : (rdp (shl ns) (k + 1) - 1).toNat = cut ns k := by
    rw [← lst_len (ns := ns) (k + 1) (by omega)]
    simp only [lst, List.length_append, List.length_cons, List.length_nil, cut]
    omega
  rw [rps, e]
theorem rps_vals {ns : List Int} : ∀ k, k ≤ ns.length → (rps (shl ns) k).map (vat ns) = lst ns k ∧ (lst ns k).Pairwise (· < ·)
  | 0, _ => by simp [rps, lst]
  | k + 1, h => by
    obtain ⟨h1, h2⟩ := rps_vals (ns := ns) k (by omega)
    have hp := pop_take (lst ns k) (ns.getD k 0)
    have hpp : (popTo (lst ns k) (ns.getD k 0)).Pairwise (· < ·) := by
      rw [hp]; exact h2.sublist (List.take_sublist _ _)
    refine ⟨?_, ?_⟩
    · rw [rps_step (by omega), List.map_append, List.map_take, h1, lst]
      congr 1
      · exact hp.symm
    · rw [lst]
      refine List.pairwise_append.mpr ⟨hpp, List.pairwise_singleton _ _, fun x hx y hy => ?_⟩
      rw [List.mem_singleton.mp hy]
      obtain ⟨m, hm, rfl⟩ := List.mem_iff_getElem.mp hx
      have hm2 : m < (lst ns k).length := Nat.lt_of_lt_of_le hm (pop_len _ _)
      have := (pop_idx _ (ns.getD k 0) h2 m hm2).mpr hm
      have e : (popTo (lst ns k) (ns.getD k 0))[m] = (lst ns k)[m] := by
        have e2 : (popTo (lst ns k) (ns.getD k 0))[m]? = (lst ns k)[m]? := by
          have h9 := congrArg (fun l : List Int => l[m]?) hp
          simp only [List.getElem?_take, hm, if_true] at h9
          exact h9
        rw [List.getElem?_eq_getElem hm, List.getElem?_eq_getElem hm2] at e2
        exact Option.some.inj e2
      rw [e]; exact this
theorem rps_length {ns : List Int} {k : Nat} (h : k ≤ ns.length) : (rps (shl ns) k).length = (lst ns k).length := by
  rw [← (rps_vals k h).1, List.length_map]
theorem cut_le {ns : List Int} {k : Nat} (h : k ≤ ns.length) : cut ns k ≤ (rps (shl ns) k).length := by
  rw [rps_length h]; exact pop_len _ _
/-- the names: below the next one exactly where the pop doesn't reach -/
theorem cut_vals {ns : List Int} {k : Nat} (h : k < ns.length) : ∀ m (hm : m < (rps (shl ns) k).length), (vat ns ((rps (shl ns) k)[m]) < vat ns (k : Int) ↔ m < cut ns k) := by
  intro m hm
  obtain ⟨h1, h2⟩ := rps_vals (ns := ns) k (by omega)
  have hm2 : m < (lst ns k).length := by rw [← rps_length (by omega)]; exact hm
  have := pop_idx _ (ns.getD k 0) h2 m hm2
  have e : (lst ns k)[m] = vat ns ((rps (shl ns) k)[m]) := by
    have e2 : (lst ns k)[m]? = ((rps (shl ns) k).map (vat ns))[m]? := by rw [h1]
    rw [List.getElem?_eq_getElem hm2, List.getElem?_map, List.getElem?_eq_getElem hm] at e2
    exact Option.some.inj e2
  rw [e] at this
  simpa [vat, cut] using this
/-- the depths -/
theorem rds_at {ns : List Int} {k : Nat} (h : k < ns.length) : vat (rds (shl ns) (shl ns).length) (k : Int) = (cut ns k : Int) + 1 := by
  have e : vat (rds (shl ns) (shl ns).length) (k : Int) = rdp (shl ns) (k + 1) := by
    simp [vat, rds, shl_len, h]
  rw [e, ← lst_len (ns := ns) (k + 1) (by omega)]
  simp only [lst, List.length_append, List.length_cons, List.length_nil, cut]
  omega
theorem depth_idx {ns : List Int} : ∀ k, k ≤ ns.length → ∀ m (hm : m < (rps (shl ns) k).length), vat (rds (shl ns) (shl ns).length) ((rps (shl ns) k)[m]) = (m : Int) + 1
  | 0, _, m, hm => by simp [rps] at hm
  | k + 1, h, m, hm => by
    have ih := depth_idx (ns := ns) k (by omega)
    have hs := rps_step (ns := ns) (k := k) (by omega)
    have hc := cut_le (ns := ns) (k := k) (by omega)
    have e : (rps (shl ns) (k + 1))[m] = if hm2 : m < cut ns k then (rps (shl ns) k)[m]'(by omega) else (k : Int) := by
      have e2 : (rps (shl ns) (k + 1))[m]? = ((rps (shl ns) k).take (cut ns k) ++ [(k : Int)])[m]? := by rw [hs]
      have hl : (rps (shl ns) (k + 1)).length = cut ns k + 1 := by rw [hs]; simp; omega
      rw [List.getElem?_eq_getElem hm] at e2
      by_cases hm2 : m < cut ns k
      · rw [dif_pos hm2]
        rw [List.getElem?_append_left (by simp; omega), List.getElem?_take, if_pos hm2, List.getElem?_eq_getElem (by omega)] at e2
        exact Option.some.inj e2
      · rw [dif_neg hm2]
        rw [List.getElem?_append_right (by simp; omega)] at e2
        have : m - ((rps (shl ns) k).take (cut ns k)).length = 0 := by simp; omega
        rw [this] at e2
        exact Option.some.inj e2
    rw [e]
    by_cases hm2 : m < cut ns k
    · rw [dif_pos hm2]; exact ih m _
    · rw [dif_neg hm2, rds_at (by omega)]
      have hl : (rps (shl ns) (k + 1)).length = cut ns k + 1 := by rw [hs]; simp; omega
      have : m = cut ns k := by omega
      rw [this]
theorem cut_deps {ns : List Int} {k : Nat} (h : k < ns.length) : ∀ m (hm : m < (rps (shl ns) k).length), (vat (rds (shl ns) (shl ns).length) ((rps (shl ns) k)[m]) < vat (rds (shl ns) (shl ns).length) (k : Int) ↔ m < cut ns k) := by
  intro m hm
  rw [depth_idx k (by omega) m hm, rds_at h]; omega
/-- the first place from i on, after a cut -/
theorem first_take {x i : Int} (hx : i ≤ x) (h : Int → Int) (r : Int) : ∀ (l : List Int) (M : Nat), (∃ y ∈ l, i ≤ y) → (∀ m (hm : m < l.length), (h l[m] < r ↔ m < M)) →
    firstGe (l.take M ++ [x]) i = if h (firstGe l i) < r then firstGe l i else x
  | [], _, hex, _ => by obtain ⟨y, hy, _⟩ := hex; cases hy
  | a :: t, M, hex, hM => by
    by_cases ha : i ≤ a
    · have e : firstGe (a :: t) i = a := by simp [firstGe, ha]
      rw [e]
      have h0 := hM 0 (by simp)
      simp only [List.getElem_cons_zero] at h0
      cases M with
      | zero => rw [if_neg (by omega)]; simp [firstGe, hx]
      | succ M => rw [if_pos (by omega)]; simp [firstGe, ha]
    · have e : ∀ l : List Int, firstGe (a :: l) i = firstGe l i := fun l => by simp [firstGe, ha]
      have hex' : ∃ y ∈ t, i ≤ y := by
        obtain ⟨y, hy, hiy⟩ := hex
        rcases List.mem_cons.mp hy with rfl | hy
        · exact absurd hiy ha
        · exact ⟨y, hy, hiy⟩
      rw [e]
      cases M with
      | zero =>
        have ih := first_take hx h r t 0 hex' (fun m hm => by
          have := hM (m + 1) (by simp; omega)
          simp only [List.getElem_cons_succ] at this
          omega)
        simpa using ih
      | succ M =>
        have ih := first_take hx h r t M hex' (fun m hm => by
          have := hM (m + 1) (by simp; omega)
          simp only [List.getElem_cons_succ] at this
          omega)
        rw [List.take_succ_cons, List.cons_append, e]; exact ih
/-- the last of the least from i on, by recursion to the right -/
def far (h : Int → Int) (i : Nat) : Nat → Int
  | 0 => i
  | d + 1 => if h (far h i d) < h ((i + d + 1 : Nat) : Int) then far h i d else ((i + d + 1 : Nat) : Int)
theorem first_far {ns : List Int} (h : Int → Int) (H : ∀ k, k < ns.length → ∀ m (hm : m < (rps (shl ns) k).length), (h ((rps (shl ns) k)[m]) < h (k : Int) ↔ m < cut ns k)) (i : Nat) : ∀ d, i + d < ns.length → firstGe (rps (shl ns) (i + d + 1)) i = far h i d
  | 0, hd => by
    rw [Nat.add_zero, rps_step (by omega)]
    have : ((rps (shl ns) i).take (cut ns i)).filter (fun x => decide ((i : Int) ≤ x)) = [] := by
      rw [List.filter_eq_nil_iff]
      intro x hx
      have := (rps_mem i x (List.mem_of_mem_take hx)).2
      simp; omega
    simp only [firstGe, List.filter_append, this, far]
    simp
  | d + 1, hd => by
    have ih := first_far h H i d (by omega)
    have hs := rps_step (ns := ns) (k := i + d + 1) (by omega)
    have e : i + (d + 1) + 1 = i + d + 1 + 1 := by omega
    rw [e, hs, first_take (x := ((i + d + 1 : Nat) : Int)) (i := (i : Int)) (by omega) h (h ((i + d + 1 : Nat) : Int)) _ _ ?_ (H _ (by omega)), ih, far]
    rw [rps_step (by omega)]
    exact ⟨((i + d : Nat) : Int), by simp, by omega⟩
/-- last of the least -/
structure Last (h : Int → Int) (i j p : Int) : Prop where
  lo : i ≤ p
  hi : p ≤ j
  le : ∀ t, i ≤ t → t ≤ j → h p ≤ h t
  lt : ∀ t, p < t → t ≤ j → h p < h t
theorem Last.uniq {h : Int → Int} {i j p q : Int} (a : Last h i j p) (b : Last h i j q) : p = q := by
  rcases Int.lt_trichotomy p q with h1 | h1 | h1
  · have := a.lt q h1 b.hi
    have := b.le p a.lo a.hi
    omega
  · exact h1
  · have := b.lt p h1 a.hi
    have := a.le q b.lo b.hi
    omega
theorem far_last (h : Int → Int) (i : Nat) : ∀ d, Last h i ((i + d : Nat) : Int) (far h i d)
  | 0 => by
    refine ⟨by simp [far], by simp [far], fun t h1 h2 => ?_, fun t h1 h2 => by simp only [far] at h1; omega⟩
    have : t = (i : Int) := by omega
    rw [this]; simp [far]
  | d + 1 => by
    have ih := far_last h i d
    have l1 := ih.lo
    have l2 := ih.hi
    rw [far]
    by_cases hc : h (far h i d) < h ((i + d + 1 : Nat) : Int)
    · rw [if_pos hc]
      refine ⟨l1, by omega, fun t h1 h2 => ?_, fun t h1 h2 => ?_⟩
      · by_cases ht : t ≤ ((i + d : Nat) : Int)
        · exact ih.le t h1 ht
        · have : t = ((i + d + 1 : Nat) : Int) := by omega
          rw [this]; omega
      · by_cases ht : t ≤ ((i + d : Nat) : Int)
        · exact ih.lt t h1 ht
        · have : t = ((i + d + 1 : Nat) : Int) := by omega
          rw [this]; exact hc
    · rw [if_neg hc]
      refine ⟨by omega, by omega, fun t h1 h2 => ?_, fun t h1 h2 => by omega⟩
      by_cases ht : t ≤ ((i + d : Nat) : Int)
      · have := ih.le t h1 ht; omega
      · have : t = ((i + d + 1 : Nat) : Int) := by omega
        rw [this]; omega
theorem downKs_snoc (a : Int) (d : Nat) : downKs a (d + 1) = downKs a d ++ [a - (d : Int)] := by
  simp [downKs, List.range_succ]
theorem scan_last (ns : List Int) (k : Nat) : ∀ d, d ≤ k → Last (vat ns) ((k : Int) - d) k (scanL ns k (downKs ((k : Int) - 1) d)).1 ∧ (scanL ns k (downKs ((k : Int) - 1) d)).2.length = d + 1 ∧
    ∀ e, e ≤ d → Last (vat ns) ((k : Int) - e) k ((scanL ns k (downKs ((k : Int) - 1) d)).2.getD e 0)
  | 0, _ => by
    have b : Last (vat ns) ((k : Int) - (0 : Nat)) k k := by
      refine ⟨by omega, by omega, fun t h1 h2 => ?_, fun t h1 h2 => by omega⟩
      have : t = (k : Int) := by omega
      rw [this]; exact Int.le_refl _
    refine ⟨by simpa [scanL, downKs] using b, by simp [scanL, downKs], fun e he => ?_⟩
    have : e = 0 := by omega
    subst this
    simpa [scanL, downKs] using b
  | d + 1, hd => by
    obtain ⟨h1, h2, h3⟩ := scan_last ns k d (by omega)
    have l1 := h1.lo
    have l2 := h1.hi
    rw [downKs_snoc, scanL_snoc]
    generalize scanL ns k (downKs ((k : Int) - 1) d) = s at h1 h2 h3 l1 l2 ⊢
    have hnew : Last (vat ns) ((k : Int) - ((d + 1 : Nat) : Int)) k (if ns.getD ((k : Int) - 1 - (d : Int)).toNat 0 < ns.getD s.1.toNat 0 then (k : Int) - 1 - (d : Int) else s.1) := by
      by_cases hc : ns.getD ((k : Int) - 1 - (d : Int)).toNat 0 < ns.getD s.1.toNat 0
      · rw [if_pos hc]
        have hc' : vat ns ((k : Int) - 1 - (d : Int)) < vat ns s.1 := hc
        refine ⟨by omega, by omega, fun t a b => ?_, fun t a b => ?_⟩
        · by_cases ht : t = (k : Int) - 1 - (d : Int)
          · rw [ht]; exact Int.le_refl _
          · have := h1.le t (by omega) b; omega
        · have := h1.le t (by omega) b; omega
      · rw [if_neg hc]
        have hc' : ¬ vat ns ((k : Int) - 1 - (d : Int)) < vat ns s.1 := hc
        refine ⟨by omega, l2, fun t a b => ?_, h1.lt⟩
        by_cases ht : t = (k : Int) - 1 - (d : Int)
        · rw [ht]; omega
        · exact h1.le t (by omega) b
    refine ⟨hnew, by simp [h2], fun e he => ?_⟩
    dsimp only
    by_cases hed : e ≤ d
    · have := h3 e hed
      rw [List.getD_eq_getElem?_getD, List.getElem?_append_left (by omega), ← List.getD_eq_getElem?_getD]
      exact this
    · have : e = d + 1 := by omega
      subst this
      rw [List.getD_eq_getElem?_getD, List.getElem?_append_right (by omega), h2]
      simpa using hnew
theorem lrowI_far (ns : List Int) (j : Nat) : lrowI ns (j : Int) = (List.range (j + 1)).map fun i => far (vat ns) i (j - i) := by
  obtain ⟨_, h2, h3⟩ := scan_last ns j j (Nat.le_refl _)
  have e : ((j : Int) - 1 - -1).toNat = j := by omega
  unfold lrowI
  rw [e]
  generalize scanL ns j (downKs ((j : Int) - 1) j) = s at h2 h3
  refine List.ext_getElem (by simp [h2]) fun i hi1 hi2 => ?_
  simp only [List.length_map, List.length_range] at hi2
  rw [List.getElem_reverse, List.getElem_map, List.getElem_range]
  have hk := h3 (j - i) (by omega)
  have hidx : s.2.length - 1 - i = j - i := by omega
  have e2 : s.2.getD (j - i) 0 = s.2[s.2.length - 1 - i]'(by omega) := by
    rw [List.getD_eq_getElem?_getD, List.getElem?_eq_getElem (by omega)]
    simp [hidx]
  rw [e2] at hk
  have hf := far_last (vat ns) i (j - i)
  have a1 : ((i + (j - i) : Nat) : Int) = (j : Int) := by omega
  have a2 : (j : Int) - ((j - i : Nat) : Int) = (i : Int) := by omega
  rw [a1] at hf
  rw [a2] at hk
  exact hk.uniq hf
theorem rangeKs_zero (n : Nat) : rangeKs 0 n = (List.range n).map fun (i : Nat) => (i : Int) := by
  simp [rangeKs]
theorem row_first {ns : List Int} (h : Int → Int) (H : ∀ k, k < ns.length → ∀ m (hm : m < (rps (shl ns) k).length), (h ((rps (shl ns) k)[m]) < h (k : Int) ↔ m < cut ns k)) {j : Nat} (hj : j < ns.length) :
    (rangeKs 0 (j + 1)).map (firstGe (rps (shl ns) (j + 1))) = (List.range (j + 1)).map fun i => far h i (j - i) := by
  rw [rangeKs_zero, List.map_map]
  refine List.map_congr_left fun i hi => ?_
  have hi := List.mem_range.mp hi
  have := first_far h H i (j - i) (by omega)
  have e : i + (j - i) + 1 = j + 1 := by omega
  rw [e] at this
  exact this
theorem rows_row (ns : List Int) : lrows ns = (List.range ns.length).map fun (j : Nat) => lrowI ns (j : Int) := by
  unfold lrows
  rw [rangeKs_zero, List.map_map]; rfl
theorem told_least (ns : List Int) : rts (shl ns) (shl ns).length = lrows ns := by
  rw [rows_row, shl_len, rts]
  refine List.map_congr_left fun j hj => ?_
  have hj := List.mem_range.mp hj
  rw [lrowI_far]
  exact row_first (vat ns) (fun k hk => cut_vals hk) hj
theorem deep_least (ns : List Int) : lrows (rds (shl ns) (shl ns).length) = lrows ns := by
  rw [← told_least ns, rows_row, rts]
  have e : (rds (shl ns) (shl ns).length).length = (shl ns).length := by simp [rds]
  rw [e]
  refine List.map_congr_left fun j hj => ?_
  have hj := List.mem_range.mp hj
  rw [shl_len] at hj
  rw [lrowI_far]
  exact (row_first _ (fun k hk => cut_deps hk) hj).symm
/-- the number of open places is told by the row -/
theorem rps_count {ns : List Int} {j : Nat} (hj : j < ns.length) : (rps (shl ns) (j + 1)).length = ((rangeKs 0 (j + 1)).filter fun i => decide (firstGe (rps (shl ns) (j + 1)) i = i)).length := by
  have nd1 : (rps (shl ns) (j + 1)).Nodup := (rps_sorted (j + 1)).imp (fun h => by omega)
  have nd2 : ((rangeKs 0 (j + 1)).filter fun i => decide (firstGe (rps (shl ns) (j + 1)) i = i)).Nodup := by
    refine List.Pairwise.filter _ ?_
    rw [rangeKs_zero]
    refine List.pairwise_map.mpr (List.nodup_range.imp fun h => by omega)
  refine ((List.perm_ext_iff_of_nodup nd1 nd2).mpr fun x => ?_).length_eq
  rw [List.mem_filter, decide_eq_true_eq]
  have hmem : ∀ (l : List Int) (i : Int), (∃ y ∈ l, i ≤ y) → firstGe l i ∈ l := by
    intro l i
    induction l with
    | nil => rintro ⟨y, hy, _⟩; cases hy
    | cons a t ih =>
      rintro ⟨y, hy, hiy⟩
      by_cases ha : i ≤ a
      · simp [firstGe, ha]
      · have e : firstGe (a :: t) i = firstGe t i := by simp [firstGe, ha]
        rw [e]
        rcases List.mem_cons.mp hy with rfl | hy
        · exact absurd hiy ha
        · exact .tail _ (ih ⟨y, hy, hiy⟩)
  have hself : ∀ (l : List Int) (x : Int), l.Pairwise (· < ·) → x ∈ l → firstGe l x = x := by
    intro l x
    induction l with
    | nil => intro _ h; cases h
    | cons a t ih =>
      intro hp hx
      obtain ⟨h1, h2⟩ := List.pairwise_cons.mp hp
      rcases List.mem_cons.mp hx with rfl | hx
      · simp [firstGe]
      · have := h1 x hx
        have e : firstGe (a :: t) x = firstGe t x := by simp [firstGe, show ¬ x ≤ a by omega]
        rw [e]; exact ih h2 hx
  constructor
  · intro hx
    have hb := rps_mem _ _ hx
    refine ⟨?_, hself _ _ (rps_sorted _) hx⟩
    rw [rangeKs_zero]
    exact List.mem_map.mpr ⟨x.toNat, List.mem_range.mpr (by omega), by omega⟩
  · rintro ⟨hx, he⟩
    have hb := mem_rangeKs hx
    rw [← he]
    refine hmem _ _ ⟨(j : Int), ?_, by omega⟩
    rw [rps_step hj]; simp
theorem rds_len_is {ns : List Int} {j : Nat} (hj : j < ns.length) : rdp (shl ns) (j + 1) = ((rps (shl ns) (j + 1)).length : Int) := by
  rw [rps_length (by omega), lst_len (ns := ns) (j + 1) (by omega)]
theorem fin_eq {a b : List Int} (h : a.length = b.length) : (rds (shl a) (shl a).length = rds (shl b) (shl b).length) ↔ lrows a = lrows b := by
  constructor
  · intro e
    rw [← deep_least a, e, deep_least b]
  · intro e
    rw [← told_least a, ← told_least b, shl_len, shl_len, ← h] at e
    rw [shl_len, shl_len, ← h]
    unfold rds
    refine List.map_congr_left fun j hj => ?_
    have hm := hj
    have hj := List.mem_range.mp hj
    have hr := List.map_inj_left.mp e j hm
    have hr2 := List.map_inj_left.mp hr
    rw [rds_len_is hj, rds_len_is (h ▸ hj), rps_count hj, rps_count (h ▸ hj)]
    congr 2
    refine List.filter_congr fun i hi => ?_
    rw [hr2 i hi]
theorem fin_bool {a b : List Int} (h : a.length = b.length) : (decide (rds (shl a) (shl a).length = rds (shl b) (shl b).length) == decide (lrows a = lrows b)) = true := by
  rw [beq_iff_eq, decide_eq_decide]; exact fin_eq h
end
end Mine

namespace Mine
section
open LCg
section
variable {prog : Program} {w : World} {A : Around} {E : Value → Shared → Prop} {s : Shared} {h₀ : Heap} {L : Addr} {m : Str → Option Value} {env : Env}
def RowEndL (h₀ : Heap) (L : Addr) (m : Str → Option Value) (s₁ : Shared) (I : Addr) (oI : Obj) (C : Addr) (oC : Obj) (D : Addr) (oD : Obj) (led : List (Addr × Obj)) (row : List Int) (y : Value) (s₂ : Shared) : Prop :=
  ∃ h' tk' p ws n, s₂ = { s₁ with heap := h', toks := tk' } ∧ y = .ref p ∧ Fr h₀ L h' m ∧ News h₀ L h' ((p, W.listOf ws.toArray n) :: (I, oI) :: (C, oC) :: (D, oD) :: led) ∧ ((@Ne Nat p I) ∧ (@Ne Nat p C) ∧ (@Ne Nat p D)) ∧ IntsAre ws row
theorem srcAt_mono {ax : Addr} {its : Array Value} {l l' : List (Addr × Obj)} (h : SrcAt h₀ ax its l) (s : ∀ q ∈ l, q ∈ l') : SrcAt h₀ ax its l' := by
  rcases h with h | ⟨o, hm, r⟩
  · exact .inl h
  · exact .inr ⟨o, s _ hm, r⟩
theorem row_rest {vs : List Value} {ns : List Int} {row : Int → List Int} {ax : Addr} {its : Array Value} {elt : Expr} {x : Str} {scope : Scope} {cl : List (Str × Addr)} {Fin : List Value → List (Addr × Obj) → Prop} {news : List (Addr × Obj)}
    (hi : IntsAre vs ns) (hsrc : SrcAt h₀ ax its news)
    (turn : ∀ k t I oI C oC D m₂ ys rows h tk (E' : Value → Shared → Prop), k ∈ ns → NsObj oC m₂ → m₂ x = some (.int k t) → Fr h₀ L h m → News h₀ L h ((I, oI) :: (C, oC) :: (D, LCg.lst ys) :: (rows ++ news)) → Off3 I C D (rows ++ news) → ((@Ne Nat I C) ∧ (@Ne Nat I D) ∧ (@Ne Nat C D)) →
      wpAny (model prog w) A (eval elt (compEnvC scope cl C env)) (RowEndL h₀ L m { s with heap := h, toks := tk } I oI C oC D (LCg.lst ys) (rows ++ news) (row k)) E' { s with heap := h, toks := tk })
    (fin : ∀ ys rows, DatAll rows ys (ns.map fun k => dI (row k)) → Fin ys (rows ++ news)) :
    CompRest prog w A h₀ L m env elt x scope cl s (SrcAt h₀ ax its) (fun i v => vs.toArray[i]? = some v) Fin vs.toArray.size 0 [] news := by
  have hlen : vs.toArray.size = ns.length := by simp [hi.length]
  rw [hlen]
  have key : ∀ (j i : Nat) (ys : List Value) rows, i + j = ns.length → DatAll rows ys ((ns.take i).map fun k => dI (row k)) → CompRest prog w A h₀ L m env elt x scope cl s (SrcAt h₀ ax its) (fun i v => vs.toArray[i]? = some v) Fin j i ys (rows ++ news) := by
    intro j
    induction j with
    | zero =>
      intro i ys rows hi hy
      have e : i = ns.length := by omega
      subst e
      rw [List.take_length] at hy
      exact CompRest.zero (fin ys rows hy)
    | succ j ih =>
      intro i ys rows hij hy
      refine CompRest.succ ?_
      intro v I oI C oC D m₂ h tk E' hv hC hx F N off ne
      have hlt : i < ns.length := by omega
      obtain ⟨t, ht⟩ := hi.get i ns[i] (by simp [hlt])
      have hv' : v = .int ns[i] t := by
        have hP' : vs[i]? = some v := by simpa using hv
        rw [ht] at hP'; exact (Option.some.inj hP').symm
      subst hv'
      refine wpAny_mono (turn ns[i] t I oI C oC D m₂ ys rows h tk E' (List.getElem_mem hlt) hC hx F N off ne) (fun y s₂ hq => ?_) fun _ _ e => e
      obtain ⟨h', tk', p, ws, n, rfl, rfl, F', N', off', hI⟩ := hq
      refine ⟨h', tk', (p, W.listOf ws.toArray n) :: (rows ++ news), rfl, F', kst_newsOf N' (fun q hq => by simp only [List.mem_cons, List.mem_append] at hq ⊢; rcases hq with h | h | h | h | h | h <;> simp [h]), ⟨off', off⟩, srcAt_mono hsrc (fun q hq => by simp [hq]), ?_⟩
      refine ih (i + 1) _ ((p, W.listOf ws.toArray n) :: rows) (by omega) ?_
      have e : ns.take (i + 1) = ns.take i ++ [ns[i]] := by rw [List.take_add_one, List.getElem?_eq_getElem hlt]; rfl
      rw [e, List.map_append]
      exact DatAll.append (DatAll.mono (fun q hq => .tail _ hq) hy) (.one (.list (n := n) (vs := ws) (.head _) (datAll_ints hI)))
  exact key ns.length 0 [] [] (by omega) (by simpa using .nil)
end
theorem news_mid {h₀ h : Heap} {L : Addr} {d : Addr × Obj} {rows news : List (Addr × Obj)} (N : News h₀ L h (d :: (rows ++ news))) : News h₀ L h (d :: (news ++ rows)) :=
  kst_newsOf N (fun q hq => by simp only [List.mem_cons, List.mem_append] at hq ⊢; rcases hq with h | h | h <;> simp [h])
end
end Mine

namespace Mine
section
open PySem.Sem (wp)
open LCg
theorem compTurn_two0 (elt t0 i0 t1 i1 c : Expr) (scope : Scope) (pos : Pos) (it acc : Value) (env : Env) :
    compTurn (.ListComp elt [⟨t0, i0, [], 0⟩, ⟨t1, i1, [c], 0⟩] scope pos) 0 it acc env = (do
      standAt i0.pos
      match ← pyNext it with
      | none => pure (.done .next)
      | some v =>
        letOwnedTupleGo t0 it v
        assign t0 env v
        let mut ok := true
        for c in ([] : List Expr) do
          if ok then ok ← isTrue c env (eval c env)
        if ok then
          let x ← eval i1 env
          standAt i1.pos
          let x ← foldedSetIterable i1 env x
          let _ ← runOwn (.compStart (.ListComp elt [⟨t0, i0, [], 0⟩, ⟨t1, i1, [c], 0⟩] scope pos) 1 (← holding [x] (pyIter x)) acc env) env
        again (.compLoop (.ListComp elt [⟨t0, i0, [], 0⟩, ⟨t1, i1, [c], 0⟩] scope pos) 0 it acc env)) := by rfl
theorem compTurn_two1 (elt t0 i0 t1 i1 c : Expr) (scope : Scope) (pos : Pos) (it acc : Value) (env : Env) :
    compTurn (.ListComp elt [⟨t0, i0, [], 0⟩, ⟨t1, i1, [c], 0⟩] scope pos) 1 it acc env = (do
      standAt i1.pos
      match ← pyNext it with
      | none => pure (.done .next)
      | some v =>
        letOwnedTupleGo t1 it v
        assign t1 env v
        let mut ok := true
        for c in [c] do
          if ok then ok ← isTrue c env (eval c env)
        if ok then
          (do let _ ← call (.builtin "list.append") [acc, ← eval elt env])
        again (.compLoop (.ListComp elt [⟨t0, i0, [], 0⟩, ⟨t1, i1, [c], 0⟩] scope pos) 1 it acc env)) := by rfl
section
variable {prog : Program} {w : World} {A : Around} {E : Value → Shared → Prop} {R : Result → Shared → Prop} {s : Shared}
theorem mark_none (A : Around) : A.mark none = A := by cases A; rfl
theorem codeAny_start1 {elt t0 i0 t1 i1 c scope pos it acc env}
    (h0 : codeAny (model prog w) A (.compLoop (.ListComp elt [⟨t0, i0, [], 0⟩, ⟨t1, i1, [c], 0⟩] scope pos) 1 it acc env) R s)
    (h : wpAny (model prog w) A (pyIter it) (fun it' s' => codeAny (model prog w) A (.compLoop (.ListComp elt [⟨t0, i0, [], 0⟩, ⟨t1, i1, [c], 0⟩] scope pos) 1 it' acc env) R s')
      (notedBy (model prog w) A env fun x s' => R (.error x) s') s) :
    codeAny (model prog w) A (.compStart (.ListComp elt [⟨t0, i0, [], 0⟩, ⟨t1, i1, [c], 0⟩] scope pos) 1 it acc env) R s := by
  refine codeAny_of_tree ?_
  show wpAny _ _ ((compStart (.ListComp elt [⟨t0, i0, [], 0⟩, ⟨t1, i1, [c], 0⟩] scope pos) 1 it acc env).onRaise (fun x => do noteFrame x env; standAt theWindowsPlace)) _ _ s
  refine wpAny_notedAt ?_
  unfold compStart
  show wpAny _ _ (ask >>= _) _ _ s
  refine wpAny_bind (wpAny_askSetting (wpAny_ite ?_))
  split
  · first
      | exact wpAny_bind (wpAny_pure (wpAny_pure (And.intro rfl h0)))
      | exact wpAny_pure (And.intro rfl h0)
  · first
      | exact wpAny_bind (wpAny_rule (wpAny_bind (wpAny_standAt (wpAny_bind (wpAny_mono h (fun it' s' h' => wpAny_pure (And.intro rfl h')) fun _ _ x => x)))))
      | (refine wpAny_bind (wpAny_rule ?_); show wpAny _ _ (standAt i1.pos >>= _) _ _ s; exact wpAny_bind (wpAny_standAt (wpAny_bind (wpAny_mono h (fun it' s' h' => wpAny_pure (And.intro rfl h')) fun _ _ x => x))))
/-- the inner loop, whose test is always false -/
theorem codeAny_loop1 {elt t0 i0 t1 i1 c : Expr} {scope : Scope} {pos : Pos} {it acc : Value} {env : Env} (I : Nat → Shared → Prop)
    (turn : ∀ n s, I n s → wpAny (model prog w) A (pyNext it) (fun r s₁ => match r with
      | none => R (.ok .next) s₁
      | some v => wpAny (model prog w) A (assign t1 env v) (fun _ s₂ =>
          wpAny (model prog w) A (isTrue c env (eval c env)) (fun ok s₃ => ok = false ∧ ∃ m, m < n ∧ I m s₃) (fun _ _ => False) s₂) (fun _ _ => False) s₁) (fun _ _ => False) s)
    (n : Nat) (h : I n s) (ht : ∀ v, letOwnedTupleGo t1 it v = pure ()) :
    codeAny (model prog w) A (.compLoop (.ListComp elt [⟨t0, i0, [], 0⟩, ⟨t1, i1, [c], 0⟩] scope pos) 1 it acc env) R s := by
  refine codeAny_loop rfl I (fun n s hI => ?_) n h
  show wpAny _ A ((compTurn (.ListComp elt [⟨t0, i0, [], 0⟩, ⟨t1, i1, [c], 0⟩] scope pos) 1 it acc env).onRaise (fun x => do noteFrame x env; theTreesLotGoes x)) _ _ s
  refine wpAny_noted ?_
  rw [compTurn_two1]
  refine wpAny_bind (wpAny_standAt (wpAny_bind (wpAny_mono (turn n s hI) (fun r s₁ h₁ => ?_) fun _ _ h' => h'.elim)))
  cases r with
  | none => exact wpAny_pure h₁
  | some v =>
    refine wpAny_bind (wpAny_of_eq (ht v) ?_)
    refine wpAny_bind (wpAny_mono h₁ (fun _ s₂ h₂ => wpAny_bind (wpAny_mono (wpAny_tests_one h₂) (fun ok s₃ h₃ => ?_) fun _ _ h' => h'.elim)) fun _ _ h' => h'.elim)
    obtain ⟨rfl, h₃⟩ := h₃
    exact wpAny_pure ⟨rfl, h₃⟩
theorem codeAny_loop0 {elt t0 i0 t1 i1 c : Expr} {scope : Scope} {pos : Pos} {it acc : Value} {env : Env} (I : Nat → Shared → Prop)
    (turn : ∀ n s, I n s → wpAny (model prog w) A (pyNext it) (fun r s₁ => match r with
      | none => R (.ok .next) s₁
      | some v => wpAny (model prog w) A (assign t0 env v) (fun _ s₂ =>
          wpAny (model prog w) A (eval i1 env) (fun x s₃ => wpAny (model prog w) A (pyIter x) (fun it1 s₄ =>
            codeAny (model prog w) A (.compStart (.ListComp elt [⟨t0, i0, [], 0⟩, ⟨t1, i1, [c], 0⟩] scope pos) 1 it1 acc env) (fun r s₅ => match r with | .ok _ => ∃ m, m < n ∧ I m s₅ | .error _ => False) s₄)
            (fun _ _ => False) s₃) (fun _ _ => False) s₂) (fun _ _ => False) s₁) (fun _ _ => False) s)
    (n : Nat) (h : I n s) (ht : ∀ v, letOwnedTupleGo t0 it v = pure ()) (hs : ∀ x, foldedSetIterable i1 env x = pure x) :
    codeAny (model prog w) A (.compLoop (.ListComp elt [⟨t0, i0, [], 0⟩, ⟨t1, i1, [c], 0⟩] scope pos) 0 it acc env) R s := by
  refine codeAny_loop rfl I (fun n s hI => ?_) n h
  show wpAny _ A ((compTurn (.ListComp elt [⟨t0, i0, [], 0⟩, ⟨t1, i1, [c], 0⟩] scope pos) 0 it acc env).onRaise (fun x => do noteFrame x env; theTreesLotGoes x)) _ _ s
  refine wpAny_noted ?_
  rw [compTurn_two0]
  refine wpAny_bind (wpAny_standAt (wpAny_bind (wpAny_mono (turn n s hI) (fun r s₁ h₁ => ?_) fun _ _ h' => h'.elim)))
  cases r with
  | none => exact wpAny_pure h₁
  | some v =>
    refine wpAny_bind (wpAny_of_eq (ht v) ?_)
    refine wpAny_bind (wpAny_mono h₁ (fun _ s₂ h₂ => wpAny_bind (wpAny_tests_nil ?_)) fun _ _ h' => h'.elim)
    simp only [if_true]
    refine wpAny_bind (wpAny_mono h₂ (fun x s₃ h₃ => ?_) fun _ _ h' => h'.elim)
    refine wpAny_bind (wpAny_standAt (wpAny_bind (wpAny_of_eq (hs x) (wpAny_bind (wpAny_holding (wpAny_mono h₃ (fun it1 s₄ h₄ => ?_) fun _ _ h' => h'.elim))))))
    refine wpAny_bind (wpAny_runOwn ?_)
    rw [mark_none]
    refine codeAny_mono h₄ (fun r s₅ h₅ => ?_)
    cases r with
    | ok f => exact wpAny_pure ⟨rfl, h₅⟩
    | error e => exact h₅.elim
end
section
variable {prog : Program} {w : World} {A : Around} {E : Value → Shared → Prop} {s : Shared} {h₀ : Heap} {L : Addr} {m : Str → Option Value} {env : Env}
def TwoSrc (prog : Program) (w : World) (A : Around) (h₀ : Heap) (L : Addr) (m : Str → Option Value) (env : Env) (c : Expr) (x1 : Str) (scope : Scope) (cl : List (Str × Addr)) (Q : Value → Shared → Prop) (xv : Value) (s₁ : Shared) : Prop :=
  ∃ ax ys rows xss news, xv = .ref ax ∧ A.handled = none ∧ Fr h₀ L s₁.heap m ∧ News h₀ L s₁.heap news ∧ (ax, LCg.lst ys) ∈ news ∧ DatAll rows ys ((xss : List (List Int)).map dI) ∧ (∀ q ∈ rows, q ∈ news) ∧
    (∀ i t C oC m₂ led hh tk, NsObj oC m₂ → m₂ x1 = some (.int i t) → Fr h₀ L hh m → News h₀ L hh ((C, oC) :: led) →
      wpAny (model prog w) A (isTrue c (compEnvC scope cl C env) (eval c (compEnvC scope cl C env))) (fun ok s' => ok = false ∧ ∃ h' tk', s' = { s₁ with heap := h', toks := tk' } ∧ Fr h₀ L h' m ∧ News h₀ L h' ((C, oC) :: led)) (fun _ _ => False) { s₁ with heap := hh, toks := tk }) ∧
    (∀ D hh tk, Fr h₀ L hh m → News h₀ L hh ((D, LCg.lst []) :: news) → Q (.ref D) { s₁ with heap := hh, toks := tk })
theorem iter_at {h h' : Heap} {I a : Addr} {i : Nat} (x : h.IsListIter I a i) (k : ∀ o, h.get? I = some o → h'.get? I = some o) : h'.IsListIter I a i := x.at fun o e => k o e
set_option maxHeartbeats 4000000 in
theorem ListComp_two {elt i0 c : Expr} {x0 x1 : Str} {p0 p1 p2 : Pos} {scope : Scope} {cl : List (Str × Addr)} {pos : Pos} {Q : Value → Shared → Prop}
    (_F₀ : Fr h₀ L s.heap m) (hclos : closureFor scope env = pure cl) (hkind : scope.kind = .function)
    (hnames : ∀ y ∈ scope.names, y.2 = .local → scope.names.lookup y.1 = some .local) (hcell : ∀ y ∈ scope.names, y.2 ≠ .cell)
    (hx0 : scope.names.lookup x0 = some .local) (hx1 : scope.names.lookup x1 = some .local) (hd0 : (x0 == ("__debug__" : Str)) = false)
    (h : wpAny (model prog w) A (eval i0 env) (TwoSrc prog w A h₀ L m env c x1 scope cl Q) E s)
    (hs : ∀ x, foldedSetIterable i0 env x = pure x := by intro _; rfl) :
    wpAny (model prog w) A (eval (.ListComp elt [⟨.Name x0 p0, i0, [], 0⟩, ⟨.Name x1 p1, .Name x0 p2, [c], 0⟩] scope pos) env) Q E s := by
  rw [eval_ListComp]
  refine wpAny_comprehension_free (use := none) rfl hs hclos hkind hnames (wpAny_mono h (fun xv s₁ h₁ => ?_) fun _ _ e => e)
  obtain ⟨ax, ys, rows, xss, news, rfl, hh, F, N, hax, hDat, hrows, test, fin⟩ := h₁
  have hls : s₁.heap.IsList ax ys.toArray := News.isList N (n := ys.length) hax
  have hlt : ax < s₁.heap.objs.size := by obtain ⟨_, e, _⟩ := hls; exact Heap.lt_size e
  refine wpAny_pyIter_list hls ?_
  refine wpAny_newObj_type (wpAny_newFunctionEnv hcell (by intro y hy; simp at hy) (fun h₁ hns₁ hsb₁ => ?_) hkind)
  dsimp only at hns₁ hsb₁ ⊢
  generalize hH1 : s₁.heap.push { cls := Value.type "list_iterator", data := Data.fields #[Value.ref ax, Value.int 0 0] } = H1 at hns₁ hsb₁ ⊢
  generalize hH2 : H1.push { cls := .type "list", dict := none, data := .seq ([] : List Value).toArray } = H2 at hns₁ hsb₁ ⊢
  have z1 : H1.objs.size = s₁.heap.objs.size + 1 := by rw [← hH1, Heap.size_push]
  have z2 : H2.objs.size = H1.objs.size + 1 := by rw [← hH2, Heap.size_push]
  have k1 : ∀ b o, s₁.heap.get? b = some o → H1.get? b = some o := fun b o e => hH1 ▸ Heap.get?_push_of_some _ e
  have k2 : ∀ b o, H1.get? b = some o → H2.get? b = some o := fun b o e => hH2 ▸ Heap.get?_push_of_some _ e
  have k3 : ∀ b o, b ≠ H2.objs.size → H2.get? b = some o → h₁.get? b = some o := fun b o hb e => hsb₁.extBut b o hb (Heap.get?_push_of_some _ e)
  have fresh₀ : ∀ a, s₁.heap.objs.size ≤ a → h₀.get? a = none := fun a ha => by
    cases e : h₀.get? a with
    | none => rfl
    | some o' => exact absurd (Heap.lt_size (F.keep a o' e)) (Nat.not_lt.mpr ha)
  have hLlt : @LT.lt Nat _ L s₁.heap.objs.size := F.ns.lt
  have ltn : ∀ {a b : Addr}, @LT.lt Nat _ a b → a ≠ b := fun x => Nat.ne_of_lt x
  have old : ∀ b o, s₁.heap.get? b = some o → h₁.get? b = some o := fun b o e => k3 _ _ (ltn (by have := Heap.lt_size e; have : @LT.lt Nat _ b s₁.heap.objs.size := this; omega)) (k2 _ _ (k1 _ _ e))
  have nIL : s₁.heap.objs.size ≠ L := Ne.symm (ltn hLlt)
  have nDL : H1.objs.size ≠ L := Ne.symm (ltn (by omega))
  have nCL : H2.objs.size ≠ L := Ne.symm (ltn (by omega))
  have nID : s₁.heap.objs.size ≠ H1.objs.size := ltn (by omega)
  have nIC : s₁.heap.objs.size ≠ H2.objs.size := ltn (by omega)
  have nDC : H1.objs.size ≠ H2.objs.size := ltn (by omega)
  have I0 : h₀.get? s₁.heap.objs.size = none := fresh₀ _ (Nat.le_refl _)
  have D0 : h₀.get? H1.objs.size = none := fresh₀ _ (by show @LE.le Nat _ _ _; omega)
  have C0 : h₀.get? H2.objs.size = none := fresh₀ _ (by show @LE.le Nat _ _ _; omega)
  have off : ∀ p ∈ (H1.objs.size, LCg.lst []) :: news, p.1 ≠ s₁.heap.objs.size ∧ p.1 ≠ H2.objs.size := fun p hp => by
    rcases List.mem_cons.mp hp with rfl | hp
    · exact ⟨Ne.symm nID, nDC⟩
    · have hp' : @LT.lt Nat _ p.1 s₁.heap.objs.size := Heap.lt_size (N p hp).1
      exact ⟨ltn hp', ltn (by omega)⟩
  have hit : h₁.IsListIter s₁.heap.objs.size ax 0 := ⟨_, k3 _ _ nIC (k2 _ _ (hH1 ▸ Heap.get?_push_size _ rfl)), rfl, rfl⟩
  have hD1 : h₁.get? H1.objs.size = some (LCg.lst []) := k3 _ _ nDC (hH2 ▸ Heap.get?_push_size _ rfl)
  have N1 : News h₀ L h₁ ((H1.objs.size, LCg.lst []) :: news) := fun q hq => by
    rcases List.mem_cons.mp hq with rfl | hq
    · exact ⟨hD1, nDL, D0⟩
    · exact ⟨old _ _ (N q hq).1, (N q hq).2⟩
  have F1 : Fr h₀ L h₁ m := F.keeps old
  have Wk := Walks.list (prog := prog) (w := w) hh s₁.heap.objs.size ax (ltn hlt) ys.toArray
  generalize hI : s₁.heap.objs.size = I at *
  generalize hD : H1.objs.size = D at *
  generalize hC : H2.objs.size = C at *
  have loop : ∀ tk₀, codeAny (model prog w) A (.compLoop (.ListComp elt [⟨.Name x0 p0, i0, [], 0⟩, ⟨.Name x1 p1, .Name x0 p2, [c], 0⟩] scope pos) 0 (.ref I) (.ref D) (compEnvC scope cl C env))
      (compPost (model prog w) A E none Q (.ref D) C) { s₁ with heap := h₁, toks := tk₀ } := by
    intro tk₀
    refine codeAny_loop0
      (fun k s' => ∃ h' tk i m', s' = { s₁ with heap := h', toks := tk } ∧ i ≤ ys.length ∧ k = ys.length + 1 - i ∧ h'.IsListIter I ax i ∧ Fr h₀ L h' m ∧ h'.Ns C m' ∧ News h₀ L h' ((D, LCg.lst []) :: news)) ?_ (ys.length + 1)
      ⟨h₁, tk₀, 0, _, rfl, Nat.zero_le _, rfl, hit, F1, hns₁, N1⟩ (fun _ => rfl) (fun _ => rfl)
    rintro k s' ⟨h', tk, i, m', rfl, hile, rfl, hst, F', hn, N'⟩
    have hls' : h'.IsList ax ys.toArray := News.isList N' (n := ys.length) (.tail _ hax)
    by_cases hil : i < ys.length
    · refine Wk.item i _ _ _ (by simpa using hil) ⟨hst, hls'⟩ fun v h₂ tk₂ hPv hst₂ hk₂ => ?_
      have hxl : i < xss.length := by have := DatAll.length hDat; simp at this; omega
      obtain ⟨v', hv', hd⟩ := DatAll.get hDat (k := i) (by simpa using hxl)
      have e : (xss.map dI)[i]'(by simpa using hxl) = dI (xss[i]) := by simp
      rw [e] at hd
      have hvv : v = v' := by
        have hP' : ys[i]? = some v := by simpa using hPv
        rw [hv'] at hP'; exact (Option.some.inj hP').symm
      subst hvv
      cases hd with
      | @list q ws nn _ hm hr =>
      have hI9 := ints_of_dat hr
      refine wpAny_assign_Name (wpAny_storeName_local (lookup_relabel_local hx0) (hn.at' fun o e => hk₂ _ o (by simpa using Ne.symm nIC) e) (fun h₃ hn₃ hs₃ => ?_) (by simp [compEnvC, relabel, hkind]))
      have F₃ : Fr h₀ L h₃ m := (fr_but F' hk₂ (Ne.symm nIL) I0).change hs₃ nCL C0
      have N₃ : News h₀ L h₃ ((D, LCg.lst []) :: news) := fun p hp => ⟨hs₃.extBut _ _ (off p hp).2 (hk₂ _ _ (by simpa using (off p hp).1) (N' p hp).1), (N' p hp).2⟩
      have hst₃ : h₃.IsListIter I ax (i + 1) := iter_at hst₂.1 (fun o e => hs₃.extBut _ _ nIC e)
      have hq : h₃.IsList q ws.toArray := News.isList N₃ (.tail _ (hrows _ hm))
      refine wpAny_Name (wpAny_loadName_local (by simp [compEnvC, relabel, hkind]) (lookup_relabel_local hx0) hn₃ (by simp; rfl) ?_) hd0
      refine wpAny_pyIter_list hq ?_
      dsimp only
      generalize hJ : h₃.objs.size = J
      generalize hH4 : h₃.push { cls := Value.type "list_iterator", data := Data.fields #[Value.ref q, Value.int 0 0] } = H4
      have k4 : ∀ b o, h₃.get? b = some o → H4.get? b = some o := fun b o e => hH4 ▸ Heap.get?_push_of_some _ e
      have ltJ : ∀ b o, h₃.get? b = some o → b ≠ J := fun b o e => ltn (hJ ▸ Heap.lt_size e)
      have hitJ : H4.IsListIter J q 0 := ⟨_, hJ ▸ hH4 ▸ Heap.get?_push_size _ rfl, rfl, rfl⟩
      have nIJ : I ≠ J := by obtain ⟨o, e, _⟩ := hst₃; exact ltJ _ _ e
      have nCJ : C ≠ J := by obtain ⟨oC, e, _⟩ := ns_obj hn₃; exact ltJ _ _ e
      have nJL : J ≠ L := Ne.symm (ltn (hJ ▸ F₃.ns.lt))
      have J0 : h₀.get? J = none := by
        cases e : h₀.get? J with
        | none => rfl
        | some o' => exact absurd rfl (ltJ _ _ (F₃.keep J o' e))
      have offJ : ∀ p ∈ (D, LCg.lst []) :: news, p.1 ≠ J := fun p hp => ltJ _ _ (N₃ p hp).1
      have Wj := Walks.list (prog := prog) (w := w) hh J q (ltJ _ _ (N₃ _ (.tail _ (hrows _ hm))).1) ws.toArray
      have inner : ∀ tk₁, codeAny (model prog w) A (.compLoop (.ListComp elt [⟨.Name x0 p0, i0, [], 0⟩, ⟨.Name x1 p1, .Name x0 p2, [c], 0⟩] scope pos) 1 (.ref J) (.ref D) (compEnvC scope cl C env))
          (fun r s₅ => match r with | .ok _ => ∃ m_1, m_1 < ys.length + 1 - i ∧ ∃ h' tk i m', s₅ = { s₁ with heap := h', toks := tk } ∧ i ≤ ys.length ∧ m_1 = ys.length + 1 - i ∧ h'.IsListIter I ax i ∧ Fr h₀ L h' m ∧ h'.Ns C m' ∧ News h₀ L h' ((D, LCg.lst []) :: news) | .error _ => False) { s₁ with heap := H4, toks := tk₁ } := by
        intro tk₁
        refine codeAny_loop1
          (fun n s' => ∃ h' tk j m', s' = { s₁ with heap := h', toks := tk } ∧ j ≤ ws.length ∧ n = ws.length + 1 - j ∧ h'.IsListIter J q j ∧ h'.IsListIter I ax (i + 1) ∧ Fr h₀ L h' m ∧ h'.Ns C m' ∧ News h₀ L h' ((D, LCg.lst []) :: news)) ?_ (ws.length + 1)
          ⟨H4, tk₁, 0, _, rfl, Nat.zero_le _, rfl, hitJ, iter_at hst₃ (fun o e => k4 _ _ e), F₃.keeps k4, hn₃.keeps k4, fun p hp => ⟨k4 _ _ (N₃ p hp).1, (N₃ p hp).2⟩⟩ (fun _ => rfl)
        rintro n s' ⟨h5, tk5, j, m5, rfl, hjle, rfl, hstJ, hstI, F5, hn5, N5⟩
        have hq5 : h5.IsList q ws.toArray := News.isList N5 (.tail _ (hrows _ hm))
        by_cases hjl : j < ws.length
        · refine Wj.item j _ _ _ (by simpa using hjl) ⟨hstJ, hq5⟩ fun v h6 tk6 hPv6 hst6 hk6 => ?_
          obtain ⟨t, ht⟩ := hI9.get j (xss[i][j]'(by rw [← hI9.length]; exact hjl)) (by simp)
          have hv6 : v = .int (xss[i][j]'(by rw [← hI9.length]; exact hjl)) t := by
            have hP' : ws[j]? = some v := by simpa using hPv6
            rw [ht] at hP'; exact (Option.some.inj hP').symm
          subst hv6
          refine wpAny_assign_Name (wpAny_storeName_local (lookup_relabel_local hx1) (hn5.at' fun o e => hk6 _ o (by simpa using nCJ) e) (fun h7 hn7 hs7 => ?_) (by simp [compEnvC, relabel, hkind]))
          have F7 : Fr h₀ L h7 m := (fr_but F5 hk6 (Ne.symm nJL) J0).change hs7 nCL C0
          obtain ⟨oC, eC, hoC⟩ := ns_obj hn7
          obtain ⟨oJ, eJ, rJ⟩ := hst6.1
          obtain ⟨oI, eI, rI⟩ := hstI
          have N7 : News h₀ L h7 ((C, oC) :: (J, oJ) :: (I, oI) :: (D, LCg.lst []) :: news) := fun p hp => by
            rcases List.mem_cons.mp hp with rfl | hp
            · exact ⟨eC, nCL, C0⟩
            rcases List.mem_cons.mp hp with rfl | hp
            · exact ⟨hs7.extBut _ _ (Ne.symm nCJ) eJ, nJL, J0⟩
            rcases List.mem_cons.mp hp with rfl | hp
            · exact ⟨hs7.extBut _ _ nIC (hk6 _ _ (by simpa using nIJ) eI), nIL, I0⟩
            · exact ⟨hs7.extBut _ _ (off p hp).2 (hk6 _ _ (by simpa using offJ p hp) (N5 p hp).1), (N5 p hp).2⟩
          refine wpAny_mono (test _ t C oC _ _ h7 _ hoC (by simp; rfl) F7 N7) (fun ok s₆ h₆ => ?_) fun _ _ e => e
          obtain ⟨rfl, h8, tk8, rfl, F8, N8⟩ := h₆
          exact ⟨rfl, ws.length + 1 - (j + 1), by omega, h8, tk8, j + 1, _, rfl, hjl, rfl, ⟨oJ, (N8 (J, oJ) (by simp)).1, rJ⟩, ⟨oI, (N8 (I, oI) (by simp)).1, rI⟩, F8, hoC.ns (N8 (C, oC) (by simp)).1, fun p hp => N8 p (by simp [hp])⟩
        · obtain rfl : j = ws.length := by omega
          refine Wj.done _ _ _ ⟨by simpa using hstJ, hq5⟩ fun h6 tk6 hk6 => ?_
          exact ⟨ys.length + 1 - (i + 1), by omega, h6, tk6, i + 1, _, rfl, hil, rfl, iter_at hstI (fun o e => hk6 _ _ (by simpa using nIJ) e), fr_but F5 hk6 (Ne.symm nJL) J0, hn5.at' fun o e => hk6 _ o (by simpa using nCJ) e, fun p hp => ⟨hk6 _ _ (by simpa using offJ p hp) (N5 p hp).1, (N5 p hp).2⟩⟩
      exact codeAny_start1 (inner _) (Wj.self 0 _ _ _ ⟨hitJ, hq.at fun o e => k4 _ _ e⟩ (inner _))
    · obtain rfl : i = ys.length := by omega
      refine Wk.done _ _ _ ⟨by simpa using hst, hls'⟩ fun h₂ tk₂ hk₂ => ?_
      have F2 := fr_but F' hk₂ (Ne.symm nIL) I0
      refine ⟨_, hn.at' fun o e => hk₂ _ o (by simpa using Ne.symm nIC) e, fun h'' hs'' => fin _ h'' tk₂ (F2.change hs'' nCL C0) (fun p hp => ⟨hs''.extBut _ _ (off p hp).2 (hk₂ _ _ (by simpa using (off p hp).1) (N' p hp).1), (N' p hp).2⟩)⟩
  exact codeAny_compStart_list (loop _) (Wk.self 0 _ _ _ ⟨hit, News.isList N1 (n := ys.length) (.tail _ hax)⟩ (loop _))
end
end
end Mine

namespace Mine
section
set_option rowWalk.seconds 0
set_option linter.unusedVariables false
theorem rds_len (sh : List Nat) (n : Nat) : (rds sh n).length = n := by simp [rds]
theorem len8 {α : Type} : ∀ {l : List α}, l.length = 8 → ∃ a b c d e f g h, l = [a, b, c, d, e, f, g, h]
  | [a, b, c, d, e, f, g, h], _ => ⟨a, b, c, d, e, f, g, h, rfl⟩
theorem cells8 {vs : List Value} {cs : List Int} (hI : IntsAre vs cs) (hL : cs.length = 8) : ∃ c0 c1 c2 c3 c4 c5 c6 c7 t0 t1 t2 t3 t4 t5 t6 t7, cs = [c0, c1, c2, c3, c4, c5, c6, c7] ∧ vs = [.int c0 t0, .int c1 t1, .int c2 t2, .int c3 t3, .int c4 t4, .int c5 t5, .int c6 t6, .int c7 t7] := by
  obtain ⟨c0, c1, c2, c3, c4, c5, c6, c7, rfl⟩ := len8 hL
  cases hI with | cons _ t0 hI => cases hI with | cons _ t1 hI => cases hI with | cons _ t2 hI => cases hI with | cons _ t3 hI => cases hI with | cons _ t4 hI => cases hI with | cons _ t5 hI => cases hI with | cons _ t6 hI => cases hI with | cons _ t7 hI =>
  cases hI
  exact ⟨_, _, _, _, _, _, _, _, _, _, _, _, _, _, _, _, rfl, rfl⟩
def CellOk (c : Int) : Prop := 0 ≤ c ∧ c < 2 ^ 40
theorem cells7 {c0 c1 c2 c3 c4 c5 c6 c7 : Int} (h : ∀ c ∈ [c0, c1, c2, c3, c4, c5, c6, c7], 0 ≤ c ∧ c < 2 ^ 40) : CellOk c7 := h c7 (by simp)
theorem lst_is {h₀ h : Heap} {L a : Addr} {vs : List Value} {news : List (Addr × Obj)} (N : News h₀ L h news) (hm : (a, LCg.lst vs) ∈ news) : h.IsList a vs.toArray := News.isList (n := vs.length) N (by simpa [LCg.lst, W.listOf] using hm)
theorem onesOf {ys : List Value} {c0 c1 c2 c3 c4 c5 c6 : Int} (h : IntsAre ys (List.map (fun c => c.fmod 8) [c0, c1, c2, c3, c4, c5, c6])) : ∃ ns, IntsAre ys ns ∧ ns.length = 7 ∧ (∀ n ∈ ns, 0 ≤ n ∧ n < 9) ∧ (∀ n ∈ ns, n < 8) := by
  have hf : ∀ c : Int, 0 ≤ c.fmod 8 ∧ c.fmod 8 < 8 := fun c => ⟨Int.fmod_nonneg_of_pos c (by decide), Int.fmod_lt_of_pos c (by decide)⟩
  refine ⟨_, h, rfl, fun n hn => ?_, fun n hn => ?_⟩ <;> (obtain ⟨c, _, rfl⟩ := List.mem_map.mp hn; have := hf c; omega)
theorem othersOf {ys : List Value} {ns : List Int} {c : Int} (h : IntsAre ys ((ns.map (· + 1)).set (c % 7).toNat (c / 7 % 9))) (h7 : ns.length = 7) (hr : ∀ n ∈ ns, n < 8) (hr0 : ∀ n ∈ ns, 0 ≤ n ∧ n < 9) : ∃ ms, IntsAre ys ms ∧ ms.length = 7 ∧ ∀ n ∈ ms, 0 ≤ n ∧ n < 9 := by
  refine ⟨_, h, by simp [h7], fun n hn => ?_⟩
  rcases List.mem_or_eq_of_mem_set hn with hn | rfl
  · obtain ⟨c, hc, rfl⟩ := List.mem_map.mp hn
    have h1 := hr c hc
    have h2 := hr0 c hc
    omega
  · omega
theorem news_turn {h₀ h : Heap} {L : Addr} {a b : Addr × Obj} {news l : List (Addr × Obj)} (N : News h₀ L h (news ++ (a :: b :: l))) : News h₀ L h (a :: b :: (news ++ l)) :=
  kst_newsOf N (fun q hq => by simp only [List.mem_cons, List.mem_append] at hq ⊢; rcases hq with h | h | h | h <;> simp [h])
theorem news_turn1 {h₀ h : Heap} {L : Addr} {a : Addr × Obj} {news l : List (Addr × Obj)} (N : News h₀ L h (news ++ (a :: l))) : News h₀ L h (a :: (news ++ l)) :=
  kst_newsOf N (fun q hq => by simp only [List.mem_cons, List.mem_append] at hq ⊢; rcases hq with h | h | h <;> simp [h])
def StopP (P : Prop) : Prop := P
theorem stopAt {P : Prop} (h : StopP P) : P := h
local macro_rules | `(tactic| walk_at "call ref") => `(tactic| ((with_reducible rename Mk 111 => hMk); (with_reducible show wpAny _ _ (PySem.call (Value.ref _) _ _) _ _ _); refine stopAt ?_))
local macro_rules | `(tactic| walk_at "exec Assign cons ListComp") => `(tactic| ((with_reducible rename Mk 111 => hMk);  refine stopAt ?_))
local macro_rules | `(tactic| walk_at "compareOp NotEq ref ref") => `(tactic| ((with_reducible rename Mk 111 => hMk);  refine stopAt ?_))
local macro_rules | `(tactic| walk_at "compareOp Eq ref ref") => `(tactic| ((with_reducible rename Mk 111 => hMk);  refine stopAt ?_))
local macro_rules | `(tactic| walk_at "compareOp Eq bool bool") => `(tactic| ((with_reducible rename Mk 111 => hMk);  refine stopAt ?_))
local macro_rules | `(tactic| walk_at "compareOp Eq bytes bytes") => `(tactic| ((with_reducible rename Mk 111 => hMk);  refine stopAt ?_))
local macro_rules | `(tactic| walk_at "eval ListComp") => `(tactic| ((with_reducible rename Mk 111 => hMk); (with_reducible show wpAny _ _ (PySem.eval (PySem.Expr.ListComp _ [_, _] _ _) _) _ _ _); refine stopAt ?_))
local macro_rules | `(tactic| walk_at "CompSrc") => `(tactic| ((with_reducible rename Mk 111 => hMk);  refine stopAt ?_))
local macro_rules | `(tactic| walk_at "CompEnd") => `(tactic| ((with_reducible rename Mk 111 => hMk);  refine stopAt ?_))
local macro_rules | `(tactic| walk_at "KCfEl") => `(tactic| ((with_reducible rename Mk 111 => hMk);  refine stopAt ?_))
theorem ints7 (c0 c1 c2 c3 c4 c5 c6 : Int) (t0 t1 t2 t3 t4 t5 t6 : Tok) : IntsAre [.int c0 t0, .int c1 t1, .int c2 t2, .int c3 t3, .int c4 t4, .int c5 t5, .int c6 t6] [c0, c1, c2, c3, c4, c5, c6] :=
  .cons _ _ (.cons _ _ (.cons _ _ (.cons _ _ (.cons _ _ (.cons _ _ (.cons _ _ .nil))))))
theorem ag0 : againstRow 0 = [0, -1, -1, -1, -1, -1, -1, -1, -1] := by decide
theorem ag1 : againstRow 1 = [1, 0, -1, -1, -1, -1, -1, -1, -1] := by decide
theorem ag2 : againstRow 2 = [1, 1, 0, -1, -1, -1, -1, -1, -1] := by decide
theorem ag3 : againstRow 3 = [1, 1, 1, 0, -1, -1, -1, -1, -1] := by decide
theorem ag4 : againstRow 4 = [1, 1, 1, 1, 0, -1, -1, -1, -1] := by decide
theorem ag5 : againstRow 5 = [1, 1, 1, 1, 1, 0, -1, -1, -1] := by decide
theorem ag6 : againstRow 6 = [1, 1, 1, 1, 1, 1, 0, -1, -1] := by decide
theorem ag7 : againstRow 7 = [1, 1, 1, 1, 1, 1, 1, 0, -1] := by decide
theorem ag8 : againstRow 8 = [1, 1, 1, 1, 1, 1, 1, 1, 0] := by decide
theorem rowEnd_of {h₀ : Heap} {L I C D p : Addr} {m : Str → Option Value} {s₁ : Shared} {oI oC oD : Obj} {led all : List (Addr × Obj)} {row : List Int} {h' : Heap} {tk' : Nat} {ws : List Value} {n : Nat} (F : Fr h₀ L h' m) (N : News h₀ L h' all) (hm : (p, W.listOf ws.toArray n) ∈ all) (sub : ∀ q ∈ (I, oI) :: (C, oC) :: (D, oD) :: led, q ∈ all) (ne : (@Ne Nat p I) ∧ (@Ne Nat p C) ∧ (@Ne Nat p D)) (hI : IntsAre ws row) :
    RowEndL h₀ L m s₁ I oI C oC D oD led row (.ref p) { s₁ with heap := h', toks := tk' } :=
  ⟨h', tk', p, ws, n, rfl, rfl, F, fun q hq => by
    rcases List.mem_cons.mp hq with rfl | hq
    · exact N _ hm
    · exact N _ (sub q hq), ne, hI⟩
theorem datIn_of {l : List (Addr × Obj)} {p : Addr} {ys : List Value} {xss : List (List Int)} (D : DatAll l ys (xss.map dI)) : DatIn ((p, LCg.lst ys) :: l) (.ref p) (dL xss) := .list (n := ys.length) (.head _) (DatAll.mono (fun _ h => .tail _ h) D)
theorem datIn_of2 {l : List (Addr × Obj)} {p : Addr} {ys : List Value} {ns : List Int} {row : Int → List Int} (D : DatAll l ys (ns.map fun k => dI (row k))) : DatIn ((p, LCg.lst ys) :: l) (.ref p) (dL (ns.map row)) := datIn_of (by rw [List.map_map]; exact D)
theorem datIn_nil {p : Addr} {n : Nat} : DatIn [(p, W.listOf #[] n)] (.ref p) (dL []) := .list (vs := []) (n := n) (.head _) .nil
theorem ints_eq {h₀ h : Heap} {L a b : Addr} {vs ws : List Value} {n k : Nat} {news : List (Addr × Obj)} (N : News h₀ L h news) (ha : (a, W.listOf vs.toArray n) ∈ news) (hb : (b, W.listOf ws.toArray k) ∈ news) : h.IsList a vs.toArray ∧ h.IsList b ws.toArray := ⟨News.isList N ha, News.isList N hb⟩
set_option maxHeartbeats 40000000 in
theorem lawAll : PySem.Challenge.rw_wu0009_01.Holds := hd (by
  k_go0
  all_goals try k_fold
  have hMk := mk 111
  k_steps
  ((((with_reducible show StopP _; unfold StopP)); (rename Fr _ _ _ _ => lF'); (rename News _ _ _ _ => lN'); refine' cells_c ?ba1x11 ?ba2x11 ?ba3x11 ?ba4x11 ?bb1x11 ?bb2x11 ?bb3x11 ?_; (case ba1x11 => exact Frag.In.keeps (by assumption) (Fr.keep (by assumption))); (case ba2x11 => exact Top.keeps (by assumption) (Fr.keep (by assumption))); (case ba3x11 => ((try dsimp only); first | decide | omega)); (case ba4x11 => ((try dsimp only); first | decide | omega)); (case bb1x11 => first | assumption | exact Fr.lst lF' (by assumption)); (case bb2x11 => assumption); (case bb3x11 => (first | assumption | omega | (have := len_ints_list (by lay_of); omega))); intro h9 tk9 p9 vs9 n9 cs9 e9 hf9 hg9 hI9 hL9 hB9; (obtain ⟨c0, c1, c2, c3, c4, c5, c6, c7, t0, t1, t2, t3, t4, t5, t6, t7, hcs, hvs⟩ := cells8 hI9 hL9); subst hcs; subst hvs; (have hC7 := cells7 hB9); (have F9 := fr_ext lF' e9); (have N9 := news_add lF' lN' e9 hf9 hg9); (try dsimp only)))
  k_steps
  ((((with_reducible show StopP _; unfold StopP)); k_dflt (refine LCg.Assign_ListComp_U (F₀ := by k_asm) (by rfl) (by with_unfolding_all rfl) (by with_unfolding_all rfl) (by decide) (by rfl) (by decide) (by rfl) (by rfl) (by rfl) ?_)))
  k_steps
  ((((with_reducible show StopP _; unfold StopP)); k_dflt (refine LCg.CompSrc.ledger (by rfl) (by k_asm) (by k_asm) (by k_mem) (by rw [PySem.sizeLine_eq]; exact (by decide : 7 ≤ 16777216)) ?_); intro g'; (refine' kcf_list (fun c => c.fmod 8) (ints7 _ _ _ _ _ _ _ _ _ _ _ _ _ _) (fun k' t' I' oI' C' oC' D' m' ys' h' tk' E' hk' hC' hx' F' N' off' ne' hMark' => ?_) ?_)))
  · k_steps
    ((with_reducible show StopP _; unfold StopP))
    k_dflt (refine LCg.CompEnd.intro (by assumption) (by assumption) _ (fun _ hp => hp) (by assumption) (by lcg_src) ?_)
    refine kcf_el rfl rfl rfl
  k_steps
  with_reducible rename IntsAre _ (List.map _ _) => hI8
  obtain ⟨ns, hns, h7, hr9, hr8⟩ := onesOf hI8
  clear hI8
  ((((with_reducible show StopP _; unfold StopP)); (rename Fr _ _ _ _ => lF'); (rename News _ _ _ _ => lN'); refine' second_c ?ba1x12 ?ba2x12 ?ba3x12 ?ba4x12 ?bb1x12 ?bb2x12 ?bb3x12 ?bb4x12 ?bb5x12 ?_; (case ba1x12 => exact Frag.In.keeps (by assumption) (Fr.keep (by assumption))); (case ba2x12 => exact Top.keeps (by assumption) (Fr.keep (by assumption))); (case ba3x12 => ((try dsimp only); first | decide | omega)); (case ba4x12 => ((try dsimp only); first | decide | omega)); (case bb1x12 => first | exact News.isList lN' (by k_mem) | exact lst_is lN' (by k_mem)); (case bb2x12 => assumption); (case bb3x12 => assumption); (case bb4x12 => ((with_reducible rename CellOk _ => hC9); exact hC9.1)); (case bb5x12 => ((with_reducible rename CellOk _ => hC9); exact hC9.2)); intro h9 tk9 p9 vs9 n9 e9 hf9 hg9 hI9; (have F9 := fr_ext lF' e9); (have N9 := news_add lF' lN' e9 hf9 hg9); (try dsimp only)))
  with_reducible rename IntsAre _ (List.set _ _ _) => hI9
  obtain ⟨ms, hms, hm7, hmr⟩ := othersOf hI9 h7 hr8 hr9
  clear hI9
  k_steps
  ((((with_reducible show StopP _; unfold StopP)); (rename Fr _ _ _ _ => lF'); (rename News _ _ _ _ => lN'); refine' least_c ?ba1x13 ?ba2x13 ?ba3x13 ?ba4x13 ?bb1x13 ?bb2x13 ?bb3x13 ?_; (case ba1x13 => exact Frag.In.keeps (by assumption) (Fr.keep (by assumption))); (case ba2x13 => exact Top.keeps (by assumption) (Fr.keep (by assumption))); (case ba3x13 => ((try dsimp only); first | decide | omega)); (case ba4x13 => ((try dsimp only); first | decide | omega)); (case bb1x13 => first | exact News.isList lN' (by k_mem) | exact lst_is lN' (by k_mem)); (case bb2x13 => assumption); (case bb3x13 => first | omega | (rw [rds_len, shl_len]; omega)); intro h9 tk9 p9 l9 e9 w9 hD9; (have F9 := fr_ext lF' e9); (have N9 := news_tail lF' lN' e9 w9); (simp only [List.cons_append, List.nil_append, List.append_assoc, List.append_nil] at N9); (try dsimp only)))
  k_steps
  ((((with_reducible show StopP _; unfold StopP)); (rename Fr _ _ _ _ => lF'); (rename News _ _ _ _ => lN'); refine' least_c ?ba1x14 ?ba2x14 ?ba3x14 ?ba4x14 ?bb1x14 ?bb2x14 ?bb3x14 ?_; (case ba1x14 => exact Frag.In.keeps (by assumption) (Fr.keep (by assumption))); (case ba2x14 => exact Top.keeps (by assumption) (Fr.keep (by assumption))); (case ba3x14 => ((try dsimp only); first | decide | omega)); (case ba4x14 => ((try dsimp only); first | decide | omega)); (case bb1x14 => first | exact News.isList lN' (by k_mem) | exact lst_is lN' (by k_mem)); (case bb2x14 => assumption); (case bb3x14 => first | omega | (rw [rds_len, shl_len]; omega)); intro h9 tk9 p9 l9 e9 w9 hD9; (have F9 := fr_ext lF' e9); (have N9 := news_tail lF' lN' e9 w9); (simp only [List.cons_append, List.nil_append, List.append_assoc, List.append_nil] at N9); (try dsimp only)))
  k_steps
  ((((with_reducible show StopP _; unfold StopP)); (rename Fr _ _ _ _ => lF'); (rename News _ _ _ _ => lN'); refine' names_c ?ba1x17 ?ba2x17 ?ba3x17 ?ba4x17 ?bb1x17 ?bb2x17 ?bb3x17 ?bb4x17 ?_; (case ba1x17 => exact Frag.In.keeps (by assumption) (Fr.keep (by assumption))); (case ba2x17 => exact Top.keeps (by assumption) (Fr.keep (by assumption))); (case ba3x17 => ((try dsimp only); first | decide | omega)); (case ba4x17 => ((try dsimp only); first | decide | omega)); (case bb1x17 => first | exact News.isList lN' (by k_mem) | exact lst_is lN' (by k_mem)); (case bb2x17 => assumption); (case bb3x17 => omega); (case bb4x17 => assumption); intro h9 tk9 p9 vs9 n9 e9 hf9 hg9 hI9; (have F9 := fr_ext lF' e9); (have N9 := news_add lF' lN' e9 hf9 hg9); (try dsimp only)))
  k_steps
  ((((with_reducible show StopP _; unfold StopP)); (rename Fr _ _ _ _ => lF'); (rename News _ _ _ _ => lN'); refine' line_c ?ba1x19 ?ba2x19 ?ba3x19 ?ba4x19 ?bb1x19 ?bb2x19 ?bb3x19 ?bb4x19 ?_; (case ba1x19 => exact Frag.In.keeps (by assumption) (Fr.keep (by assumption))); (case ba2x19 => exact Top.keeps (by assumption) (Fr.keep (by assumption))); (case ba3x19 => ((try dsimp only); first | decide | omega)); (case ba4x19 => ((try dsimp only); first | decide | omega)); (case bb1x19 => first | exact News.isList lN' (by k_mem) | exact lst_is lN' (by k_mem)); (case bb2x19 => assumption); (case bb3x19 => omega); (case bb4x19 => assumption); intro h9 tk9 p9 vs9 n9 e9 hf9 hg9 hI9; (have F9 := fr_ext lF' e9); (have N9 := news_add lF' lN' e9 hf9 hg9); (try dsimp only)))
  k_steps
  ((((with_reducible show StopP _; unfold StopP)); (rename Fr _ _ _ _ => lF'); (rename News _ _ _ _ => lN'); refine' read_c ?ba1x21 ?ba2x21 ?ba3x21 ?ba4x21 ?bb1x21 ?bb2x21 ?bb3x21 ?bb4x21 ?_; (case ba1x21 => exact Frag.In.keeps (by assumption) (Fr.keep (by assumption))); (case ba2x21 => exact Top.keeps (by assumption) (Fr.keep (by assumption))); (case ba3x21 => ((try dsimp only); first | decide | omega)); (case ba4x21 => ((try dsimp only); first | decide | omega)); (case bb1x21 => first | exact News.isList lN' (by k_mem) | exact lst_is lN' (by k_mem)); (case bb2x21 => exact pcs_of (by assumption) (by assumption) (by assumption)); (case bb3x21 => (rw [BysAre.len (by assumption)]; omega)); (case bb4x21 => exact shOk _); intro h9 tk9 p9 D9 T9 n9 dn9 dv9 l9 e9 w9 hI9 hD9; (have F9 := fr_ext lF' e9); (have N9 := news_tail lF' lN' e9 w9); (have N9 := news_turn N9); (try dsimp only)))
  k_steps
  ((((with_reducible show StopP _; unfold StopP)); (rename Fr _ _ _ _ => lF'); (rename News _ _ _ _ => lN'); refine' names_c ?ba1x18 ?ba2x18 ?ba3x18 ?ba4x18 ?bb1x18 ?bb2x18 ?bb3x18 ?bb4x18 ?_; (case ba1x18 => exact Frag.In.keeps (by assumption) (Fr.keep (by assumption))); (case ba2x18 => exact Top.keeps (by assumption) (Fr.keep (by assumption))); (case ba3x18 => ((try dsimp only); first | decide | omega)); (case ba4x18 => ((try dsimp only); first | decide | omega)); (case bb1x18 => first | exact News.isList lN' (by k_mem) | exact lst_is lN' (by k_mem)); (case bb2x18 => assumption); (case bb3x18 => omega); (case bb4x18 => assumption); intro h9 tk9 p9 vs9 n9 e9 hf9 hg9 hI9; (have F9 := fr_ext lF' e9); (have N9 := news_add lF' lN' e9 hf9 hg9); (try dsimp only)))
  k_steps
  ((((with_reducible show StopP _; unfold StopP)); (rename Fr _ _ _ _ => lF'); (rename News _ _ _ _ => lN'); refine' line_c ?ba1x20 ?ba2x20 ?ba3x20 ?ba4x20 ?bb1x20 ?bb2x20 ?bb3x20 ?bb4x20 ?_; (case ba1x20 => exact Frag.In.keeps (by assumption) (Fr.keep (by assumption))); (case ba2x20 => exact Top.keeps (by assumption) (Fr.keep (by assumption))); (case ba3x20 => ((try dsimp only); first | decide | omega)); (case ba4x20 => ((try dsimp only); first | decide | omega)); (case bb1x20 => first | exact News.isList lN' (by k_mem) | exact lst_is lN' (by k_mem)); (case bb2x20 => assumption); (case bb3x20 => omega); (case bb4x20 => assumption); intro h9 tk9 p9 vs9 n9 e9 hf9 hg9 hI9; (have F9 := fr_ext lF' e9); (have N9 := news_add lF' lN' e9 hf9 hg9); (try dsimp only)))
  k_steps
  ((((with_reducible show StopP _; unfold StopP)); (rename Fr _ _ _ _ => lF'); (rename News _ _ _ _ => lN'); refine' read_c ?ba1x22 ?ba2x22 ?ba3x22 ?ba4x22 ?bb1x22 ?bb2x22 ?bb3x22 ?bb4x22 ?_; (case ba1x22 => exact Frag.In.keeps (by assumption) (Fr.keep (by assumption))); (case ba2x22 => exact Top.keeps (by assumption) (Fr.keep (by assumption))); (case ba3x22 => ((try dsimp only); first | decide | omega)); (case ba4x22 => ((try dsimp only); first | decide | omega)); (case bb1x22 => first | exact News.isList lN' (by k_mem) | exact lst_is lN' (by k_mem)); (case bb2x22 => exact pcs_of (by assumption) (by assumption) (by assumption)); (case bb3x22 => (rw [BysAre.len (by assumption)]; omega)); (case bb4x22 => exact shOk _); intro h9 tk9 p9 D9 T9 n9 dn9 dv9 l9 e9 w9 hI9 hD9; (have F9 := fr_ext lF' e9); (have N9 := news_tail lF' lN' e9 w9); (have N9 := news_turn N9); (try dsimp only)))
  k_steps
  ((((with_reducible show StopP _; unfold StopP)); (rename News _ _ _ _ => lN'); refine dl_ne lN' (by assumption) (by assumption) (told_least _) (by ((intro q hq; (first | ((repeat (first | (with_reducible exact hq) | (with_reducible exact List.mem_append_left _ hq) | (with_reducible refine List.mem_append_right _ ?_) | (with_reducible refine List.mem_cons_of_mem _ ?_))); done) | (simp only [List.mem_cons, List.mem_append, hq, true_or, or_true]))))) (by ((intro q hq; (first | ((repeat (first | (with_reducible exact hq) | (with_reducible exact List.mem_append_left _ hq) | (with_reducible refine List.mem_append_right _ ?_) | (with_reducible refine List.mem_cons_of_mem _ ?_))); done) | (simp only [List.mem_cons, List.mem_append, hq, true_or, or_true]))))) (by (simp only [Around.deeper_units]; decide)) ?_; (try dsimp only)))
  k_steps
  ((((with_reducible show StopP _; unfold StopP)); (rename News _ _ _ _ => lN'); refine dl_ne lN' (by assumption) (by assumption) (told_least _) (by ((intro q hq; (first | ((repeat (first | (with_reducible exact hq) | (with_reducible exact List.mem_append_left _ hq) | (with_reducible refine List.mem_append_right _ ?_) | (with_reducible refine List.mem_cons_of_mem _ ?_))); done) | (simp only [List.mem_cons, List.mem_append, hq, true_or, or_true]))))) (by ((intro q hq; (first | ((repeat (first | (with_reducible exact hq) | (with_reducible exact List.mem_append_left _ hq) | (with_reducible refine List.mem_append_right _ ?_) | (with_reducible refine List.mem_cons_of_mem _ ?_))); done) | (simp only [List.mem_cons, List.mem_append, hq, true_or, or_true]))))) (by (simp only [Around.deeper_units]; decide)) ?_; (try dsimp only)))
  k_steps
  ((((with_reducible show StopP _; unfold StopP)); (rename Fr _ _ _ _ => lF'); (rename News _ _ _ _ => lN'); refine' least_c ?ba1x15 ?ba2x15 ?ba3x15 ?ba4x15 ?bb1x15 ?bb2x15 ?bb3x15 ?_; (case ba1x15 => exact Frag.In.keeps (by assumption) (Fr.keep (by assumption))); (case ba2x15 => exact Top.keeps (by assumption) (Fr.keep (by assumption))); (case ba3x15 => ((try dsimp only); first | decide | omega)); (case ba4x15 => ((try dsimp only); first | decide | omega)); (case bb1x15 => first | exact News.isList lN' (by k_mem) | exact lst_is lN' (by k_mem)); (case bb2x15 => assumption); (case bb3x15 => first | omega | (rw [rds_len, shl_len]; omega)); intro h9 tk9 p9 l9 e9 w9 hD9; (have F9 := fr_ext lF' e9); (have N9 := news_tail lF' lN' e9 w9); (simp only [List.cons_append, List.nil_append, List.append_assoc, List.append_nil] at N9); (try dsimp only)))
  k_steps
  ((((with_reducible show StopP _; unfold StopP)); (rename News _ _ _ _ => lN'); refine dl_ne lN' (by assumption) (by assumption) (deep_least _) (by ((intro q hq; (first | ((repeat (first | (with_reducible exact hq) | (with_reducible exact List.mem_append_left _ hq) | (with_reducible refine List.mem_append_right _ ?_) | (with_reducible refine List.mem_cons_of_mem _ ?_))); done) | (simp only [List.mem_cons, List.mem_append, hq, true_or, or_true]))))) (by ((intro q hq; (first | ((repeat (first | (with_reducible exact hq) | (with_reducible exact List.mem_append_left _ hq) | (with_reducible refine List.mem_append_right _ ?_) | (with_reducible refine List.mem_cons_of_mem _ ?_))); done) | (simp only [List.mem_cons, List.mem_append, hq, true_or, or_true]))))) (by (simp only [Around.deeper_units]; decide)) ?_; (try dsimp only)))
  k_steps
  ((((with_reducible show StopP _; unfold StopP)); (rename Fr _ _ _ _ => lF'); (rename News _ _ _ _ => lN'); refine' least_c ?ba1x16 ?ba2x16 ?ba3x16 ?ba4x16 ?bb1x16 ?bb2x16 ?bb3x16 ?_; (case ba1x16 => exact Frag.In.keeps (by assumption) (Fr.keep (by assumption))); (case ba2x16 => exact Top.keeps (by assumption) (Fr.keep (by assumption))); (case ba3x16 => ((try dsimp only); first | decide | omega)); (case ba4x16 => ((try dsimp only); first | decide | omega)); (case bb1x16 => first | exact News.isList lN' (by k_mem) | exact lst_is lN' (by k_mem)); (case bb2x16 => assumption); (case bb3x16 => first | omega | (rw [rds_len, shl_len]; omega)); intro h9 tk9 p9 l9 e9 w9 hD9; (have F9 := fr_ext lF' e9); (have N9 := news_tail lF' lN' e9 w9); (simp only [List.cons_append, List.nil_append, List.append_assoc, List.append_nil] at N9); (try dsimp only)))
  k_steps
  ((((with_reducible show StopP _; unfold StopP)); (rename News _ _ _ _ => lN'); refine dl_ne lN' (by assumption) (by assumption) (deep_least _) (by ((intro q hq; (first | ((repeat (first | (with_reducible exact hq) | (with_reducible exact List.mem_append_left _ hq) | (with_reducible refine List.mem_append_right _ ?_) | (with_reducible refine List.mem_cons_of_mem _ ?_))); done) | (simp only [List.mem_cons, List.mem_append, hq, true_or, or_true]))))) (by ((intro q hq; (first | ((repeat (first | (with_reducible exact hq) | (with_reducible exact List.mem_append_left _ hq) | (with_reducible refine List.mem_append_right _ ?_) | (with_reducible refine List.mem_cons_of_mem _ ?_))); done) | (simp only [List.mem_cons, List.mem_append, hq, true_or, or_true]))))) (by (simp only [Around.deeper_units]; decide)) ?_; (try dsimp only)))
  k_steps
  ((((with_reducible show StopP _; unfold StopP)); (rename Fr _ _ _ _ => lF'); (rename News _ _ _ _ => lN'); refine' against_c ?ba1x23 ?ba2x23 ?ba3x23 ?ba4x23 ?bb1x23 ?bb2x23 ?bb3x23 ?bb4x23 ?_; (case ba1x23 => exact Frag.In.keeps (by assumption) (Fr.keep (by assumption))); (case ba2x23 => exact Top.keeps (by assumption) (Fr.keep (by assumption))); (case ba3x23 => ((try dsimp only); first | decide | omega)); (case ba4x23 => ((try dsimp only); first | decide | omega)); (case bb1x23 => first | exact News.isList lN' (by k_mem) | exact lst_is lN' (by k_mem)); (case bb2x23 => assumption); (case bb3x23 => omega); (case bb4x23 => assumption); intro h9 tk9 p9 ys9 l9 e9 w9 hD9; (have F9 := fr_ext lF' e9); (have N9 := news_tail lF' lN' e9 w9); (have N9 := news_turn1 N9); (try dsimp only)))
  k_steps
  ((with_reducible show StopP _; unfold StopP))
  k_dflt (refine LCg.CompSrc.ledger (by rfl) (by k_asm) (by k_asm) (by k_mem) (by rw [List.size_toArray, hms.length, PySem.sizeLine_eq]; omega) ?_)
  intro g'
  refine row_rest (row := againstRow) hms (Or.inr ⟨_, by k_mem, rfl, _, rfl⟩) ?_ ?_
  · intro k' t' I' oI' C' oC' D2 m2 ys2 rows h2 tk2 E2 hk' hC' hx' F2 N2 off2 ne2
    rcases nine hmr hk' with hz | hz | hz | hz | hz | hz | hz | hz | hz <;> subst hz
    all_goals k_steps
    all_goals (((refine rowEnd_of (by assumption) (by assumption) (by k_mem) ?_ ⟨by k_ne, by k_ne, by k_ne⟩ ?_); (intro q hq; repeat (first | exact hq | apply List.Mem.tail)); (simp only [ag0, ag1, ag2, ag3, ag4, ag5, ag6, ag7, ag8]); (repeat (first | exact IntsAre.nil | refine IntsAre.cons _ _ ?_))))
  intro ys2 rows hRows D2 h2 tk2 F2 N2 o2
  have N2 := news_mid N2
  simp only [List.cons_append, List.nil_append, List.append_assoc, List.append_nil] at N2
  with_reducible rename DatAll _ _ (List.map dI (List.map againstRow ms)) => hAg
  k_steps
  ((with_reducible show StopP _; unfold StopP))
  rename News _ _ _ _ => lN'
  refine dl_ne lN' (datIn_of hAg) (datIn_of2 hRows) rfl (by (exact List.forall_mem_cons.mpr ⟨by k_mem, by ((intro q hq; (first | ((repeat (first | (with_reducible exact hq) | (with_reducible exact List.mem_append_left _ hq) | (with_reducible refine List.mem_append_right _ ?_) | (with_reducible refine List.mem_cons_of_mem _ ?_))); done) | (simp only [List.mem_cons, List.mem_append, hq, true_or, or_true]))))⟩)) (by (exact List.forall_mem_cons.mpr ⟨by k_mem, by ((intro q hq; (first | ((repeat (first | (with_reducible exact hq) | (with_reducible exact List.mem_append_left _ hq) | (with_reducible refine List.mem_append_right _ ?_) | (with_reducible refine List.mem_cons_of_mem _ ?_))); done) | (simp only [List.mem_cons, List.mem_append, hq, true_or, or_true]))))⟩)) (by (simp only [Around.deeper_units]; decide)) ?_
  dsimp only
  k_steps
  ((with_reducible show StopP _; unfold StopP))
  k_dflt (refine ListComp_two (by k_asm) (by with_unfolding_all rfl) (by rfl) (by decide) (by decide) (by rfl) (by rfl) (by decide) ?_)
  k_steps
  refine ⟨_, _, _, _, _, rfl, by rfl, by k_asm, by k_asm, by k_mem, hAg, by ((intro q hq; (first | ((repeat (first | (with_reducible exact hq) | (with_reducible exact List.mem_append_left _ hq) | (with_reducible refine List.mem_append_right _ ?_) | (with_reducible refine List.mem_cons_of_mem _ ?_))); done) | (simp only [List.mem_cons, List.mem_append, hq, true_or, or_true])))), ?_, ?_⟩
  · intro i3 t3 C3 oC3 m3 led3 h3 tk3 hC3 hx3 F3 N3
    k_steps
    all_goals first | exact F3 | exact N3
  intro D3 h3 tk3 F3 N3
  k_steps
  ((with_reducible show StopP _; unfold StopP))
  rename News _ _ _ _ => lN'
  refine dl_ne lN' datIn_nil datIn_nil rfl (List.forall_mem_cons.mpr ⟨by k_mem, List.forall_mem_nil _⟩) (List.forall_mem_cons.mpr ⟨by k_mem, List.forall_mem_nil _⟩) (by (simp only [Around.deeper_units]; decide)) ?_
  dsimp only
  k_steps
  ((with_reducible show StopP _; unfold StopP))
  rename News _ _ _ _ => lN'
  refine li_eq (rd_ints (News.isList lN' (by k_mem)) (by assumption)) (rd_ints (News.isList lN' (by k_mem)) (by assumption)) (by (simp only [Around.deeper_units]; decide)) ?_
  k_steps
  ((with_reducible show StopP _; unfold StopP))
  rename News _ _ _ _ => lN'
  refine dl_eq lN' (by assumption) (by assumption) (by ((intro q hq; (first | ((repeat (first | (with_reducible exact hq) | (with_reducible exact List.mem_append_left _ hq) | (with_reducible refine List.mem_append_right _ ?_) | (with_reducible refine List.mem_cons_of_mem _ ?_))); done) | (simp only [List.mem_cons, List.mem_append, hq, true_or, or_true]))))) (by ((intro q hq; (first | ((repeat (first | (with_reducible exact hq) | (with_reducible exact List.mem_append_left _ hq) | (with_reducible refine List.mem_append_right _ ?_) | (with_reducible refine List.mem_cons_of_mem _ ?_))); done) | (simp only [List.mem_cons, List.mem_append, hq, true_or, or_true]))))) (by (simp only [Around.deeper_units]; decide)) ?_
  k_steps
  ((with_reducible show StopP _; unfold StopP))
  with_reducible refine eq_bool ?_
  have hfe := fin_bool (h7.trans hm7.symm)
  rw [hfe]
  dsimp only
  k_steps)
end
end Mine

set_option maxHeartbeats 40000000 in
theorem PySem.Challenge.cw_wu0009_01_holds : PySem.Challenge.rw_wu0009_01.Holds := by
  exact Mine.lawAll
