import PyProof.Rows.All
import Wide.All
import OpenK.AllK
import Wide.FinOn
import PySem.Challenge.RW_bd0052_01
open PySem PySem.W PyProof.Rows PySem.Calls PySem.Spec
set_option Elab.async false
set_option maxRecDepth 100000
set_option maxHeartbeats 8000000
set_option linter.unusedSimpArgs false
set_option linter.unusedVariables false
namespace Mine
open_top hd for PySem.Challenge.rw_bd0052_01
end Mine

namespace Mine
theorem rsBas {M : Model} {A : Around} {E : Value → Shared → Prop} {env : Env} {Q : Flow → Shared → Prop} {s : Shared} (h : Q .next s) : wpAny M A (execs [] env) Q E s := by
  w_top off
  walk1
  exact h
end Mine
namespace Mine

abbrev PG : Program := PySem.Challenge.rw_bd0052_01.row.prog
theorem fillIt (w : World) (h : Heap) (X : (hd.heap_39 w.params).In h) : (hd.heap_39 w.params).In h ∧ PySem.Challenge.rw_bd0052_01.row.prog = PySem.Challenge.rw_bd0052_01.row.prog := by k_fill; exact ⟨X, rfl⟩

structure Bs (w : World) (hb : Heap) (loose : List Str) (mean : ExcName → Option Value) (mg mb : Str → Option Value) : Prop where
  X : (hd.heap_39 w.params).In hb
  T : Top hd.view_39 loose mean mg mb hb
theorem Bs.keeps {w : World} {hb h : Heap} {loose : List Str} {mean : ExcName → Option Value} {mg mb : Str → Option Value} (Z : Bs w hb loose mean mg mb) (hs : hb.StaysIn h) : Bs w h loose mean mg mb :=
  ⟨Z.X.keeps hs, Z.T.keeps hs⟩

def Stop (p : Prop) : Prop := p
theorem stop {p : Prop} (h : Stop p) : p := h

theorem callM {w : World} {A : Around} {s : Shared} {R : Result → Shared → Prop} {f : Addr} {name qual : Str} {params : Arguments} {body : List Stmt} {scope : Scope} {dV kV doc pm cdv ct oc : Value} {an od : Option Addr} {osl : Array (Option Value)}
    {args : Args} {binds : List (Str × Value)} (X : (hd.heap_39 w.params).In s.heap) (hlim : s.heap.NoLimit) (hroom : A.depth < recursionLimit)
    (ho : (hd.heap_39 w.params).lookup f = some ⟨oc, od, .func (fnOf name qual params body scope dV kV doc pm an cdv ct), osl⟩) (hcd : codeIn (hd.heap_39 w.params) cdv qual = true)
    (hbind : BindsTo s (fnOf name qual params body scope dV kV doc pm an cdv ct) args binds) (hloc : ∀ y ∈ binds, scope.names.lookup y.1 = some .local)
    (h : ∀ h₁, Fr s.heap s.heap.objs.size h₁ (fun x => binds.reverse.lookup x) →
      wpAny (model PG w) (A.deeper (envOf qual scope s.heap.objs.size f cdv)) (execs body (envOf qual scope s.heap.objs.size f cdv))
        (fun fl s' => R (.ok (.ret (match fl with | .ret v => v | _ => .none))) s')
        (fun e s' => wpAny (model PG w) (A.deeper (envOf qual scope s.heap.objs.size f cdv)) (leaving (envOf qual scope s.heap.objs.size f cdv) e) (fun _ s'' => R (.error e) s'') (fun e' s'' => R (.error e') s'') s')
        { s with heap := h₁, toks := s.toks + binds.length })
    (hco : scope.isCoroutine = false := by rfl) (hgen : scope.isGenerator = false := by rfl) (hk : scope.kind = .function := by rfl)
    (hcell : ∀ x ∈ scope.names, x.2 ≠ .cell := by decide) : codeAny (model PG w) A (.call (.ref f) args) R s :=
  codeAny_call_def (fd := fnOf name qual params body scope dV kV doc pm an cdv ct) (body := body) (binds := binds) hroom (X _ _ ho) rfl hlim (codeRec_of X hcd) rfl hbind hcell hloc
    (fun h₁ hns hk₁ => h h₁ ⟨hns, hk₁, Nat.le_refl _⟩) hco hgen hk

theorem hide_fr {h₀ h : Heap} {L : Addr} {m : Str → Option Value} (l : List (Addr × Obj)) (F : Fr h₀ L h m) : Fr (hideAll h₀ (l.map (·.1))) L h m :=
  ⟨F.ns, fun b o e => F.keep b o (of_hideAll _ e), by rw [hideAll_size]; exact F.above⟩
theorem hide_news {h₀ h : Heap} {L : Addr} {m : Str → Option Value} (l : List (Addr × Obj)) (F : Fr h₀ L h m) (hl : ∀ p ∈ l, h₀.get? p.1 = some p.2) : News (hideAll h₀ (l.map (·.1))) L h l := fun p hp =>
  ⟨F.keep _ _ (hl p hp), Nat.ne_of_lt (Nat.lt_of_lt_of_le (Heap.lt_size (hl p hp)) F.above), hideAll_none _ (List.mem_map_of_mem hp)⟩
theorem hide_stays {hb h₀ : Heap} (l : List (Addr × Obj)) (hs : hb.StaysIn h₀) (hl : ∀ p ∈ l, hb.get? p.1 = none) : hb.StaysIn (hideAll h₀ (l.map (·.1))) := fun b o e =>
  hideAll_get _ (hs b o e) fun q => by
    obtain ⟨p, hp, rfl⟩ := List.mem_map.mp q
    rw [hl p hp] at e; cases e
theorem hide_off {h₀ h : Heap} {L : Addr} {m : Str → Option Value} {l : List (Addr × Obj)} (F : Fr (hideAll h₀ (l.map (·.1))) L h m) {b : Addr} {o : Obj} (e : h₀.get? b = some o) (hn : b ∉ l.map (·.1)) : h.get? b = some o :=
  F.keep b o (hideAll_get _ e hn)

theorem callH {w : World} {A : Around} {s : Shared} {hb : Heap} {mg mb : Str → Option Value} {loose : List Str} {mean : ExcName → Option Value} {R : Result → Shared → Prop} {f : Addr} {name qual : Str} {params : Arguments} {body : List Stmt} {scope : Scope} {dV kV doc pm cdv ct oc : Value} {an od : Option Addr} {osl : Array (Option Value)}
    {args : Args} {binds : List (Str × Value)} (l : List (Addr × Obj)) (Z : Bs w hb loose mean mg mb) (hs : hb.StaysIn s.heap) (hroom : A.depth < recursionLimit)
    (hl : ∀ p ∈ l, s.heap.get? p.1 = some p.2 ∧ hb.get? p.1 = none)
    (ho : (hd.heap_39 w.params).lookup f = some ⟨oc, od, .func (fnOf name qual params body scope dV kV doc pm an cdv ct), osl⟩) (hcd : codeIn (hd.heap_39 w.params) cdv qual = true)
    (hbind : BindsTo s (fnOf name qual params body scope dV kV doc pm an cdv ct) args binds) (hloc : ∀ y ∈ binds, scope.names.lookup y.1 = some .local)
    (h : ∀ L h₀ h₁, Fr h₀ L h₁ (fun x => binds.reverse.lookup x) → News h₀ L h₁ l → (hd.heap_39 w.params).In h₀ → Top hd.view_39 loose mean mg mb h₀ →
      (∀ h' m', Fr h₀ L h' m' → ∀ b o, b ∉ l.map (·.1) → s.heap.get? b = some o → h'.get? b = some o) → (∀ b, h₀.get? b = none → b ∉ l.map (·.1) → s.heap.get? b = none) →
      wpAny (model PG w) (A.deeper (envOf qual scope L f cdv)) (execs body (envOf qual scope L f cdv))
        (fun fl s' => R (.ok (.ret (match fl with | .ret v => v | _ => .none))) s')
        (fun e s' => wpAny (model PG w) (A.deeper (envOf qual scope L f cdv)) (leaving (envOf qual scope L f cdv) e) (fun _ s'' => R (.error e) s'') (fun e' s'' => R (.error e') s'') s')
        { s with heap := h₁, toks := s.toks + binds.length })
    (hco : scope.isCoroutine = false := by rfl) (hgen : scope.isGenerator = false := by rfl) (hk : scope.kind = .function := by rfl)
    (hcell : ∀ x ∈ scope.names, x.2 ≠ .cell := by decide) : codeAny (model PG w) A (.call (.ref f) args) R s :=
  callM (Z.X.keeps hs) (Z.T.nolimit.keeps hs) hroom ho hcd hbind hloc (fun h₁ F => by
    have st := hide_stays l hs fun p hp => (hl p hp).2
    exact h _ _ h₁ (hide_fr l F) (hide_news l F fun p hp => (hl p hp).1) (Z.X.keeps st) (Z.T.keeps st) (fun h' m' F' b o hn e => hide_off F' e hn) (fun b hb' hn => by
      cases q : s.heap.get? b with
      | none => rfl
      | some o => rw [hideAll_get _ q hn] at hb'; cases hb')) hco hgen hk hcell

theorem kda_notin {prog : Program} {w : World} {K : Type} [DecidableEq K] {knd : KeyKind prog w K} {A : Around} {E : Value → Shared → Prop} {s : Shared} {h₀ : Heap} {L d : Addr} {news : List (Addr × Obj)} {o : Obj} {kvs : List (K × Value)} {k : K} {key : Value} {Q : Value → Shared → Prop}
    (N : News h₀ L s.heap news) (hp : (d, o) ∈ news) (hd : o.IsDictOf knd kvs) (lo : (d == sysModules) = false) (hkey : knd.is k key = true) (b : Bool) (hb : (valueAt kvs k).isSome = b) (h : Q (.bool (!b)) { s with toks := s.toks + 1 }) :
    wpAny (model prog w) A (compareOp .NotIn key (.ref d)) Q E s := wpAny_notIn_of hkey lo (kda_dict N hp hd).mapOf (by rw [hb]; exact h)

theorem keep_all {h h' h₀ : Heap} {L : Addr} {l : List (Addr × Obj)} (hl : ∀ p ∈ l, h.get? p.1 = some p.2) (N : News h₀ L h' l) (hoff : ∀ b o, b ∉ l.map (·.1) → h.get? b = some o → h'.get? b = some o) :
    ∀ b o, h.get? b = some o → h'.get? b = some o := fun b o e => by
  by_cases hb : b ∈ l.map (·.1)
  · obtain ⟨p, hp, rfl⟩ := List.mem_map.mp hb
    rw [hl p hp] at e; cases e; exact (N p hp).1
  · exact hoff b o hb e

theorem keep_but {h h' h₀ : Heap} {L : Addr} {l l' : List (Addr × Obj)} (mt : List Addr) (hl : ∀ p ∈ l, h.get? p.1 = some p.2) (N : News h₀ L h' l') (hoff : ∀ b o, b ∉ l.map (·.1) → h.get? b = some o → h'.get? b = some o)
    (hsub : ∀ p ∈ l, p ∈ l' ∨ p.1 ∈ mt) : ∀ b o, b ∉ mt → h.get? b = some o → h'.get? b = some o := fun b o hm e => by
  by_cases hb : b ∈ l.map (·.1)
  · obtain ⟨p, hp, rfl⟩ := List.mem_map.mp hb
    rw [hl p hp] at e; cases e
    rcases hsub p hp with q | q
    · exact (N p q).1
    · exact absurd q hm
  · exact hoff b o hb e
theorem nin {a b : Nat} {l : List Addr} (h : a ≠ b) (h' : (a : Addr) ∉ l) : (a : Addr) ∉ (b : Addr) :: l := fun q => by
  cases q with
  | head => exact h rfl
  | tail _ q => exact h' q

abbrev rowDict (i1 i2 : Int) (t1 t2 : Tok) (root mp : Addr) : Obj := dictOf [⟨i1, .str (Str.ofString "_OrderedSet__root") t1, .ref root⟩, ⟨i2, .str (Str.ofString "_OrderedSet__map") t2, .ref mp⟩] 2
abbrev node (d : Addr) (k : Option Value) (nx pv : Addr) : Obj := ⟨.ref 26, some d, .plain, [k, some (.ref nx), some (.ref pv)].toArray⟩

end Mine

namespace Mine
theorem rsM1 {M : Model} {A : Around} {E : Value → Shared → Prop} {env : Env} {Q : Flow → Shared → Prop} {s : Shared} (h : Q .next s) : wpAny M A (execs [] env) Q E s := by
  w_top off
  walk1
  exact h
end Mine
namespace Mine
local macro_rules | `(tactic| walk_at "compareOp In str ref") => `(tactic| (refine kda_in (by k_asm) (by k_mem) (by assumption) (by assumption) (strKind_is _ _ _ _) _ rfl ?_))
local macro_rules | `(tactic| walk_at "call builtin:len") => `(tactic| (refine kda_len (by k_asm) (by k_mem) (by assumption) (by assumption) (by assumption) ?_))


theorem has_spec {w : World} {dp un : Nat} {fr : Option (List Env)} {gd : Option (List Code)} {s : Shared} {hb : Heap} {mg mb : Str → Option Value} {loose : List Str} {mean : ExcName → Option Value} {r dx mp root : Addr} {i1 i2 : Int} {t1 t2 tk : Tok} {omp : Obj} {kvs : List (Str × Value)} {k : Str} {R : Result → Shared → Prop}
    (Z : Bs w hb loose mean mg mb) (hs : hb.StaysIn s.heap) (hroom : dp + 5 < recursionLimit)
    (hl : ∀ p ∈ [(r, instObj 121 dx), (dx, rowDict i1 i2 t1 t2 root mp), (mp, omp)], s.heap.get? p.1 = some p.2 ∧ hb.get? p.1 = none)
    (hom : omp.IsDictOf (PySem.strKind PG w) kvs) (lo : (mp == sysModules) = false)
    (h : ∀ h' tk', (∀ b o, s.heap.get? b = some o → h'.get? b = some o) → R (.ok (.ret (.bool (valueAt kvs k).isSome))) { s with heap := h', toks := tk' }) :
    codeAny (model PG w) ⟨none, dp, fr, gd, un⟩ (.call (.ref 61) ⟨[.ref r, .str k tk], []⟩) R s := by
  refine callH _ Z hs (Nat.lt_of_le_of_lt (Nat.le_add_right _ 5) hroom) hl (by k_is) (by k_is) (BindsTo.of_eq rfl) (locs rfl) ?_
  intro L h₀ h₁ F N X T hoff hL
  dsimp only
  k_fold
  k_steps
  exact h _ _ (keep_all (fun p hp => (hl p hp).1) N (hoff _ _ F))

theorem len_spec {w : World} {dp un : Nat} {fr : Option (List Env)} {gd : Option (List Code)} {s : Shared} {hb : Heap} {mg mb : Str → Option Value} {loose : List Str} {mean : ExcName → Option Value} {r dx mp root : Addr} {i1 i2 : Int} {t1 t2 : Tok} {omp : Obj} {kvs : List (Str × Value)} {R : Result → Shared → Prop}
    (Z : Bs w hb loose mean mg mb) (hs : hb.StaysIn s.heap) (hroom : dp + 5 < recursionLimit)
    (hl : ∀ p ∈ [(r, instObj 121 dx), (dx, rowDict i1 i2 t1 t2 root mp), (mp, omp)], s.heap.get? p.1 = some p.2 ∧ hb.get? p.1 = none)
    (hom : omp.IsDictOf (PySem.strKind PG w) kvs) (lo : (mp == sysModules) = false) (hz : kvs.length ≤ 16777216)
    (h : ∀ h' tk' t', (∀ b o, s.heap.get? b = some o → h'.get? b = some o) → R (.ok (.ret (.int kvs.length t'))) { s with heap := h', toks := tk' }) :
    codeAny (model PG w) ⟨none, dp, fr, gd, un⟩ (.call (.ref 54) ⟨[.ref r], []⟩) R s := by
  refine callH _ Z hs (Nat.lt_of_le_of_lt (Nat.le_add_right _ 5) hroom) hl (by k_is) (by k_is) (BindsTo.of_eq rfl) (locs rfl) ?_
  intro L h₀ h₁ F N X T hoff hL
  dsimp only
  k_fold
  k_steps
  exact h _ _ _ (keep_all (fun p hp => (hl p hp).1) N (hoff _ _ F))
end Mine

namespace Mine
theorem rsM2 {M : Model} {A : Around} {E : Value → Shared → Prop} {env : Env} {Q : Flow → Shared → Prop} {s : Shared} (h : Q .next s) : wpAny M A (execs [] env) Q E s := by
  w_top off
  walk1
  exact h
end Mine
namespace Mine
local macro_rules | `(tactic| walk_at "compareOp NotIn str ref") => `(tactic| (refine kda_notin (by k_asm) (by k_mem) (by assumption) (by assumption) (strKind_is _ _ _ _) _ (by assumption) ?_))
local macro_rules | `(tactic| walk_at "compareOp In str ref") => `(tactic| (refine kda_in (by k_asm) (by k_mem) (by assumption) (by assumption) (strKind_is _ _ _ _) _ (by assumption) ?_))
local macro_rules | `(tactic| walk_at "setItem ref str") => `(tactic| (refine kda_set (knd := PySem.strKind _ _) (by k_asm) (by k_asm) (by k_updF) (by assumption) (strKind_is _ _ _ _) (by assumption) ?_; intro h' o' F' N' hd'; (try dsimp only at N')))

theorem add_ne {w : World} {dp un : Nat} {fr : Option (List Env)} {gd : Option (List Code)} {s : Shared} {hb : Heap} {mg mb : Str → Option Value} {loose : List Str} {mean : ExcName → Option Value} {r dx mp root rd z zd fst pz : Addr} {zk : Value} {i1 i2 : Int} {t1 t2 tk : Tok} {omp : Obj} {kvs : List (Str × Value)} {k : Str} {R : Result → Shared → Prop}
    (Z : Bs w hb loose mean mg mb) (hs : hb.StaysIn s.heap) (hroom : dp + 5 < recursionLimit)
    (hl : ∀ p ∈ [(r, instObj 121 dx), (dx, rowDict i1 i2 t1 t2 root mp), (mp, omp), (root, node rd none fst z), (rd, dictOf [] 0), (z, node zd (some zk) root pz), (zd, dictOf [] 0)], s.heap.get? p.1 = some p.2 ∧ hb.get? p.1 = none)
    (n1 : @Ne Nat r mp) (n2 : @Ne Nat dx mp) (n3 : @Ne Nat root mp) (n4 : @Ne Nat rd mp) (n5 : @Ne Nat z mp) (n6 : @Ne Nat zd mp)
    (n7 : @Ne Nat r root) (n8 : @Ne Nat dx root) (n9 : @Ne Nat rd root) (n10 : @Ne Nat z root) (n11 : @Ne Nat zd root)
    (n12 : @Ne Nat r z) (n13 : @Ne Nat dx z) (n14 : @Ne Nat rd z) (n15 : @Ne Nat zd z)
    (hom : omp.IsDictOf (PySem.strKind PG w) kvs) (lo : (mp == sysModules) = false) (hno : (valueAt kvs k).isSome = false) (hz : kvs.length ≤ sizeLine)
    (h : ∀ h' tk' x d omp', (∀ p ∈ [(x, node d (some (.str k tk)) root z), (d, dictOf [] 0), (r, instObj 121 dx), (dx, rowDict i1 i2 t1 t2 root mp), (mp, omp'), (root, node rd none fst x), (rd, dictOf [] 0), (z, node zd (some zk) x pz), (zd, dictOf [] 0)], h'.get? p.1 = some p.2) →
       omp'.IsDictOf (PySem.strKind PG w) (stored kvs k (.ref x)) → s.heap.get? x = none → s.heap.get? d = none → 
      (∀ b o, b ∉ [mp, root, z] → s.heap.get? b = some o → h'.get? b = some o) → R (.ok (.ret .none)) { s with heap := h', toks := tk' }) :
    codeAny (model PG w) ⟨none, dp, fr, gd, un⟩ (.call (.ref 68) ⟨[.ref r, .str k tk], []⟩) R s := by
  refine callH _ Z hs (Nat.lt_of_le_of_lt (Nat.le_add_right _ 5) hroom) hl (by k_is) (by k_is) (BindsTo.of_eq rfl) (locs rfl) ?_
  intro L h₀ h₁ F N X T hoff hL
  dsimp only
  k_fold
  k_steps
  (rename Fr _ _ _ _ => F9)
  (rename News _ _ _ _ => N9)
  refine h _ _ _ _ _ (fun p hp => (N9 p (List.mem_cons_of_mem _ hp)).1) (by assumption) (hL _ (N9 _ (.tail _ (.head _))).2.2 ?_) (hL _ (N9 _ (.tail _ (.tail _ (.head _)))).2.2 ?_) (fun b o hn e => ?_)
  · simp only [List.map_cons, List.map_nil]; (repeat (first | exact List.not_mem_nil | refine nin (by omega) ?_))
  · simp only [List.map_cons, List.map_nil]; (repeat (first | exact List.not_mem_nil | refine nin (by omega) ?_))
  · exact keep_but _ (fun p hp => (hl p hp).1) N9 (hoff _ _ F9) (by repeat' (first | exact List.forall_mem_nil _ | refine List.forall_mem_cons.mpr ⟨(by first | exact Or.inr (by k_mem) | exact Or.inl (by k_mem)), ?_⟩)) b o hn e
theorem add_nil {w : World} {dp un : Nat} {fr : Option (List Env)} {gd : Option (List Code)} {s : Shared} {hb : Heap} {mg mb : Str → Option Value} {loose : List Str} {mean : ExcName → Option Value} {r dx mp root rd : Addr} {i1 i2 : Int} {t1 t2 tk : Tok} {omp : Obj} {kvs : List (Str × Value)} {k : Str} {R : Result → Shared → Prop}
    (Z : Bs w hb loose mean mg mb) (hs : hb.StaysIn s.heap) (hroom : dp + 5 < recursionLimit)
    (hl : ∀ p ∈ [(r, instObj 121 dx), (dx, rowDict i1 i2 t1 t2 root mp), (mp, omp), (root, node rd none root root), (rd, dictOf [] 0)], s.heap.get? p.1 = some p.2 ∧ hb.get? p.1 = none)
    (n1 : @Ne Nat r mp) (n2 : @Ne Nat dx mp) (n3 : @Ne Nat root mp) (n4 : @Ne Nat rd mp)
    (n7 : @Ne Nat r root) (n8 : @Ne Nat dx root) (n9 : @Ne Nat rd root)
    (hom : omp.IsDictOf (PySem.strKind PG w) kvs) (lo : (mp == sysModules) = false) (hno : (valueAt kvs k).isSome = false) (hz : kvs.length ≤ sizeLine)
    (h : ∀ h' tk' x d omp', (∀ p ∈ [(x, node d (some (.str k tk)) root root), (d, dictOf [] 0), (r, instObj 121 dx), (dx, rowDict i1 i2 t1 t2 root mp), (mp, omp'), (root, node rd none x x), (rd, dictOf [] 0)], h'.get? p.1 = some p.2) →
       omp'.IsDictOf (PySem.strKind PG w) (stored kvs k (.ref x)) → s.heap.get? x = none → s.heap.get? d = none → 
      (∀ b o, b ∉ [mp, root] → s.heap.get? b = some o → h'.get? b = some o) → R (.ok (.ret .none)) { s with heap := h', toks := tk' }) :
    codeAny (model PG w) ⟨none, dp, fr, gd, un⟩ (.call (.ref 68) ⟨[.ref r, .str k tk], []⟩) R s := by
  refine callH _ Z hs (Nat.lt_of_le_of_lt (Nat.le_add_right _ 5) hroom) hl (by k_is) (by k_is) (BindsTo.of_eq rfl) (locs rfl) ?_
  intro L h₀ h₁ F N X T hoff hL
  dsimp only
  k_fold
  k_steps
  (rename Fr _ _ _ _ => F9)
  (rename News _ _ _ _ => N9)
  refine h _ _ _ _ _ (fun p hp => (N9 p (List.mem_cons_of_mem _ hp)).1) (by assumption) (hL _ (N9 _ (.tail _ (.head _))).2.2 ?_) (hL _ (N9 _ (.tail _ (.tail _ (.head _)))).2.2 ?_) (fun b o hn e => ?_)
  · simp only [List.map_cons, List.map_nil]; (repeat (first | exact List.not_mem_nil | refine nin (by omega) ?_))
  · simp only [List.map_cons, List.map_nil]; (repeat (first | exact List.not_mem_nil | refine nin (by omega) ?_))
  · exact keep_but _ (fun p hp => (hl p hp).1) N9 (hoff _ _ F9) (by repeat' (first | exact List.forall_mem_nil _ | refine List.forall_mem_cons.mpr ⟨(by first | exact Or.inr (by k_mem) | exact Or.inl (by k_mem)), ?_⟩)) b o hn e
end Mine

namespace Mine
theorem rsM3 {M : Model} {A : Around} {E : Value → Shared → Prop} {env : Env} {Q : Flow → Shared → Prop} {s : Shared} (h : Q .next s) : wpAny M A (execs [] env) Q E s := by
  w_top off
  walk1
  exact h
end Mine
namespace Mine
local macro_rules | `(tactic| walk_at "compareOp NotIn str ref") => `(tactic| (refine kda_notin (by k_asm) (by k_mem) (by assumption) (by assumption) (strKind_is _ _ _ _) _ (by assumption) ?_))
local macro_rules | `(tactic| walk_at "compareOp In str ref") => `(tactic| (refine kda_in (by k_asm) (by k_mem) (by assumption) (by assumption) (strKind_is _ _ _ _) _ (by assumption) ?_))
local macro_rules | `(tactic| walk_at "setItem ref str") => `(tactic| (refine kda_set (knd := PySem.strKind _ _) (by k_asm) (by k_asm) (by k_updF) (by assumption) (strKind_is _ _ _ _) (by assumption) ?_; intro h' o' F' N' hd'; (try dsimp only at N')))


local macro_rules | `(tactic| walk_at "getMethod ref") => `(tactic| ((with_reducible show wpAny _ _ (getMethod (Value.ref _) (Str.ofString "pop") _) _ _ _); refine kob_method (knd := PySem.strKind _ _) PySem.F.slot_dict_pop PySem.F.type_dict_pop (by k_asm) (by k_mem) (by assumption) ?_))
local macro_rules | `(tactic| walk_at "call builtin:dict.pop") => `(tactic| ((with_reducible show wpAny _ _ (call (Value.builtin "dict.pop") [Value.ref _, Value.str _ _]) _ _ _); refine kob_pop (knd := PySem.strKind _ _) (more := []) (by k_asm) (by k_asm) (by k_updF) (by assumption) (strKind_is _ _ _ _) (.inl rfl) (by rfl) (PySem.F.args_dict_pop_2 _ _) (by assumption) (by assumption) ?_; intro h' o' F' N' hd'; (try dsimp only at N')))

theorem disc_ne {w : World} {dp un : Nat} {fr : Option (List Env)} {gd : Option (List Code)} {s : Shared} {hb : Heap} {mg mb : Str → Option Value} {loose : List Str} {mean : ExcName → Option Value} {r dx mp root z zd p pd pp q qd qq : Addr} {zk : Value} {pk qk : Option Value} {i1 i2 : Int} {t1 t2 tk : Tok} {omp : Obj} {kvs : List (Str × Value)} {k : Str} {R : Result → Shared → Prop}
    (Z : Bs w hb loose mean mg mb) (hs : hb.StaysIn s.heap) (hroom : dp + 5 < recursionLimit)
    (hl : ∀ e ∈ [(r, instObj 121 dx), (dx, rowDict i1 i2 t1 t2 root mp), (mp, omp), (z, node zd (some zk) q p), (zd, dictOf [] 0), (p, node pd pk z pp), (pd, dictOf [] 0), (q, node qd qk qq z), (qd, dictOf [] 0)], s.heap.get? e.1 = some e.2 ∧ hb.get? e.1 = none)
    (n1 : @Ne Nat r mp) (n2 : @Ne Nat dx mp) (n3 : @Ne Nat z mp) (n4 : @Ne Nat zd mp) (n5 : @Ne Nat p mp) (n6 : @Ne Nat pd mp) (n7 : @Ne Nat q mp) (n8 : @Ne Nat qd mp)
    (n9 : @Ne Nat r p) (n10 : @Ne Nat dx p) (n11 : @Ne Nat z p) (n12 : @Ne Nat zd p) (n13 : @Ne Nat pd p) (n14 : @Ne Nat q p) (n15 : @Ne Nat qd p)
    (n16 : @Ne Nat r q) (n17 : @Ne Nat dx q) (n18 : @Ne Nat z q) (n19 : @Ne Nat zd q) (n20 : @Ne Nat pd q) (n21 : @Ne Nat qd q)
    (hom : omp.IsDictOf (PySem.strKind PG w) kvs) (lo : (mp == sysModules) = false) (hno : (valueAt kvs k).isSome = true) (hv : valueAt kvs k = some (.ref z)) (hz : kvs.length ≤ sizeLine)
    (h : ∀ h' tk' omp', (∀ e ∈ [(mp, omp'), (p, node pd pk q pp), (q, node qd qk qq p)], h'.get? e.1 = some e.2) →
       omp'.IsDictOf (PySem.strKind PG w) (without kvs k) →
      (∀ b o, b ∉ [mp, p, q] → s.heap.get? b = some o → h'.get? b = some o) → R (.ok (.ret .none)) { s with heap := h', toks := tk' }) :
    codeAny (model PG w) ⟨none, dp, fr, gd, un⟩ (.call (.ref 75) ⟨[.ref r, .str k tk], []⟩) R s := by
  refine callH _ Z hs (Nat.lt_of_le_of_lt (Nat.le_add_right _ 5) hroom) hl (by k_is) (by k_is) (BindsTo.of_eq rfl) (locs rfl) ?_
  intro L h₀ h₁ F N X T hoff hL
  dsimp only
  k_fold
  k_steps
  (rename Fr _ _ _ _ => F9)
  (rename News _ _ _ _ => N9)
  refine h _ _ _ ?_ (by assumption) (fun b o hn e => ?_)
  · (repeat' (first | exact List.forall_mem_nil _ | refine List.forall_mem_cons.mpr ⟨(N9 _ (by k_mem)).1, ?_⟩))
  · exact keep_but _ (fun p hp => (hl p hp).1) N9 (hoff _ _ F9) (by repeat' (first | exact List.forall_mem_nil _ | refine List.forall_mem_cons.mpr ⟨(by first | exact Or.inr (by k_mem) | exact Or.inl (by k_mem)), ?_⟩)) b o hn e
theorem disc_one {w : World} {dp un : Nat} {fr : Option (List Env)} {gd : Option (List Code)} {s : Shared} {hb : Heap} {mg mb : Str → Option Value} {loose : List Str} {mean : ExcName → Option Value} {r dx mp root z zd rd : Addr} {zk : Value} {i1 i2 : Int} {t1 t2 tk : Tok} {omp : Obj} {kvs : List (Str × Value)} {k : Str} {R : Result → Shared → Prop}
    (Z : Bs w hb loose mean mg mb) (hs : hb.StaysIn s.heap) (hroom : dp + 5 < recursionLimit)
    (hl : ∀ e ∈ [(r, instObj 121 dx), (dx, rowDict i1 i2 t1 t2 root mp), (mp, omp), (z, node zd (some zk) root root), (zd, dictOf [] 0), (root, node rd none z z), (rd, dictOf [] 0)], s.heap.get? e.1 = some e.2 ∧ hb.get? e.1 = none)
    (n1 : @Ne Nat r mp) (n2 : @Ne Nat dx mp) (n3 : @Ne Nat z mp) (n4 : @Ne Nat zd mp) (n5 : @Ne Nat root mp) (n6 : @Ne Nat rd mp)
    (n9 : @Ne Nat r root) (n10 : @Ne Nat dx root) (n11 : @Ne Nat z root) (n12 : @Ne Nat zd root) (n13 : @Ne Nat rd root)
    (hom : omp.IsDictOf (PySem.strKind PG w) kvs) (lo : (mp == sysModules) = false) (hno : (valueAt kvs k).isSome = true) (hv : valueAt kvs k = some (.ref z)) (hz : kvs.length ≤ sizeLine)
    (h : ∀ h' tk' omp', (∀ e ∈ [(mp, omp'), (root, node rd none root root)], h'.get? e.1 = some e.2) →
       omp'.IsDictOf (PySem.strKind PG w) (without kvs k) →
      (∀ b o, b ∉ [mp, root] → s.heap.get? b = some o → h'.get? b = some o) → R (.ok (.ret .none)) { s with heap := h', toks := tk' }) :
    codeAny (model PG w) ⟨none, dp, fr, gd, un⟩ (.call (.ref 75) ⟨[.ref r, .str k tk], []⟩) R s := by
  refine callH _ Z hs (Nat.lt_of_le_of_lt (Nat.le_add_right _ 5) hroom) hl (by k_is) (by k_is) (BindsTo.of_eq rfl) (locs rfl) ?_
  intro L h₀ h₁ F N X T hoff hL
  dsimp only
  k_fold
  k_steps
  (rename Fr _ _ _ _ => F9)
  (rename News _ _ _ _ => N9)
  refine h _ _ _ ?_ (by assumption) (fun b o hn e => ?_)
  · (repeat' (first | exact List.forall_mem_nil _ | refine List.forall_mem_cons.mpr ⟨(N9 _ (by k_mem)).1, ?_⟩))
  · exact keep_but _ (fun p hp => (hl p hp).1) N9 (hoff _ _ F9) (by repeat' (first | exact List.forall_mem_nil _ | refine List.forall_mem_cons.mpr ⟨(by first | exact Or.inr (by k_mem) | exact Or.inl (by k_mem)), ?_⟩)) b o hn e
end Mine

namespace Mine
theorem rsRow {M : Model} {A : Around} {E : Value → Shared → Prop} {env : Env} {Q : Flow → Shared → Prop} {s : Shared} (h : Q .next s) : wpAny M A (execs [] env) Q E s := by
  w_top off
  walk1
  exact h
end Mine
namespace Mine
structure Rw where
  r : Addr
  dx : Addr
  mp : Addr
  root : Addr
  rd : Addr
  i1 : Int
  i2 : Int
  t1 : Tok
  t2 : Tok
structure Lk where
  a : Addr
  d : Addr
  key : Str
  tok : Tok
def nxt (e : Addr) : List Lk → Addr
  | [] => e
  | l :: _ => l.a
def lst (p : Addr) : List Lk → Addr
  | [] => p
  | l :: ls => lst l.a ls
def Chain (h : Heap) (e p : Addr) : List Lk → Prop
  | [] => True
  | l :: ls => h.get? l.a = some (node l.d (some (.str l.key l.tok)) (nxt e ls) p) ∧ h.get? l.d = some (dictOf [] 0) ∧ Chain h e l.a ls
def adrs (ls : List Lk) : List Addr := ls.flatMap fun l => [l.a, l.d]
def Rw.adrs (R : Rw) : List Addr := [R.mp, R.root, R.r, R.dx, R.rd]
def mapOf (ls : List Lk) : List (Str × Value) := ls.map fun l => (l.key, .ref l.a)
def Rw.wr (R : Rw) (ls : List Lk) : List Addr := R.mp :: R.root :: ls.map (·.a)

theorem nil_or_snoc {α : Type} (l : List α) : l = [] ∨ ∃ A z, l = A ++ [z] := by
  rcases List.eq_nil_or_concat l with h | ⟨A, z, h⟩
  · exact .inl h
  · exact .inr ⟨A, z, by rw [h, List.concat_eq_append]⟩
theorem nxt_append (e : Addr) (A B : List Lk) : nxt e (A ++ B) = nxt (nxt e B) A := by cases A <;> rfl
theorem lst_append (p : Addr) (A B : List Lk) : lst p (A ++ B) = lst (lst p A) B := by
  induction A generalizing p with
  | nil => rfl
  | cons l A ih => exact ih l.a
theorem chain_append {h : Heap} {e : Addr} (p : Addr) (A B : List Lk) : Chain h e p (A ++ B) ↔ Chain h (nxt e B) p A ∧ Chain h e (lst p A) B := by
  induction A generalizing p with
  | nil => simp [Chain, lst]
  | cons l A ih =>
    simp only [List.cons_append, Chain, ih, nxt_append, lst]
    constructor
    · rintro ⟨a, b, c, d⟩; exact ⟨⟨a, b, c⟩, d⟩
    · rintro ⟨⟨a, b, c⟩, d⟩; exact ⟨a, b, c, d⟩
theorem adrs_append (A B : List Lk) : adrs (A ++ B) = adrs A ++ adrs B := by simp [adrs]
theorem mem_adrs {ls : List Lk} {l : Lk} (h : l ∈ ls) : l.a ∈ adrs ls ∧ l.d ∈ adrs ls := by
  simp only [adrs, List.mem_flatMap]
  exact ⟨⟨l, h, by simp⟩, ⟨l, h, by simp⟩⟩
theorem chain_keep {h h' : Heap} {e : Addr} : ∀ {p : Addr} {ls : List Lk}, (∀ b ∈ adrs ls, ∀ o, h.get? b = some o → h'.get? b = some o) → Chain h e p ls → Chain h' e p ls
  | _, [], _, _ => trivial
  | _, l :: ls, k, ⟨a, b, c⟩ => ⟨k _ (mem_adrs (.head _)).1 _ a, k _ (mem_adrs (.head _)).2 _ b, chain_keep (fun x hx => k x (by simp only [adrs, List.flatMap_cons, List.mem_append]; exact .inr hx)) c⟩

structure RowAt (w : World) (hb h : Heap) (R : Rw) (ls : List Lk) : Prop where
  hr : h.get? R.r = some (instObj 121 R.dx)
  hdx : h.get? R.dx = some (rowDict R.i1 R.i2 R.t1 R.t2 R.root R.mp)
  hrt : h.get? R.root = some (node R.rd none (nxt R.root ls) (lst R.root ls))
  hrd : h.get? R.rd = some (dictOf [] 0)
  hmp : ∃ omp, h.get? R.mp = some omp ∧ omp.IsDictOf (PySem.strKind PG w) (mapOf ls)
  ch : Chain h R.root R.root ls
  nd : (R.adrs ++ adrs ls).Nodup
  new : ∀ a ∈ R.adrs ++ adrs ls, hb.get? a = none
  lo : (R.mp == sysModules) = false
  keys : (ls.map (·.key)).Nodup

theorem RowAt.keep {w : World} {hb h h' : Heap} {R : Rw} {ls : List Lk} (x : RowAt w hb h R ls) (k : ∀ b ∈ R.adrs ++ adrs ls, ∀ o, h.get? b = some o → h'.get? b = some o) : RowAt w hb h' R ls :=
  ⟨k _ (by simp [Rw.adrs]) _ x.hr, k _ (by simp [Rw.adrs]) _ x.hdx, k _ (by simp [Rw.adrs]) _ x.hrt, k _ (by simp [Rw.adrs]) _ x.hrd, let ⟨o, a, b⟩ := x.hmp; ⟨o, k _ (by simp [Rw.adrs]) _ a, b⟩,
    chain_keep (fun b hb => k b (List.mem_append_right _ hb)) x.ch, x.nd, x.new, x.lo, x.keys⟩

theorem valueAt_mapOf (ls : List Lk) (k : Str) : valueAt (mapOf ls) k = (ls.find? fun l => l.key = k).map fun l => .ref l.a := by
  unfold valueAt mapOf
  induction ls with
  | nil => rfl
  | cons l ls ih =>
    simp only [List.map_cons, List.find?_cons]
    by_cases h : l.key = k
    · simp [h]
    · simp [h]; simpa using ih
theorem mapOf_has (ls : List Lk) (k : Str) : (valueAt (mapOf ls) k).isSome = decide (k ∈ ls.map (·.key)) := by
  rw [valueAt_isSome_eq_any]
  induction ls with
  | nil => simp [mapOf]
  | cons l ls ih => simp only [mapOf, List.map_cons, List.any_cons] at ih ⊢; rw [ih]; by_cases h : l.key = k <;> first | (simp [h]; done) | (have h' : ¬ k = l.key := fun e => h e.symm; simp [h, h'])
theorem chain_alive {h : Heap} {e : Addr} : ∀ {p : Addr} {ls : List Lk}, Chain h e p ls → ∀ a ∈ adrs ls, ∃ o, h.get? a = some o
  | _, [], _, a, ha => by simp [adrs] at ha
  | _, l :: ls, ⟨x, y, z⟩, a, ha => by
    simp only [adrs, List.flatMap_cons, List.mem_append, List.mem_cons, List.not_mem_nil, or_false] at ha
    rcases ha with (rfl | rfl) | ha
    · exact ⟨_, x⟩
    · exact ⟨_, y⟩
    · exact chain_alive z a ha
theorem RowAt.alive {w : World} {hb h : Heap} {R : Rw} {ls : List Lk} (x : RowAt w hb h R ls) : ∀ a ∈ R.adrs ++ adrs ls, ∃ o, h.get? a = some o := fun a ha => by
  rcases List.mem_append.mp ha with ha | ha
  · simp only [Rw.adrs, List.mem_cons, List.not_mem_nil, or_false] at ha
    rcases ha with rfl | rfl | rfl | rfl | rfl
    · obtain ⟨o, e, _⟩ := x.hmp; exact ⟨o, e⟩
    · exact ⟨_, x.hrt⟩
    · exact ⟨_, x.hr⟩
    · exact ⟨_, x.hdx⟩
    · exact ⟨_, x.hrd⟩
  · exact chain_alive x.ch a ha

def AllNe (a : Nat) : List Nat → Prop
  | [] => True
  | b :: l => @Ne Nat a b ∧ AllNe a l
def PwNe : List Nat → Prop
  | [] => True
  | a :: l => AllNe a l ∧ PwNe l
theorem allNe_of {a : Nat} : ∀ {l : List Nat}, (∀ b ∈ l, a ≠ b) → AllNe a l
  | [], _ => trivial
  | _ :: _, h => ⟨h _ (.head _), allNe_of fun b hb => h b (.tail _ hb)⟩
theorem pwNe_of : ∀ {l : List Nat}, l.Nodup → PwNe l
  | [], _ => trivial
  | _ :: _, h => ⟨allNe_of fun b hb e => (List.nodup_cons.mp h).1 (e ▸ hb), pwNe_of (List.nodup_cons.mp h).2⟩

theorem add_row {w : World} {dp un : Nat} {fr : Option (List Env)} {gd : Option (List Code)} {s : Shared} {hb : Heap} {mg mb : Str → Option Value} {loose : List Str} {mean : ExcName → Option Value} {R : Rw} {ls : List Lk} {k : Str} {tk : Tok} {P : Result → Shared → Prop}
    (Z : Bs w hb loose mean mg mb) (hs : hb.StaysIn s.heap) (hroom : dp + 5 < recursionLimit) (row : RowAt w hb s.heap R ls) (hk : k ∉ ls.map (·.key)) (hlen : ls.length ≤ 1000)
    (h : ∀ h' tk' x d, RowAt w hb h' R (ls ++ [⟨x, d, k, tk⟩]) → s.heap.get? x = none → s.heap.get? d = none → (∀ b o, b ∉ R.wr ls → s.heap.get? b = some o → h'.get? b = some o) →
      P (.ok (.ret .none)) { s with heap := h', toks := tk' }) :
    codeAny (model PG w) ⟨none, dp, fr, gd, un⟩ (.call (.ref 68) ⟨[.ref R.r, .str k tk], []⟩) P s := by
  obtain ⟨omp, hmp, hom⟩ := row.hmp
  have hno : (valueAt (mapOf ls) k).isSome = false := by rw [mapOf_has]; exact decide_eq_false hk
  have hst : ∀ x, stored (mapOf ls) k (.ref x) = mapOf (ls ++ [⟨x, 0, k, tk⟩]) := fun x => by
    rw [stored_absent (by cases q : valueAt (mapOf ls) k with | none => rfl | some _ => rw [q] at hno; cases hno)]; simp [mapOf]
  have hz : (mapOf ls).length ≤ sizeLine := by rw [sizeLine_eq]; simp [mapOf]; omega
  have fin : ∀ h' tk' x d omp', (∀ p ∈ [(x, node d (some (.str k tk)) R.root (lst R.root ls)), (d, dictOf [] 0), (R.r, instObj 121 R.dx), (R.dx, rowDict R.i1 R.i2 R.t1 R.t2 R.root R.mp), (R.mp, omp'), (R.root, node R.rd none (nxt x ls) x), (R.rd, dictOf [] 0)], h'.get? p.1 = some p.2) →
      Chain h' x R.root ls → omp'.IsDictOf (PySem.strKind PG w) (stored (mapOf ls) k (.ref x)) → s.heap.get? x = none → s.heap.get? d = none → 
      (∀ b o, b ∉ R.wr ls → s.heap.get? b = some o → h'.get? b = some o) → P (.ok (.ret .none)) { s with heap := h', toks := tk' } := by
    intro h' tk' x d omp' hp hc hd hx hdd hkeep
    have ex := hp _ (.head _)
    have ed := hp _ (.tail _ (.head _))
    have hxd : x ≠ d := fun e => by subst e; rw [ex] at ed; cases ed
    have alive := row.alive
    have nx : x ∉ R.adrs ++ adrs ls := fun q => by obtain ⟨o, e⟩ := alive x q; rw [hx] at e; cases e
    have ndd : d ∉ R.adrs ++ adrs ls := fun q => by obtain ⟨o, e⟩ := alive d q; rw [hdd] at e; cases e
    have nb : ∀ a, s.heap.get? a = none → hb.get? a = none := fun a e => by
      cases q : hb.get? a with
      | none => rfl
      | some o => rw [hs a o q] at e; cases e
    refine h h' tk' x d ⟨hp (R.r, _) (by simp), hp (R.dx, _) (by simp), ?_, hp (R.rd, _) (by simp), ⟨omp', hp (R.mp, _) (by simp), ?_⟩, ?_, ?_, ?_, row.lo, ?_⟩ hx hdd hkeep
    · rw [nxt_append, lst_append]; exact hp (R.root, node R.rd none (nxt x ls) x) (by simp)
    · rw [hst] at hd; simpa [mapOf] using hd
    · rw [chain_append]; exact ⟨hc, ex, ed, trivial⟩
    · rw [adrs_append, ← List.append_assoc, List.nodup_append]
      refine ⟨row.nd, by simp [adrs, hxd], fun a ha b hb' => ?_⟩
      simp [adrs] at hb'
      rcases hb' with rfl | rfl
      · exact fun e => nx (e ▸ ha)
      · exact fun e => ndd (e ▸ ha)
    · intro a ha
      rw [adrs_append, ← List.append_assoc] at ha
      rcases List.mem_append.mp ha with ha | ha
      · exact row.new a ha
      · simp [adrs] at ha
        rcases ha with rfl | rfl
        · exact nb _ hx
        · exact nb _ hdd
    · rw [List.map_append, List.nodup_append]
      refine ⟨row.keys, by simp, fun a ha b hb' => ?_⟩
      simp at hb'
      exact fun e => hk (hb' ▸ e ▸ ha)
  rcases nil_or_snoc ls with rfl | ⟨A, z, rfl⟩
  · have nd := row.nd
    replace nd : PwNe (R.adrs ++ adrs []) := pwNe_of nd
    simp only [Rw.adrs, adrs, List.flatMap_nil, List.append_nil, List.cons_append, List.nil_append, PwNe, AllNe, and_true] at nd
    obtain ⟨⟨_, _, _, _⟩, ⟨_, _, _⟩, ⟨_, _⟩, _⟩ := nd
    have nw := row.new
    refine add_nil (mp := R.mp) (root := R.root) (rd := R.rd) (dx := R.dx) (omp := omp) (kvs := mapOf []) (i1 := R.i1) (i2 := R.i2) (t1 := R.t1) (t2 := R.t2) Z hs hroom ?_ (by first | assumption | exact Ne.symm (by assumption)) (by first | assumption | exact Ne.symm (by assumption)) (by first | assumption | exact Ne.symm (by assumption)) (by first | assumption | exact Ne.symm (by assumption)) (by first | assumption | exact Ne.symm (by assumption)) (by first | assumption | exact Ne.symm (by assumption)) (by first | assumption | exact Ne.symm (by assumption)) hom row.lo hno hz ?_
    · (repeat' (first | exact List.forall_mem_nil _ | refine List.forall_mem_cons.mpr ⟨⟨?_, nw _ (by simp [Rw.adrs])⟩, ?_⟩))
      · exact row.hr
      · exact row.hdx
      · exact hmp
      · exact row.hrt
      · exact row.hrd
    · intro h' tk' x d omp' hp hd hx hdd hkeep
      exact fin h' tk' x d omp' (fun p hpp => hp p (by simp [nxt, lst] at hpp ⊢; exact hpp)) trivial hd hx hdd hkeep
  · have nd : (R.adrs ++ [z.a, z.d]).Nodup := List.Sublist.nodup (List.Sublist.append (List.Sublist.refl _) (by rw [adrs_append]; exact List.sublist_append_right _ _)) row.nd
    replace nd : PwNe (R.adrs ++ [z.a, z.d]) := pwNe_of nd
    simp only [Rw.adrs, adrs, List.flatMap_nil, List.append_nil, List.cons_append, List.nil_append, PwNe, AllNe, and_true] at nd
    obtain ⟨⟨_, _, _, _, _, _⟩, ⟨_, _, _, _, _⟩, ⟨_, _, _, _⟩, ⟨_, _, _⟩, ⟨_, _⟩, _⟩ := nd
    have nw := row.new
    have ch := row.ch
    rw [chain_append] at ch
    obtain ⟨cA, ez, ezd, -⟩ := ch
    have ez : s.heap.get? z.a = some (node z.d (some (.str z.key z.tok)) R.root (lst R.root A)) := ez
    have hzA : z.a ∈ adrs (A ++ [z]) ∧ z.d ∈ adrs (A ++ [z]) := mem_adrs (by simp)
    have hl1 : lst R.root (A ++ [z]) = z.a := by rw [lst_append]; rfl
    refine add_ne (mp := R.mp) (root := R.root) (rd := R.rd) (dx := R.dx) (omp := omp) (kvs := mapOf (A ++ [z])) (i1 := R.i1) (i2 := R.i2) (t1 := R.t1) (t2 := R.t2) (z := z.a) (zd := z.d) (zk := .str z.key z.tok) (pz := lst R.root A) (fst := nxt R.root (A ++ [z])) Z hs hroom ?_
      (by first | assumption | exact Ne.symm (by assumption)) (by first | assumption | exact Ne.symm (by assumption)) (by first | assumption | exact Ne.symm (by assumption)) (by first | assumption | exact Ne.symm (by assumption)) (by first | assumption | exact Ne.symm (by assumption)) (by first | assumption | exact Ne.symm (by assumption)) (by first | assumption | exact Ne.symm (by assumption)) (by first | assumption | exact Ne.symm (by assumption)) (by first | assumption | exact Ne.symm (by assumption)) (by first | assumption | exact Ne.symm (by assumption)) (by first | assumption | exact Ne.symm (by assumption)) (by first | assumption | exact Ne.symm (by assumption)) (by first | assumption | exact Ne.symm (by assumption)) (by first | assumption | exact Ne.symm (by assumption)) (by first | assumption | exact Ne.symm (by assumption)) hom row.lo hno hz ?_
    · (repeat' (first | exact List.forall_mem_nil _ | refine List.forall_mem_cons.mpr ⟨⟨?_, nw _ (by simp [Rw.adrs, hzA.1, hzA.2])⟩, ?_⟩))
      · exact row.hr
      · exact row.hdx
      · exact hmp
      · have := row.hrt; rw [hl1] at this; exact this
      · exact row.hrd
      · exact ez
      · exact ezd
    · intro h' tk' x d omp' hp hd hx hdd hkeep
      have nx : nxt x (A ++ [z]) = nxt R.root (A ++ [z]) := by cases A <;> rfl
      refine fin h' tk' x d omp' (fun p hpp => hp p ?_) ?_ hd hx hdd (fun b o hb' e => hkeep b o ?_ e)
      · rw [nx, hl1] at hpp
        simp only [List.mem_cons, List.not_mem_nil, or_false] at hpp ⊢
        rcases hpp with e | e | e | e | e | e | e
        · exact .inl e
        · exact .inr (.inl e)
        · exact .inr (.inr (.inl e))
        · exact .inr (.inr (.inr (.inl e)))
        · exact .inr (.inr (.inr (.inr (.inl e))))
        · exact .inr (.inr (.inr (.inr (.inr (.inl e)))))
        · exact .inr (.inr (.inr (.inr (.inr (.inr (.inl e))))))
      · rw [chain_append]
        refine ⟨chain_keep (fun b hb' o e => hkeep b o ?_ e) cA, hp (z.a, node z.d (some (.str z.key z.tok)) x (lst R.root A)) (by simp), hp (z.d, _) (by simp), trivial⟩
        have nd2 := row.nd
        rw [adrs_append, ← List.append_assoc] at nd2
        rw [List.nodup_append] at nd2
        have nd3 := nd2.1
        rw [List.nodup_append] at nd3
        refine nin ?_ (nin ?_ (nin ?_ List.not_mem_nil))
        · exact fun e => nd3.2.2 R.mp (by simp [Rw.adrs]) b hb' e.symm
        · exact fun e => nd3.2.2 R.root (by simp [Rw.adrs]) b hb' e.symm
        · exact fun e => nd2.2.2 b (List.mem_append_right _ hb') z.a (by simp [adrs]) e
      · intro q
        refine hb' ?_
        simp [Rw.wr] at q ⊢
        rcases q with q | q | q <;> simp [q]
end Mine

namespace Mine
theorem rsRow2 {M : Model} {A : Around} {E : Value → Shared → Prop} {env : Env} {Q : Flow → Shared → Prop} {s : Shared} (h : Q .next s) : wpAny M A (execs [] env) Q E s := by
  w_top off
  walk1
  exact h
end Mine
namespace Mine
theorem valueAt_mem {ls : List Lk} (hn : (ls.map (·.key)).Nodup) {z : Lk} (hz : z ∈ ls) : valueAt (mapOf ls) z.key = some (.ref z.a) := by
  obtain ⟨i, hi, e⟩ := List.mem_iff_getElem.mp hz
  refine valueAt_of_get (i := i) (by simpa [mapOf, Function.comp_def] using hn) ?_
  simp [mapOf, hi, e]
theorem without_not {ls : List Lk} {k : Str} (h : k ∉ ls.map (·.key)) : without (mapOf ls) k = mapOf ls :=
  without_of_not_mem _ _ (by simpa [mapOf, Function.comp_def] using h)
theorem without_last {A : List Lk} {z : Lk} (hn : ((A ++ [z]).map (·.key)).Nodup) : without (mapOf (A ++ [z])) z.key = mapOf A := by
  have h : z.key ∉ A.map (·.key) := by
    rw [List.map_append, List.nodup_append] at hn
    exact fun q => hn.2.2 _ q z.key (by simp) rfl
  have := without_not h
  unfold without at this ⊢
  simp only [mapOf, List.map_append, List.filter_append] at this ⊢
  rw [this]; simp
theorem without_first {B : List Lk} {z : Lk} (hn : ((z :: B).map (·.key)).Nodup) : without (mapOf (z :: B)) z.key = mapOf B := by
  have h : z.key ∉ B.map (·.key) := (List.nodup_cons.mp hn).1
  have := without_not h
  unfold without at this ⊢
  simp only [mapOf, List.map_cons, List.filter_cons] at this ⊢
  rw [this]; simp

theorem RowAt.sub {w : World} {hb h h' : Heap} {R : Rw} {ls ls' : List Lk} (x : RowAt w hb h R ls) (sb : (R.adrs ++ adrs ls').Sublist (R.adrs ++ adrs ls)) (sk : (ls'.map (·.key)).Sublist (ls.map (·.key)))
    (hr : h'.get? R.r = some (instObj 121 R.dx)) (hdx : h'.get? R.dx = some (rowDict R.i1 R.i2 R.t1 R.t2 R.root R.mp)) (hrt : h'.get? R.root = some (node R.rd none (nxt R.root ls') (lst R.root ls')))
    (hrd : h'.get? R.rd = some (dictOf [] 0)) (hmp : ∃ omp, h'.get? R.mp = some omp ∧ omp.IsDictOf (PySem.strKind PG w) (mapOf ls')) (ch : Chain h' R.root R.root ls') : RowAt w hb h' R ls' :=
  ⟨hr, hdx, hrt, hrd, hmp, ch, sb.nodup x.nd, fun a ha => x.new a (sb.mem ha), x.lo, sk.nodup x.keys⟩

section
variable {w : World} {dp un : Nat} {fr : Option (List Env)} {gd : Option (List Code)} {s : Shared} {hb : Heap} {mg mb : Str → Option Value} {loose : List Str} {mean : ExcName → Option Value} {R : Rw} {z : Lk} {tk : Tok} {P : Result → Shared → Prop}

theorem disc_last {A : List Lk} 
    (Z : Bs w hb loose mean mg mb) (hs : hb.StaysIn s.heap) (hroom : dp + 5 < recursionLimit) (row : RowAt w hb s.heap R (A ++ [z])) (hlen : A.length ≤ 1000)
    (h : ∀ h' tk', RowAt w hb h' R A → (∀ b o, b ∉ R.wr (A ++ [z]) → s.heap.get? b = some o → h'.get? b = some o) → P (.ok (.ret .none)) { s with heap := h', toks := tk' }) :
    codeAny (model PG w) ⟨none, dp, fr, gd, un⟩ (.call (.ref 75) ⟨[.ref R.r, .str z.key tk], []⟩) P s := by
  obtain ⟨omp, hmp, hom⟩ := row.hmp
  have hv := valueAt_mem row.keys (z := z) (by simp)
  have hz : (mapOf (A ++ [z])).length ≤ sizeLine := by rw [sizeLine_eq]; simp [mapOf]; omega
  have hw := without_last row.keys
  have ch := row.ch
  rw [chain_append] at ch
  obtain ⟨cA, ez, ezd, -⟩ := ch
  have ez : s.heap.get? z.a = some (node z.d (some (.str z.key z.tok)) R.root (lst R.root A)) := ez
  have cA : Chain s.heap z.a R.root A := cA
  have hl1 : lst R.root (A ++ [z]) = z.a := by rw [lst_append]; rfl
  have hrt := row.hrt
  rw [hl1] at hrt
  have nw := row.new
  have sb : (R.adrs ++ adrs A).Sublist (R.adrs ++ adrs (A ++ [z])) := List.Sublist.append (List.Sublist.refl _) (by rw [adrs_append]; exact List.sublist_append_left _ _)
  have sk : (A.map (·.key)).Sublist ((A ++ [z]).map (·.key)) := by rw [List.map_append]; exact List.sublist_append_left _ _
  have hzA : z.a ∈ adrs (A ++ [z]) ∧ z.d ∈ adrs (A ++ [z]) := mem_adrs (by simp)
  rcases nil_or_snoc A with rfl | ⟨A', p, rfl⟩
  · have nd := pwNe_of row.nd
    simp only [Rw.adrs, adrs, List.flatMap_nil, List.flatMap_cons, List.append_nil, List.cons_append, List.nil_append, PwNe, AllNe, and_true] at nd
    obtain ⟨⟨_, _, _, _, _, _⟩, ⟨_, _, _, _, _⟩, ⟨_, _, _, _⟩, ⟨_, _, _⟩, ⟨_, _⟩, _⟩ := nd
    refine disc_one (mp := R.mp) (root := R.root) (rd := R.rd) (dx := R.dx) (omp := omp) (kvs := mapOf ([] ++ [z])) (i1 := R.i1) (i2 := R.i2) (t1 := R.t1) (t2 := R.t2) (z := z.a) (zd := z.d) (zk := .str z.key z.tok) Z hs hroom ?_
      (by first | assumption | exact Ne.symm (by assumption)) (by first | assumption | exact Ne.symm (by assumption)) (by first | assumption | exact Ne.symm (by assumption)) (by first | assumption | exact Ne.symm (by assumption)) (by first | assumption | exact Ne.symm (by assumption)) (by first | assumption | exact Ne.symm (by assumption))
      (by first | assumption | exact Ne.symm (by assumption)) (by first | assumption | exact Ne.symm (by assumption)) (by first | assumption | exact Ne.symm (by assumption)) (by first | assumption | exact Ne.symm (by assumption)) (by first | assumption | exact Ne.symm (by assumption))
      hom row.lo (by rw [hv]; rfl) hv hz ?_
    · (repeat' (first | exact List.forall_mem_nil _ | refine List.forall_mem_cons.mpr ⟨⟨?_, nw _ (by first | exact List.mem_append_right _ hzA.1 | exact List.mem_append_right _ hzA.2 | (simp [Rw.adrs]; done))⟩, ?_⟩))
      · exact row.hr
      · exact row.hdx
      · exact hmp
      · exact ez
      · exact ezd
      · exact hrt
      · exact row.hrd
    · intro h' tk' omp' hp hd hkeep
      have off : ∀ b ∈ [R.r, R.dx, R.rd], b ∉ [R.mp, R.root] := by
        intro b hb'; simp only [List.mem_cons, List.not_mem_nil, or_false] at hb'
        rcases hb' with rfl | rfl | rfl <;> exact nin (by first | assumption | exact Ne.symm (by assumption)) (nin (by first | assumption | exact Ne.symm (by assumption)) List.not_mem_nil)
      refine h h' tk' (row.sub sb sk (hkeep _ _ (off _ (by simp)) row.hr) (hkeep _ _ (off _ (by simp)) row.hdx) (hp (R.root, node R.rd none R.root R.root) (by simp)) (hkeep _ _ (off _ (by simp)) row.hrd) ⟨omp', hp (R.mp, omp') (by simp), hw ▸ hd⟩ trivial) (fun b o hb' e => hkeep b o (fun q => hb' ?_) e)
      simp [Rw.wr] at q ⊢; rcases q with q | q <;> simp [q]
  · have hpA : p.a ∈ adrs (A' ++ [p] ++ [z]) ∧ p.d ∈ adrs (A' ++ [p] ++ [z]) := mem_adrs (by simp)
    have hl2 : lst R.root (A' ++ [p]) = p.a := by rw [lst_append]; rfl
    rw [hl2] at ez
    rw [chain_append] at cA
    obtain ⟨cA', ep, epd, -⟩ := cA
    have ep : s.heap.get? p.a = some (node p.d (some (.str p.key p.tok)) z.a (lst R.root A')) := ep
    have nd : PwNe (R.adrs ++ [p.a, p.d, z.a, z.d]) := pwNe_of (List.Sublist.nodup (List.Sublist.append (List.Sublist.refl _) (by simp only [adrs, List.flatMap_append, List.flatMap_cons, List.flatMap_nil, List.append_nil, List.append_assoc]; exact List.sublist_append_right _ _)) row.nd)
    simp only [Rw.adrs, List.append_nil, List.cons_append, List.nil_append, PwNe, AllNe, and_true] at nd
    obtain ⟨⟨_, _, _, _, _, _, _, _⟩, ⟨_, _, _, _, _, _, _⟩, ⟨_, _, _, _, _, _⟩, ⟨_, _, _, _, _⟩, ⟨_, _, _, _⟩, ⟨_, _, _⟩, ⟨_, _⟩, _⟩ := nd
    refine disc_ne (mp := R.mp) (root := R.root) (dx := R.dx) (omp := omp) (kvs := mapOf (A' ++ [p] ++ [z])) (i1 := R.i1) (i2 := R.i2) (t1 := R.t1) (t2 := R.t2) (z := z.a) (zd := z.d) (zk := .str z.key z.tok)
      (p := p.a) (pd := p.d) (pk := some (.str p.key p.tok)) (pp := lst R.root A') (q := R.root) (qd := R.rd) (qk := none) (qq := nxt R.root (A' ++ [p] ++ [z])) Z hs hroom ?_
      (by first | assumption | exact Ne.symm (by assumption)) (by first | assumption | exact Ne.symm (by assumption)) (by first | assumption | exact Ne.symm (by assumption)) (by first | assumption | exact Ne.symm (by assumption)) (by first | assumption | exact Ne.symm (by assumption)) (by first | assumption | exact Ne.symm (by assumption)) (by first | assumption | exact Ne.symm (by assumption)) (by first | assumption | exact Ne.symm (by assumption))
      (by first | assumption | exact Ne.symm (by assumption)) (by first | assumption | exact Ne.symm (by assumption)) (by first | assumption | exact Ne.symm (by assumption)) (by first | assumption | exact Ne.symm (by assumption)) (by first | assumption | exact Ne.symm (by assumption)) (by first | assumption | exact Ne.symm (by assumption)) (by first | assumption | exact Ne.symm (by assumption))
      (by first | assumption | exact Ne.symm (by assumption)) (by first | assumption | exact Ne.symm (by assumption)) (by first | assumption | exact Ne.symm (by assumption)) (by first | assumption | exact Ne.symm (by assumption)) (by first | assumption | exact Ne.symm (by assumption)) (by first | assumption | exact Ne.symm (by assumption))
      hom row.lo (by rw [hv]; rfl) hv hz ?_
    · (repeat' (first | exact List.forall_mem_nil _ | refine List.forall_mem_cons.mpr ⟨⟨?_, nw _ (by first | exact List.mem_append_right _ hzA.1 | exact List.mem_append_right _ hzA.2 | exact List.mem_append_right _ hpA.1 | exact List.mem_append_right _ hpA.2 | (simp [Rw.adrs]; done))⟩, ?_⟩))
      · exact row.hr
      · exact row.hdx
      · exact hmp
      · exact ez
      · exact ezd
      · exact ep
      · exact epd
      · exact hrt
      · exact row.hrd
    · intro h' tk' omp' hp hd hkeep
      have off : ∀ b ∈ [R.r, R.dx, R.rd, p.d], b ∉ [R.mp, p.a, R.root] := by
        intro b hb'; simp only [List.mem_cons, List.not_mem_nil, or_false] at hb'
        rcases hb' with rfl | rfl | rfl | rfl <;> exact nin (by first | assumption | exact Ne.symm (by assumption)) (nin (by first | assumption | exact Ne.symm (by assumption)) (nin (by first | assumption | exact Ne.symm (by assumption)) List.not_mem_nil))
      have nx : nxt R.root (A' ++ [p] ++ [z]) = nxt R.root (A' ++ [p]) := by cases A' <;> rfl
      refine h h' tk' (row.sub sb sk (hkeep _ _ (off _ (by simp)) row.hr) (hkeep _ _ (off _ (by simp)) row.hdx) ?_ (hkeep _ _ (off _ (by simp)) row.hrd) ⟨omp', hp (R.mp, omp') (by simp), hw ▸ hd⟩ ?_) (fun b o hb' e => hkeep b o (fun q => hb' ?_) e)
      · rw [← nx, hl2]; exact hp (R.root, node R.rd none (nxt R.root (A' ++ [p] ++ [z])) p.a) (by simp)
      · rw [chain_append]
        refine ⟨chain_keep (fun b hb' o e => hkeep b o ?_ e) cA', hp (p.a, node p.d (some (.str p.key p.tok)) R.root (lst R.root A')) (by simp), hkeep _ _ (off _ (by simp)) epd, trivial⟩
        have nd2 := row.nd
        rw [List.append_assoc, adrs_append, ← List.append_assoc, List.nodup_append] at nd2
        have nd3 := nd2.1
        rw [List.nodup_append] at nd3
        refine nin ?_ (nin ?_ (nin ?_ List.not_mem_nil))
        · exact fun e => nd3.2.2 R.mp (by simp [Rw.adrs]) b hb' e.symm
        · exact fun e => nd2.2.2 b (List.mem_append_right _ hb') p.a (by simp [adrs]) e
        · exact fun e => nd3.2.2 R.root (by simp [Rw.adrs]) b hb' e.symm
      · simp [Rw.wr] at q ⊢; rcases q with q | q | q <;> simp [q]

theorem disc_first {B : List Lk} 
    (Z : Bs w hb loose mean mg mb) (hs : hb.StaysIn s.heap) (hroom : dp + 5 < recursionLimit) (row : RowAt w hb s.heap R (z :: B)) (hlen : B.length ≤ 1000)
    (h : ∀ h' tk', RowAt w hb h' R B → (∀ b o, b ∉ R.wr (z :: B) → s.heap.get? b = some o → h'.get? b = some o) → P (.ok (.ret .none)) { s with heap := h', toks := tk' }) :
    codeAny (model PG w) ⟨none, dp, fr, gd, un⟩ (.call (.ref 75) ⟨[.ref R.r, .str z.key tk], []⟩) P s := by
  cases B with
  | nil => exact disc_last (A := []) Z hs hroom row (Nat.zero_le _) h
  | cons q B =>
    obtain ⟨omp, hmp, hom⟩ := row.hmp
    have hv := valueAt_mem row.keys (z := z) (by simp)
    have hz : (mapOf (z :: q :: B)).length ≤ sizeLine := by rw [sizeLine_eq]; simp [mapOf] at hlen ⊢; omega
    have hw := without_first row.keys
    obtain ⟨ez, ezd, eq, eqd, cB⟩ := row.ch
    have ez : s.heap.get? z.a = some (node z.d (some (.str z.key z.tok)) q.a R.root) := ez
    have hrt : s.heap.get? R.root = some (node R.rd none z.a (lst R.root (z :: q :: B))) := row.hrt
    have nw := row.new
    have sb : (R.adrs ++ adrs (q :: B)).Sublist (R.adrs ++ adrs (z :: q :: B)) := List.Sublist.append (List.Sublist.refl _) (List.sublist_append_right [z.a, z.d] _)
    have sk : ((q :: B).map (·.key)).Sublist ((z :: q :: B).map (·.key)) := List.sublist_cons_self _ _
    have hzA : z.a ∈ adrs (z :: q :: B) ∧ z.d ∈ adrs (z :: q :: B) := mem_adrs (by simp)
    have hpA : q.a ∈ adrs (z :: q :: B) ∧ q.d ∈ adrs (z :: q :: B) := mem_adrs (by simp)
    have nd0 := row.nd
    have nd : PwNe (R.adrs ++ [z.a, z.d, q.a, q.d]) := pwNe_of (List.Sublist.nodup (List.Sublist.append (List.Sublist.refl _) (by simp only [adrs, List.flatMap_cons, ← List.append_assoc]; exact List.sublist_append_left _ _)) row.nd)
    simp only [Rw.adrs, List.append_nil, List.cons_append, List.nil_append, PwNe, AllNe, and_true] at nd
    obtain ⟨⟨_, _, _, _, _, _, _, _⟩, ⟨_, _, _, _, _, _, _⟩, ⟨_, _, _, _, _, _⟩, ⟨_, _, _, _, _⟩, ⟨_, _, _, _⟩, ⟨_, _, _⟩, ⟨_, _⟩, _⟩ := nd
    refine disc_ne (mp := R.mp) (root := R.root) (dx := R.dx) (omp := omp) (kvs := mapOf (z :: q :: B)) (i1 := R.i1) (i2 := R.i2) (t1 := R.t1) (t2 := R.t2) (z := z.a) (zd := z.d) (zk := .str z.key z.tok)
      (p := R.root) (pd := R.rd) (pk := none) (pp := lst R.root (z :: q :: B)) (q := q.a) (qd := q.d) (qk := some (.str q.key q.tok)) (qq := nxt R.root B) Z hs hroom ?_
      (by first | assumption | exact Ne.symm (by assumption)) (by first | assumption | exact Ne.symm (by assumption)) (by first | assumption | exact Ne.symm (by assumption)) (by first | assumption | exact Ne.symm (by assumption)) (by first | assumption | exact Ne.symm (by assumption)) (by first | assumption | exact Ne.symm (by assumption)) (by first | assumption | exact Ne.symm (by assumption)) (by first | assumption | exact Ne.symm (by assumption))
      (by first | assumption | exact Ne.symm (by assumption)) (by first | assumption | exact Ne.symm (by assumption)) (by first | assumption | exact Ne.symm (by assumption)) (by first | assumption | exact Ne.symm (by assumption)) (by first | assumption | exact Ne.symm (by assumption)) (by first | assumption | exact Ne.symm (by assumption)) (by first | assumption | exact Ne.symm (by assumption))
      (by first | assumption | exact Ne.symm (by assumption)) (by first | assumption | exact Ne.symm (by assumption)) (by first | assumption | exact Ne.symm (by assumption)) (by first | assumption | exact Ne.symm (by assumption)) (by first | assumption | exact Ne.symm (by assumption)) (by first | assumption | exact Ne.symm (by assumption))
      hom row.lo (by rw [hv]; rfl) hv hz ?_
    · (repeat' (first | exact List.forall_mem_nil _ | refine List.forall_mem_cons.mpr ⟨⟨?_, nw _ (by first | exact List.mem_append_right _ hzA.1 | exact List.mem_append_right _ hzA.2 | exact List.mem_append_right _ hpA.1 | exact List.mem_append_right _ hpA.2 | (simp [Rw.adrs]; done))⟩, ?_⟩))
      · exact row.hr
      · exact row.hdx
      · exact hmp
      · exact ez
      · exact ezd
      · exact hrt
      · exact row.hrd
      · exact eq
      · exact eqd
    · intro h' tk' omp' hp hd hkeep
      have off : ∀ b ∈ [R.r, R.dx, R.rd, q.d], b ∉ [R.mp, R.root, q.a] := by
        intro b hb'; simp only [List.mem_cons, List.not_mem_nil, or_false] at hb'
        rcases hb' with rfl | rfl | rfl | rfl <;> exact nin (by first | assumption | exact Ne.symm (by assumption)) (nin (by first | assumption | exact Ne.symm (by assumption)) (nin (by first | assumption | exact Ne.symm (by assumption)) List.not_mem_nil))
      refine h h' tk' (row.sub sb sk (hkeep _ _ (off _ (by simp)) row.hr) (hkeep _ _ (off _ (by simp)) row.hdx) ?_ (hkeep _ _ (off _ (by simp)) row.hrd) ⟨omp', hp (R.mp, omp') (by simp), hw ▸ hd⟩ ?_) (fun b o hb' e => hkeep b o (fun q' => hb' ?_) e)
      · exact hp (R.root, node R.rd none q.a (lst R.root (z :: q :: B))) (by simp)
      · refine ⟨hp (q.a, node q.d (some (.str q.key q.tok)) (nxt R.root B) R.root) (by simp), hkeep _ _ (off _ (by simp)) eqd, chain_keep (fun b hb' o e => hkeep b o ?_ e) cB⟩
        have nd1 : (R.adrs ++ ([z.a, z.d] ++ ([q.a, q.d] ++ adrs B))).Nodup := nd0
        have s1 : ([R.mp, R.root, q.a] ++ adrs B).Sublist (R.adrs ++ ([z.a, z.d] ++ ([q.a, q.d] ++ adrs B))) := by
          have e1 : ([R.mp, R.root, q.a] ++ adrs B) = [R.mp, R.root] ++ ([] ++ ([q.a] ++ adrs B)) := rfl
          rw [e1]
          refine List.Sublist.append (by simp [Rw.adrs]) (List.Sublist.append (List.nil_sublist _) (List.Sublist.append (by simp) (List.Sublist.refl _)))
        have nd2 := s1.nodup nd1
        rw [List.nodup_append] at nd2
        exact fun q' => nd2.2.2 b q' b hb' rfl
      · simp [Rw.wr] at q' ⊢; rcases q' with q' | q' | q' <;> simp [q']
end
end Mine

namespace Mine
theorem rsGen1 {M : Model} {A : Around} {E : Value → Shared → Prop} {env : Env} {Q : Flow → Shared → Prop} {s : Shared} (h : Q .next s) : wpAny M A (execs [] env) Q E s := by
  w_top off
  walk1
  exact h
end Mine
namespace Mine

section
variable {w : World} {A : Around} {E : Value → Shared → Prop} {s : Shared} {a d nx pv : Addr} {k : Option Value} {expr : Bool} {Q : Value → Shared → Prop}
theorem nodeAt (hx : s.heap.get? a = some (node d k nx pv)) (hd' : s.heap.get? d = some (dictOf [] 0)) : InstAt s.heap a (node d k nx pv) 26 (some (dictOf [] 0)) := ⟨hx, rfl, rfl, hd'⟩
theorem get_next (X : (hd.heap_39 w.params).In s.heap) (hx : s.heap.get? a = some (node d k nx pv)) (hd' : s.heap.get? d = some (dictOf [] 0)) (h : Q (.ref nx) { s with toks := s.toks + 1 }) :
    wpAny (model PG w) A (getAttr (.ref a) (Str.ofString "next") expr) Q E s :=
  get_bind X (nodeAt hx hd') (plainGet_of (K := hd.heap_39 w.params) (C := 26) (name := "next") (by k_is)).1 (findObj_data (K := hd.heap_39 w.params) (C := 26) (name := "next") (show isClsIn (hd.heap_39 w.params) 26 = true by k_is) (by k_is) (by k_is) (by k_is)) (plainGet_of (K := hd.heap_39 w.params) (C := 26) (name := "next") (by k_is)).2
    (wpAny_call (slot_get (s := { s with toks := s.toks + 1 }) X (nodeAt hx hd') (by k_is) (by rfl) (handed_on (by k_handed) h)))
theorem get_prev (X : (hd.heap_39 w.params).In s.heap) (hx : s.heap.get? a = some (node d k nx pv)) (hd' : s.heap.get? d = some (dictOf [] 0)) (h : Q (.ref pv) { s with toks := s.toks + 1 }) :
    wpAny (model PG w) A (getAttr (.ref a) (Str.ofString "prev") expr) Q E s :=
  get_bind X (nodeAt hx hd') (plainGet_of (K := hd.heap_39 w.params) (C := 26) (name := "prev") (by k_is)).1 (findObj_data (K := hd.heap_39 w.params) (C := 26) (name := "prev") (show isClsIn (hd.heap_39 w.params) 26 = true by k_is) (by k_is) (by k_is) (by k_is)) (plainGet_of (K := hd.heap_39 w.params) (C := 26) (name := "prev") (by k_is)).2
    (wpAny_call (slot_get (s := { s with toks := s.toks + 1 }) X (nodeAt hx hd') (by k_is) (by rfl) (handed_on (by k_handed) h)))
theorem get_key {key : Str} {t : Tok} (X : (hd.heap_39 w.params).In s.heap) (hx : s.heap.get? a = some (node d (some (.str key t)) nx pv)) (hd' : s.heap.get? d = some (dictOf [] 0)) (h : Q (.str key t) { s with toks := s.toks + 1 }) :
    wpAny (model PG w) A (getAttr (.ref a) (Str.ofString "key") expr) Q E s :=
  get_bind X (nodeAt hx hd') (plainGet_of (K := hd.heap_39 w.params) (C := 26) (name := "key") (by k_is)).1 (findObj_data (K := hd.heap_39 w.params) (C := 26) (name := "key") (show isClsIn (hd.heap_39 w.params) 26 = true by k_is) (by k_is) (by k_is) (by k_is)) (plainGet_of (K := hd.heap_39 w.params) (C := 26) (name := "key") (by k_is)).2
    (wpAny_call (slot_get (s := { s with toks := s.toks + 1 }) X (nodeAt hx hd') (by k_is) (by rfl) (handed_on (by k_handed) h)))
theorem get_root {r dx mp root : Addr} {i1 i2 : Int} {t1 t2 : Tok} (X : (hd.heap_39 w.params).In s.heap) (hx : s.heap.get? r = some (instObj 121 dx)) (hd' : s.heap.get? dx = some (rowDict i1 i2 t1 t2 root mp)) (h : Q (.ref root) { s with toks := s.toks + 1 }) :
    wpAny (model PG w) A (getAttr (.ref r) (Str.ofString "_OrderedSet__root") expr) Q E s :=
  get_value X (⟨hx, rfl, rfl, hd'⟩ : InstAt s.heap r (instObj 121 dx) 121 (some (rowDict i1 i2 t1 t2 root mp))) (plainGet_of (K := hd.heap_39 w.params) (C := 121) (name := "_OrderedSet__root") (by k_is)).1
    (findObj_own (attr := none) (by k_is) (by k_is) (by k_is) (by rw [lookIn_dict]; k_get)) (by k_handed) h
end

theorem genM {w : World} {A : Around} {s : Shared} {R : Result → Shared → Prop} {f : Addr} {name qual : Str} {params : Arguments} {body : List Stmt} {scope : Scope} {dV kV doc pm cdv ct oc : Value} {an od : Option Addr} {osl : Array (Option Value)}
    {args : Args} {binds : List (Str × Value)} (X : (hd.heap_39 w.params).In s.heap) (hlim : s.heap.NoLimit) (hroom : A.depth < recursionLimit)
    (ho : (hd.heap_39 w.params).lookup f = some ⟨oc, od, .func (fnOf name qual params body scope dV kV doc pm an cdv ct), osl⟩) (hcd : codeIn (hd.heap_39 w.params) cdv qual = true)
    (hbind : BindsTo s (fnOf name qual params body scope dV kV doc pm an cdv ct) args binds) (hloc : ∀ y ∈ binds, scope.names.lookup y.1 = some .local)
    (h : ∀ (h₁ : Heap) nm qn tk, h₁.Ns s.heap.objs.size (fun x => binds.reverse.lookup x) → (∀ b o, s.heap.get? b = some o → h₁.get? b = some o) →
      R (.ok (.ret (.ref h₁.objs.size))) { s with gens := s.gens.push (.fresh (.func body (envOf qual scope s.heap.objs.size f cdv))), toks := tk, heap := h₁.push { cls := .type "generator", data := .fields #[.int s.gens.size 0, nm, qn] } })
    (hco : scope.isCoroutine = false := by rfl) (hgen : scope.isGenerator = true := by rfl) (hk : scope.kind = .function := by rfl)
    (hcell : ∀ x ∈ scope.names, x.2 ≠ .cell := by decide) : codeAny (model PG w) A (.call (.ref f) args) R s := by
  refine codeAny_call_generator (fd := fnOf name qual params body scope dV kV doc pm an cdv ct) (body := body) hroom (X _ _ ho) rfl hco hgen rfl (codeRec_of X hcd) (hbind _ _ _ _ ?_)
  refine wpAny_newFunctionEnv hcell hloc (fun h₁ hns hsb => ⟨hlim.fresh _ hsb, ?_⟩) hk
  exact h h₁ _ _ _ hns (fun b o e => hsb.extBut b o (Nat.ne_of_lt (Heap.lt_size e)) (Heap.get?_push_of_some _ e))
end Mine

namespace Mine
theorem rsGen2 {M : Model} {A : Around} {E : Value → Shared → Prop} {env : Env} {Q : Flow → Shared → Prop} {s : Shared} (h : Q .next s) : wpAny M A (execs [] env) Q E s := by
  w_top off
  walk1
  exact h
end Mine
namespace Mine

structure Mv (L : Addr) (s₀ s₁ : Shared) : Prop where
  keep : ∀ b o, b ≠ L → s₀.heap.get? b = some o → s₁.heap.get? b = some o
  gens : s₁.gens = s₀.gens
  drawn : s₁.drawn = s₀.drawn
  os : s₁.os = s₀.os
  toks : s₀.toks ≤ s₁.toks
theorem Mv.refl (L : Addr) (s : Shared) : Mv L s s := ⟨fun _ _ _ e => e, rfl, rfl, rfl, Nat.le_refl _⟩
theorem Mv.trans {L : Addr} {s₀ s₁ s₂ : Shared} (x : Mv L s₀ s₁) (y : Mv L s₁ s₂) : Mv L s₀ s₂ :=
  ⟨fun b o n e => y.keep b o n (x.keep b o n e), y.gens.trans x.gens, y.drawn.trans x.drawn, y.os.trans x.os, Nat.le_trans x.toks y.toks⟩
theorem Mv.tok {L : Addr} {s₀ s : Shared} (x : Mv L s₀ s) {t : Nat} (h : s.toks ≤ t) : Mv L s₀ { s with toks := t } := ⟨x.keep, x.gens, x.drawn, x.os, Nat.le_trans x.toks h⟩
theorem Mv.same {L : Addr} {s₀ s : Shared} (x : Mv L s₀ s) {h' : Heap} {t : Nat} (hs : Heap.SameBut L s.heap h') (h : s.toks ≤ t) : Mv L s₀ { s with heap := h', toks := t } :=
  ⟨fun b o n e => (hs.2 b n).trans (x.keep b o n e), x.gens, x.drawn, x.os, Nat.le_trans x.toks h⟩

structure Rdy (w : World) (hb : Heap) (R : Rw) (ls : List Lk) (L c : Addr) (h : Heap) : Prop where
  st : hb.StaysIn h
  row : RowAt w hb h R ls
  ns : ∃ m, h.Ns L m ∧ m (Str.ofString "root") = some (.ref R.root) ∧ m (Str.ofString "curr") = some (.ref c)
theorem Rdy.same {w : World} {hb h h' : Heap} {R : Rw} {ls : List Lk} {L c : Addr} (x : Rdy w hb R ls L c h) (hL : L ∉ R.adrs ++ adrs ls) (hbL : hb.get? L = none) (hs : Heap.SameBut L h h') :
    hb.StaysIn h' ∧ RowAt w hb h' R ls :=
  ⟨fun b o e => (hs.2 b (fun q => by rw [q, hbL] at e; cases e)).trans (x.st b o e), x.row.keep fun b hb' o e => (hs.2 b (fun q => hL (q ▸ hb'))).trans e⟩

section
variable {w : World} {hb : Heap} {mg mb : Str → Option Value} {loose : List Str} {mean : ExcName → Option Value} {R : Rw} {ls : List Lk} {L : Addr}

def GP (L : Addr) : Nat → Shared → Shared → Prop := fun n s₀ s₁ => n = 0 ∧ Mv L s₀ s₁
def GR (L : Addr) : GenEnd := fun n s₀ r s₁ => r = .ok (.ret .none) ∧ GP L n s₀ s₁
def GY (w : World) (hb : Heap) (R : Rw) (ls : List Lk) (L : Addr) : Protocol := fun n s₀ v s₁ kap =>
  ∃ A z B, ls = A ++ z :: B ∧ B.length = n ∧ v = .str z.key z.tok ∧ Mv L s₀ s₁ ∧ Rdy w hb R ls L z.a s₁.heap ∧ ∀ s₂ : Shared, Rdy w hb R ls L z.a s₂.heap → kap (.send .none) s₂

theorem ld_local {A : Around} {E : Value → Shared → Prop} {s : Shared} {env : Env} {m : Str → Option Value} {x : Str} {pos : Pos} {v : Value} {Q : Value → Shared → Prop} (hk : env.scope.kind = .function) (hl : env.kindOf x = some .local)
    (hn : s.heap.Ns env.locals m) (hv : m x = some v) (h : Q v s) (hd : (x == ("__debug__" : Str)) = false := by decide) : wpAny (model PG w) A (eval (.Name x pos) env) Q E s :=
  wpAny_Name (wpAny_loadName_local hk hl hn hv h) hd

theorem loop_seg {A₁ : Around} {env : Env} {p1 p2 p3 p4 p5 p6 p7 p8 p9 p10 p11 : Pos} {fs : List Frame} (Z : Bs w hb loose mean mg mb)
    (hk : env.scope.kind = .function) (hloc : env.locals = L) (hr : env.kindOf (Str.ofString "root") = some .local) (hc : env.kindOf (Str.ofString "curr") = some .local) (hco : env.scope.isCoroutine = false)
    (hp : (env.scope.kind == .class || (env.scope.kind == .module && env.locals != env.globals)) = false) (hint : interactive env = false)
    (hL : L ∉ R.adrs ++ adrs ls) (hbL : hb.get? L = none) (hfs : splitAtGen fs = none) (hfg : fs.any Frame.guarded = false)
    (hend : ∀ s₀ s, Mv L s₀ s → Seg (model PG w) A₁ (GR L) (GY w hb R ls L) 0 s₀ (.whileLoop (.Compare (.Name (Str.ofString "curr") p1) [.IsNot] [.Name (Str.ofString "root") p2] p3)
      [.Expr (.Yield (some (.Attribute (.Name (Str.ofString "curr") p4) (Str.ofString "key") p5)) p6) p7, .Assign [.Name (Str.ofString "curr") p8] (.Attribute (.Name (Str.ofString "curr") p9) (Str.ofString "next") p10) p11] [] env) (.pure (.done .next)) fs s) :
    ∀ (B A : List Lk) (s₀ s : Shared), ls = A ++ B → Rdy w hb R ls L (nxt R.root B) s.heap → Mv L s₀ s →
      Seg (model PG w) A₁ (GR L) (GY w hb R ls L) B.length s₀ (.whileLoop (.Compare (.Name (Str.ofString "curr") p1) [.IsNot] [.Name (Str.ofString "root") p2] p3)
        [.Expr (.Yield (some (.Attribute (.Name (Str.ofString "curr") p4) (Str.ofString "key") p5)) p6) p7, .Assign [.Name (Str.ofString "curr") p8] (.Attribute (.Name (Str.ofString "curr") p9) (Str.ofString "next") p10) p11] [] env)
        ((model PG w).den (.whileLoop (.Compare (.Name (Str.ofString "curr") p1) [.IsNot] [.Name (Str.ofString "root") p2] p3)
        [.Expr (.Yield (some (.Attribute (.Name (Str.ofString "curr") p4) (Str.ofString "key") p5)) p6) p7, .Assign [.Name (Str.ofString "curr") p8] (.Attribute (.Name (Str.ofString "curr") p9) (Str.ofString "next") p10) p11] [] env)) fs s := by
  subst hloc
  intro B
  induction B with
  | nil =>
    intro A s₀ s hls rdy mv
    obtain ⟨m, hn, hm1, hm2⟩ := rdy.ns
    refine seg_whileLoop (wpAny_isTrue_Compare1 (ld_local hk hc hn hm2 (ld_local hk hr hn hm1 ?_)))
    refine wpAny_isNot_ref_self (wpAny_truthy_bool ?_)
    exact hend s₀ s mv
  | cons z B ih =>
    intro A s₀ s hls rdy mv
    obtain ⟨m, hn, hm1, hm2⟩ := rdy.ns
    have hch := rdy.row.ch
    rw [hls, chain_append] at hch
    obtain ⟨-, ez, ezd, -⟩ := hch
    refine seg_whileLoop (wpAny_isTrue_Compare1 (ld_local hk hc hn hm2 (ld_local hk hr hn hm1 ?_)))
    have hne : z.a ≠ R.root := fun e => by
      have := rdy.row.nd
      rw [hls, adrs_append] at this
      rw [List.nodup_append] at this
      exact this.2.2 R.root (by simp [Rw.adrs]) z.a (List.mem_append_right _ (by simp [adrs])) e.symm
    refine wpAny_isNot_ref_other hne ez rdy.row.hrt (by intro q; cases q) (wpAny_truthy_bool ?_)
    rw [if_pos rfl]
    refine seg_execs_cons (seg_Expr_Yield hfs rfl hfg ?_ hco hint)
    refine Attribute_any_ (ld_local hk hc hn hm2 (get_key (Z.X.keeps rdy.st) ez ezd ?_))
    intro kap hkap
    refine ⟨A, z, B, hls, rfl, rfl, mv.tok (Nat.le_succ _), ⟨rdy.st, rdy.row, m, hn, hm1, hm2⟩, fun s₂ rdy₂ => hkap _ _ ?_⟩
    dsimp only
    obtain ⟨m₂, hn₂, hm21, hm22⟩ := rdy₂.ns
    have hch := rdy₂.row.ch
    rw [hls, chain_append] at hch
    obtain ⟨-, ez2, ezd2, -⟩ := hch
    refine seg_execs_cons (seg_wrap (wpAny_Assign_Name (Attribute_any_ (ld_local hk hc hn₂ hm22 (get_next (Z.X.keeps rdy₂.st) ez2 ezd2 ?_)))))
    refine wpAny_storeName_local hc hn₂ (fun h' hn' hs' => ?_) hp
    dsimp only
    refine seg_execs_nil (seg_again rfl ?_)
    obtain ⟨q1, q2⟩ := rdy₂.same hL hbL hs'
    refine ih (A ++ [z]) s₂ _ (by rw [hls]; simp) ⟨q1, q2, _, hn', ?_, ?_⟩ ((Mv.refl _ s₂).same hs' (Nat.le_trans (Nat.le_succ _) (Nat.le_succ _)))
    · rw [if_neg (by decide)]; exact hm21
    · simp
end
end Mine

namespace Mine
theorem rsGen3 {M : Model} {A : Around} {E : Value → Shared → Prop} {env : Env} {Q : Flow → Shared → Prop} {s : Shared} (h : Q .next s) : wpAny M A (execs [] env) Q E s := by
  w_top off
  walk1
  exact h
end Mine
namespace Mine

section
variable {w : World} {A : Around} {E : Value → Shared → Prop} {s : Shared} {a : Addr} {g n : Nat} {gs : GenState} {P : Nat → Shared → Shared → Prop} {Y : Protocol}

theorem next_gen {Q : Option Value → Shared → Prop} (hh : A.handled = none) (hl : s.heap.NoLimit) (hroom : A.depth < recursionLimit)
    (hg : s.heap.IsGen a g) (hgs : s.gens[g]? = some gs)
    (hgo : gs.Goes (model PG w) A.in1 (fun n s₀ r s₁ => r = .ok (.ret .none) ∧ P n s₀ s₁) Y n (.send .none) (s.setGen g .running))
    (hY : ∀ v s₁ gs', gs'.bare = true → Y (n - 1) (s.setGen g .running) v s₁ (fun r' s'' => match n with
        | 0 => False
        | m + 1 => gs'.Goes (model PG w) A.in1 (fun n s₀ r s₁ => r = .ok (.ret .none) ∧ P n s₀ s₁) Y m r' s'') → Q (some v) (s₁.setGen g gs'))
    (hP : ∀ s₁, P n (s.setGen g .running) s₁ → ∀ h', (∀ b o, s₁.heap.get? b = some o → h'.get? b = some o) → Q none { s₁.setGen g .finished with heap := h' }) :
    wpAny (model PG w) A (pyNext (.ref a)) Q E s := by
  unfold pyNext
  refine wpAny_bind (wpAny_attempt (wpAny_callSpecial?_slot (name := Str.ofString "__next__") hg.typeIs slot_gen_next
    (wpAny_call_entry slot_gen_next hg.typeIs entry_gen_next ?_ (args_gen_next _))))
  show wpAny _ A.in1 (Builtin.Generator.genWake (.ref a) (.send .none)) _ _ s
  unfold Builtin.Generator.genWake
  refine wpAny_bind (wpAny_holding (wpAny_genNumber hg (wpAny_bind (wpAny_genState hgs ?_))))
  cases gs with
  | running => exact hgo.elim
  | finished => exact hgo.elim
  | _ =>
    refine wpAny_bind (wpAny_roomToWake hl hroom ?_)
    show wpAny _ A.in1 (.resume g (.send .none) [] _) _ _ s
    refine wpAny_resumeQ hgs hgo (fun x s₁ hx => ?_) (fun v s₁ gs' hb hv => ?_)
    · obtain ⟨rfl, hp⟩ := hx
      show wpAny _ A.in1 (newExc (.type "StopIteration") [] >>= _) _ _ _
      refine wpAny_bind ?_
      simp only [newExc, newTuple]
      refine wpAny_bind (wpAny_newObj_type ?_ (by size_fits))
      refine wpAny_bind (m := firstArgMember _ _) (wpAny_of_eq (a := Value.none) (by first | rfl | (simp only [firstArgMember]; rfl)) ?_)
      refine wpAny_newObj_type ?_ (by size_fits)
      simp only [raiseNew]
      refine wpAny_bind (wpAny_bind (wpAny_handled ?_))
      first | rw [show A.in1.handled = none from hh] | rw [hh]
      refine wpAny_throw ?_
      refine wpAny_bind (wpAny_isInstance (T := "StopIteration") (b := true) ⟨_, Heap.get?_push_size _ rfl, rfl⟩ isSubtype_stop ?_)
      exact wpAny_pure (hP s₁ hp _ fun b o hb => Heap.get?_push_of_some _ (Heap.get?_push_of_some _ hb))
    · exact wpAny_pure ⟨v, rfl, wpAny_pure (hY v s₁ gs' hb hv)⟩

theorem call_next_gen {Q : Value → Shared → Prop} (hl : s.heap.NoLimit) (hroom : A.depth < recursionLimit)
    (hg : s.heap.IsGen a g) (hgs : s.gens[g]? = some gs)
    (hgo : gs.Goes (model PG w) A.in1.in1 (fun n s₀ r s₁ => r = .ok (.ret .none) ∧ P n s₀ s₁) Y n (.send .none) (s.setGen g .running))
    (hY : ∀ v s₁ gs', gs'.bare = true → Y (n - 1) (s.setGen g .running) v s₁ (fun r' s'' => match n with
        | 0 => False
        | m + 1 => gs'.Goes (model PG w) A.in1.in1 (fun n s₀ r s₁ => r = .ok (.ret .none) ∧ P n s₀ s₁) Y m r' s'') → Q v (s₁.setGen g gs'))
    (hP : ∀ s₁, ¬ P n (s.setGen g .running) s₁) :
    wpAny (model PG w) A (call (.builtin "next") [.ref a]) Q E s := by
  refine call_function_entry (by decide +kernel) (by decide +kernel) kdk_entry_next (kdk_args_next _) ?_
  unfold Builtin.«next»
  refine wpAny_bind (m := someArgs "next" 1 2 _) (wpAny_of_eq (a := [Value.ref a]) (by first | rfl | kernel_rfl!) ?_)
  dsimp only
  refine wpAny_bind (wpAny_specialOf (name := Str.ofString "__next__") hg.typeIs slot_gen_next.lookup ?_)
  refine wpAny_ite_split (fun hab => absurd hab (by decide)) (fun _ => ?_)
  refine wpAny_bind (wpAny_callSpecial?_slot (name := Str.ofString "__next__") hg.typeIs slot_gen_next
    (wpAny_call_entry slot_gen_next hg.typeIs entry_gen_next ?_ (args_gen_next _)))
  show wpAny _ A.in1.in1 (Builtin.Generator.genWake (.ref a) (.send .none)) _ _ s
  unfold Builtin.Generator.genWake
  refine wpAny_bind (wpAny_holding (wpAny_genNumber hg (wpAny_bind (wpAny_genState hgs ?_))))
  cases gs with
  | running => exact hgo.elim
  | finished => exact hgo.elim
  | _ =>
    refine wpAny_bind (wpAny_roomToWake hl hroom ?_)
    show wpAny _ A.in1.in1 (.resume g (.send .none) [] _) _ _ s
    refine wpAny_resumeQ hgs hgo (fun x s₁ hx => absurd hx.2 (hP s₁)) (fun v s₁ gs' hb hv => ?_)
    exact wpAny_pure ⟨v, rfl, wpAny_pure ⟨_, rfl, hY v s₁ gs' hb hv⟩⟩
end
end Mine

namespace Mine
theorem rsGen4 {M : Model} {A : Around} {E : Value → Shared → Prop} {env : Env} {Q : Flow → Shared → Prop} {s : Shared} (h : Q .next s) : wpAny M A (execs [] env) Q E s := by
  w_top off
  walk1
  exact h
end Mine
namespace Mine

section
variable {w : World} {hb : Heap} {mg mb : Str → Option Value} {loose : List Str} {mean : ExcName → Option Value} {R : Rw} {ls : List Lk} {L : Addr}

theorem pre_seg {A₁ : Around} {RE : GenEnd} {Y : Protocol} {n : Nat} {s₀ s : Shared} {env : Env} {nm : Str} {c : Addr} {test : Expr} {wbody : List Stmt} {q1 q2 q3 q4 q5 q6 q7 q8 q9 : Pos} (Z : Bs w hb loose mean mg mb)
    (hk : env.scope.kind = .function) (hloc : env.locals = L) (hsf : env.kindOf (Str.ofString "self") = some .local) (hr : env.kindOf (Str.ofString "root") = some .local) (hc : env.kindOf (Str.ofString "curr") = some .local)
    (hp : (env.scope.kind == .class || (env.scope.kind == .module && env.locals != env.globals)) = false)
    (hL : L ∉ R.adrs ++ adrs ls) (hbL : hb.get? L = none)
    (hst : hb.StaysIn s.heap) (row : RowAt w hb s.heap R ls) (hns : ∃ m, s.heap.Ns L m ∧ m (Str.ofString "self") = some (.ref R.r))
    (hget : ∀ (A' : Around) (E' : Value → Shared → Prop) (s' : Shared) (Q' : Value → Shared → Prop), hb.StaysIn s'.heap → RowAt w hb s'.heap R ls → Q' (.ref c) { s' with toks := s'.toks + 1 } → wpAny (model PG w) A' (getAttr (.ref R.root) nm true) Q' E' s')
    (h : ∀ fs s', splitAtGen fs = none → fs.any Frame.guarded = false →
      (∀ n' s₀' s₁, RE n' s₀' (.ok (.ret .none)) s₁ → Seg (model PG w) A₁ RE Y n' s₀' (.whileLoop test wbody [] env) (.pure (.done .next)) fs s₁) →
      Rdy w hb R ls L c s'.heap → Mv L s s' → Seg (model PG w) A₁ RE Y n s₀ (.whileLoop test wbody [] env) ((model PG w).den (.whileLoop test wbody [] env)) fs s') :
    Seg (model PG w) A₁ RE Y n s₀ (.func [.Assign [.Name (Str.ofString "root") q1] (.Attribute (.Name (Str.ofString "self") q2) (Str.ofString "_OrderedSet__root") q3) q4,
        .Assign [.Name (Str.ofString "curr") q5] (.Attribute (.Name (Str.ofString "root") q6) nm q7) q8, .While test wbody [] q9] env)
      ((model PG w).den (.func [.Assign [.Name (Str.ofString "root") q1] (.Attribute (.Name (Str.ofString "self") q2) (Str.ofString "_OrderedSet__root") q3) q4,
        .Assign [.Name (Str.ofString "curr") q5] (.Attribute (.Name (Str.ofString "root") q6) nm q7) q8, .While test wbody [] q9] env)) [] s := by
  subst hloc
  obtain ⟨m, hn, hm⟩ := hns
  refine seg_func (seg_execs_cons (seg_wrap (wpAny_Assign_Name (Attribute_any_ (ld_local hk hsf hn hm (get_root (Z.X.keeps hst) row.hr row.hdx ?_))))))
  refine wpAny_storeName_local hr hn (fun h1 hn1 hs1 => ?_) hp
  dsimp only
  have st1 : hb.StaysIn h1 := fun b o e => (hs1.2 b (fun q => by rw [q, hbL] at e; cases e)).trans (hst b o e)
  have row1 : RowAt w hb h1 R ls := row.keep fun b hb' o e => (hs1.2 b (fun q => hL (q ▸ hb'))).trans e
  refine seg_execs_cons (seg_wrap (wpAny_Assign_Name (Attribute_any_ (ld_local hk hr hn1 (by simp) (hget _ _ _ _ st1 row1 ?_)))))
  refine wpAny_storeName_local hc hn1 (fun h2 hn2 hs2 => ?_) hp
  dsimp only
  have st2 : hb.StaysIn h2 := fun b o e => (hs2.2 b (fun q => by rw [q, hbL] at e; cases e)).trans (st1 b o e)
  have row2 : RowAt w hb h2 R ls := row1.keep fun b hb' o e => (hs2.2 b (fun q => hL (q ▸ hb'))).trans e
  refine seg_execs_cons (seg_While fun p => h _ _ rfl rfl (fun n' s₀' s₁ hR => ?_) ⟨st2, row2, _, hn2, ?_, ?_⟩ ?_)
  · exact seg_leaf (.ok .next) (seg_end (.ok (.ret .none)) hR)
  · rw [if_neg (by decide)]; simp
  · simp
  · exact (((Mv.refl _ s).tok (Nat.le_succ _)).same hs1 (Nat.le_succ _)).same hs2 (by simp)

theorem rootObj {h : Heap} (row : RowAt w hb h R ls) : h.get? R.root = some (node R.rd none (nxt R.root ls) (lst R.root ls)) := row.hrt

def GenGo (w : World) (A₁ : Around) (hb : Heap) (R : Rw) (ls : List Lk) (L : Addr) (n : Nat) (gs : GenState) (ok : Heap → Prop) : Prop :=
  ∀ s : Shared, ok s.heap → gs.Goes (model PG w) A₁ (GR L) (GY w hb R ls L) n (.send .none) s
def OkF (w : World) (hb : Heap) (R : Rw) (ls : List Lk) (L : Addr) (h : Heap) : Prop := hb.StaysIn h ∧ RowAt w hb h R ls ∧ ∃ m, h.Ns L m ∧ m (Str.ofString "self") = some (.ref R.r)

def GY1 (v₀ : Value) (L : Addr) : Protocol := fun n s₀ v s₁ kap => v = v₀ ∧ Mv L s₀ s₁
def Gone (w : World) (A₁ : Around) (hb : Heap) (R : Rw) (ls : List Lk) (L : Addr) (v₀ : Value) (gs : GenState) : Prop :=
  ∀ s : Shared, OkF w hb R ls L s.heap → gs.Goes (model PG w) A₁ (GR L) (GY1 v₀ L) 1 (.send .none) s

theorem iter_new {A : Around} {s : Shared} {P : Result → Shared → Prop}
    (Z : Bs w hb loose mean mg mb) (hst : hb.StaysIn s.heap) (hroom : A.depth < recursionLimit) (row : RowAt w hb s.heap R ls)
    (h : ∀ (h₁ : Heap) nm qn tk L gs, (∀ b o, s.heap.get? b = some o → h₁.get? b = some o) → s.heap.get? L = none → OkF w hb R ls L h₁ → L ≠ h₁.objs.size → gs.bare = true →
      (∀ A₁, GenGo w A₁ hb R ls L ls.length gs (OkF w hb R ls L)) → (∀ A₁ z B, ls = z :: B → Gone w A₁ hb R ls L (.str z.key z.tok) gs) →
      P (.ok (.ret (.ref h₁.objs.size))) { s with gens := s.gens.push gs, toks := tk, heap := h₁.push { cls := .type "generator", data := .fields #[.int s.gens.size 0, nm, qn] } }) :
    codeAny (model PG w) A (.call (.ref 82) ⟨[.ref R.r], []⟩) P s := by
  refine genM (Z.X.keeps hst) (Z.T.nolimit.keeps hst) hroom (by k_is) (by k_is) (BindsTo.of_eq rfl) (locs rfl) ?_
  intro h₁ nm qn tk hns hk
  have hL0 : s.heap.get? s.heap.objs.size = none := Heap.get?_none_of_le (Nat.le_refl _)
  have hLr : s.heap.objs.size ∉ R.adrs ++ adrs ls := fun q => by obtain ⟨o, e⟩ := row.alive _ q; rw [hL0] at e; cases e
  have hbL : hb.get? s.heap.objs.size = none := by
    cases q : hb.get? s.heap.objs.size with
    | none => rfl
    | some o => rw [hst _ _ q] at hL0; cases hL0
  have ok1 : OkF w hb R ls s.heap.objs.size h₁ := ⟨fun b o e => hk b o (hst b o e), row.keep fun b _ o e => hk b o e, _, hns, rfl⟩
  refine h h₁ nm qn tk s.heap.objs.size _ hk hL0 ok1 (Nat.ne_of_lt hns.lt) rfl ?_ ?_
  · intro A₁ s₁ ⟨st, rw1, hm⟩
    refine ⟨rfl, pre_seg Z rfl rfl rfl rfl rfl rfl hLr hbL st rw1 hm (c := nxt R.root ls) (fun A' E' s' Q' st' row' hq => get_next (Z.X.keeps st') row'.hrt row'.hrd hq) ?_⟩
    intro fs s' hfs hfg hend rdy mv
    exact loop_seg Z rfl rfl rfl rfl rfl rfl rfl hLr hbL hfs hfg (fun s₀ s₂ mv2 => hend 0 s₀ s₂ ⟨rfl, rfl, mv2⟩) ls [] s₁ s' rfl rdy mv
  · intro A₁ z B hls s₁ ⟨st, rw1, hm⟩
    refine ⟨rfl, pre_seg Z rfl rfl rfl rfl rfl rfl hLr hbL st rw1 hm (c := nxt R.root ls) (fun A' E' s' Q' st' row' hq => get_next (Z.X.keeps st') row'.hrt row'.hrd hq) ?_⟩
    intro fs s' hfs hfg hend rdy mv
    obtain ⟨m, hn, hm1, hm2⟩ := rdy.ns
    subst hls
    obtain ⟨ez, ezd, -⟩ := rdy.row.ch
    have hne : z.a ≠ R.root := fun e => by
      have := rdy.row.nd
      rw [List.nodup_append] at this
      exact this.2.2 R.root (by simp [Rw.adrs]) z.a (by simp [adrs]) e.symm
    refine seg_whileLoop (wpAny_isTrue_Compare1 (ld_local rfl rfl hn hm2 (ld_local rfl rfl hn hm1 ?_)))
    refine wpAny_isNot_ref_other hne ez rdy.row.hrt (by intro q; cases q) (wpAny_truthy_bool ?_)
    rw [if_pos rfl]
    refine seg_execs_cons (seg_Expr_Yield hfs rfl hfg ?_ rfl rfl)
    refine Attribute_any_ (ld_local rfl rfl hn hm2 (get_key (Z.X.keeps rdy.st) ez ezd ?_))
    intro kap hkap
    exact ⟨rfl, mv.tok (Nat.le_succ _)⟩

theorem rev_new {A : Around} {s : Shared} {P : Result → Shared → Prop} {A₂ : List Lk} {z : Lk}
    (Z : Bs w hb loose mean mg mb) (hst : hb.StaysIn s.heap) (hroom : A.depth < recursionLimit) (row : RowAt w hb s.heap R (A₂ ++ [z]))
    (h : ∀ (h₁ : Heap) nm qn tk L gs, (∀ b o, s.heap.get? b = some o → h₁.get? b = some o) → s.heap.get? L = none → OkF w hb R (A₂ ++ [z]) L h₁ → L ≠ h₁.objs.size → gs.bare = true →
      (∀ A₁, Gone w A₁ hb R (A₂ ++ [z]) L (.str z.key z.tok) gs) →
      P (.ok (.ret (.ref h₁.objs.size))) { s with gens := s.gens.push gs, toks := tk, heap := h₁.push { cls := .type "generator", data := .fields #[.int s.gens.size 0, nm, qn] } }) :
    codeAny (model PG w) A (.call (.ref 89) ⟨[.ref R.r], []⟩) P s := by
  refine genM (Z.X.keeps hst) (Z.T.nolimit.keeps hst) hroom (by k_is) (by k_is) (BindsTo.of_eq rfl) (locs rfl) ?_
  intro h₁ nm qn tk hns hk
  have hL0 : s.heap.get? s.heap.objs.size = none := Heap.get?_none_of_le (Nat.le_refl _)
  have hLr : s.heap.objs.size ∉ R.adrs ++ adrs (A₂ ++ [z]) := fun q => by obtain ⟨o, e⟩ := row.alive _ q; rw [hL0] at e; cases e
  have hbL : hb.get? s.heap.objs.size = none := by
    cases q : hb.get? s.heap.objs.size with
    | none => rfl
    | some o => rw [hst _ _ q] at hL0; cases hL0
  have ok1 : OkF w hb R (A₂ ++ [z]) s.heap.objs.size h₁ := ⟨fun b o e => hk b o (hst b o e), row.keep fun b _ o e => hk b o e, _, hns, rfl⟩
  refine h h₁ nm qn tk s.heap.objs.size _ hk hL0 ok1 (Nat.ne_of_lt hns.lt) rfl ?_
  intro A₁ s₁ ⟨st, rw1, hm⟩
  refine ⟨rfl, pre_seg Z rfl rfl rfl rfl rfl rfl hLr hbL st rw1 hm (c := lst R.root (A₂ ++ [z])) (fun A' E' s' Q' st' row' hq => get_prev (Z.X.keeps st') row'.hrt row'.hrd hq) ?_⟩
  intro fs s' hfs hfg hend rdy mv
  obtain ⟨m, hn, hm1, hm2⟩ := rdy.ns
  have hch := rdy.row.ch
  rw [chain_append] at hch
  obtain ⟨-, ez, ezd, -⟩ := hch
  have hl1 : lst R.root (A₂ ++ [z]) = z.a := by rw [lst_append]; rfl
  rw [hl1] at hm2
  have hne : z.a ≠ R.root := fun e => by
    have := rdy.row.nd
    rw [List.nodup_append] at this
    exact this.2.2 R.root (by simp [Rw.adrs]) z.a (by simp [adrs]) e.symm
  refine seg_whileLoop (wpAny_isTrue_Compare1 (ld_local rfl rfl hn hm2 (ld_local rfl rfl hn hm1 ?_)))
  refine wpAny_isNot_ref_other hne ez rdy.row.hrt (by intro q; cases q) (wpAny_truthy_bool ?_)
  rw [if_pos rfl]
  refine seg_execs_cons (seg_Expr_Yield hfs rfl hfg ?_ rfl rfl)
  refine Attribute_any_ (ld_local rfl rfl hn hm2 (get_key (Z.X.keeps rdy.st) ez ezd ?_))
  intro kap hkap
  exact ⟨rfl, mv.tok (Nat.le_succ _)⟩
end
end Mine

namespace Mine
theorem rsOps {M : Model} {A : Around} {E : Value → Shared → Prop} {env : Env} {Q : Flow → Shared → Prop} {s : Shared} (h : Q .next s) : wpAny M A (execs [] env) Q E s := by
  w_top off
  walk1
  exact h
end Mine
namespace Mine

theorem fr_off {h₀ h h' : Heap} {L : Addr} {m : Str → Option Value} {as : List Addr} (F : Fr h₀ L h m) (k : ∀ b o, b ∉ as → h.get? b = some o → h'.get? b = some o) (ha : ∀ b ∈ as, h₀.get? b = none) (hL : L ∉ as) : Fr h₀ L h' m := by
  obtain ⟨⟨oL, a1, a2, e, r⟩, kp, ab⟩ := F
  exact ⟨⟨oL, a1, a2, k _ _ hL e, r⟩, fun b o e => k b o (fun q => by rw [ha b q] at e; cases e) (kp b o e), ab⟩
theorem fr_keep {h₀ h h' : Heap} {L : Addr} {m : Str → Option Value} (F : Fr h₀ L h m) (k : ∀ b o, h.get? b = some o → h'.get? b = some o) : Fr h₀ L h' m :=
  fr_off (as := []) F (fun b o _ e => k b o e) (fun b hb => (nomatch hb)) List.not_mem_nil

section
variable {w : World} {dp un : Nat} {fr : Option (List Env)} {gd : Option (List Code)} {s : Shared} {hb h₀ : Heap} {L : Addr} {m : Str → Option Value} {E : Value → Shared → Prop} {mg mb : Str → Option Value} {loose : List Str} {mean : ExcName → Option Value} {R : Rw} {ls : List Lk}

theorem rowInst {h : Heap} (row : RowAt w hb h R ls) : InstAt h R.r (instObj 121 R.dx) 121 (some (rowDict R.i1 R.i2 R.t1 R.t2 R.root R.mp)) := ⟨row.hr, rfl, rfl, row.hdx⟩
theorem rowList (row : RowAt w hb s.heap R ls) {omp : Obj} (hm : s.heap.get? R.mp = some omp) : ∀ p ∈ [(R.r, instObj 121 R.dx), (R.dx, rowDict R.i1 R.i2 R.t1 R.t2 R.root R.mp), (R.mp, omp)], s.heap.get? p.1 = some p.2 ∧ hb.get? p.1 = none := by
  have nw := row.new
  (repeat' (first | exact List.forall_mem_nil _ | refine List.forall_mem_cons.mpr ⟨⟨?_, nw _ (by simp [Rw.adrs])⟩, ?_⟩))
  · exact row.hr
  · exact row.hdx
  · exact hm

theorem notin_row {k : Str} {t : Tok} {Q : Value → Shared → Prop} (Z : Bs w hb loose mean mg mb) (hst : hb.StaysIn s.heap) (hroom : dp + 5 < recursionLimit) (row : RowAt w hb s.heap R ls) (F : Fr h₀ L s.heap m) (X₀ : (hd.heap_39 w.params).In h₀)
    (h : ∀ h' tk', (∀ b o, s.heap.get? b = some o → h'.get? b = some o) → Q (.bool (!decide (k ∈ ls.map (·.key)))) { s with heap := h', toks := tk' }) :
    wpAny (model PG w) ⟨none, dp, fr, gd, un⟩ (compareOp .NotIn (.str k t) (.ref R.r)) Q E s := by
  obtain ⟨omp, hm, hom⟩ := row.hmp
  refine notIn_K F X₀ (rowInst row) (f := 61) (by k_is) (by k_is) (wpAny_call ?_)
  refine has_spec Z hst hroom (rowList row hm) hom row.lo (fun h' tk' hk => ?_)
  refine wpAny_truthy_bool ?_
  have := h h' tk' hk
  rw [← mapOf_has] at this
  exact this

theorem truthy_row {Q : Bool → Shared → Prop} (Z : Bs w hb loose mean mg mb) (hst : hb.StaysIn s.heap) (hroom : dp + 5 < recursionLimit) (row : RowAt w hb s.heap R ls) (hlen : ls.length ≤ 1000)
    (h : ∀ h' tk', (∀ b o, s.heap.get? b = some o → h'.get? b = some o) → Q (!ls.isEmpty) { s with heap := h', toks := tk' }) :
    wpAny (model PG w) ⟨none, dp, fr, gd, un⟩ (truthy (.ref R.r)) Q E s := by
  obtain ⟨omp, hm, hom⟩ := row.hmp
  have X := Z.X.keeps hst
  have I := rowInst row
  unfold truthy
  refine wpAny_bind (m := callSpecial? (.ref R.r) (Str.ofString "__bool__")) (wpAny_bind (wpAny_bind (I.type.here ((looks_findIn (name := "__bool__") (r := none) X (by k_is)).here (wpAny_pure ?_)))))
  refine wpAny_bind (wpAny_bind (I.type.here ((looks_findIn (name := "__len__") (r := some (.ref 54)) X (by k_is)).here ?_)))
  show wpAny _ _ (runValue (.builtin "len" ⟨[.ref R.r], []⟩) >>= _) _ _ _
  refine wpAny_bind (wpAny_runValue (codeAny_builtin entry_len ?_))
  unfold Builtin.«len»
  refine wpAny_bind (m := oneArg "len" _) (wpAny_pure ?_)
  refine wpAny_bind (m := callSpecial? (.ref R.r) (Str.ofString "__len__")) (special_fn (f := 54) X I (by k_is) (by k_is) (wpAny_call ?_))
  refine len_spec Z hst hroom (rowList row hm) hom row.lo (by simp [mapOf]; omega) (fun h' tk' t' hk => ?_)
  refine wpAny_bind (wpAny_holding (wpAny_pure ?_))
  refine wpAny_bind (wpAny_letGo ?_)
  show wpAny _ _ (if ((mapOf ls).length : Int) < 0 then _ else _) _ _ _
  rw [if_neg (by omega)]
  show wpAny _ _ (if ((mapOf ls).length : Int) ≥ 2 ^ 63 then _ else _) _ _ _
  rw [if_neg (by simp [mapOf]; omega)]
  refine wpAny_bind (wpAny_mkInt (wpAny_pure ?_))
  refine wpAny_pure ?_
  have e : (((mapOf ls).length : Int) != 0) = !ls.isEmpty := by cases ls <;> simp [mapOf]; omega
  rw [e]
  exact h _ _ hk

theorem len_row {Q : Value → Shared → Prop} (Z : Bs w hb loose mean mg mb) (hst : hb.StaysIn s.heap) (hroom : dp + 5 < recursionLimit) (row : RowAt w hb s.heap R ls) (hlen : ls.length ≤ 1000)
    (h : ∀ h' tk' t', (∀ b o, s.heap.get? b = some o → h'.get? b = some o) → Q (.int ls.length t') { s with heap := h', toks := tk' }) :
    wpAny (model PG w) ⟨none, dp, fr, gd, un⟩ (call (.builtin "len") [.ref R.r]) Q E s := by
  obtain ⟨omp, hm, hom⟩ := row.hmp
  have X := Z.X.keeps hst
  have I := rowInst row
  refine Calls.call_function_entry kind_len plain_len entry_len (args_len1 _) ?_
  unfold Builtin.«len»
  refine wpAny_bind (m := oneArg "len" _) (wpAny_pure ?_)
  refine wpAny_bind (m := callSpecial? (.ref R.r) (Str.ofString "__len__")) (special_fn (f := 54) X I (by k_is) (by k_is) (wpAny_call ?_))
  refine len_spec Z hst hroom (rowList row hm) hom row.lo (by simp [mapOf]; omega) (fun h' tk' t' hk => ?_)
  refine wpAny_bind (wpAny_holding (wpAny_pure ?_))
  refine wpAny_bind (wpAny_letGo ?_)
  show wpAny _ _ (if ((mapOf ls).length : Int) < 0 then _ else _) _ _ _
  rw [if_neg (by omega)]
  show wpAny _ _ (if ((mapOf ls).length : Int) ≥ 2 ^ 63 then _ else _) _ _ _
  rw [if_neg (by simp [mapOf]; omega)]
  refine wpAny_bind (wpAny_mkInt (wpAny_pure ⟨_, rfl, ?_⟩))
  have e : ((mapOf ls).length : Int) = ls.length := by simp [mapOf]
  rw [e]
  exact h _ _ _ hk
end
end Mine

namespace Mine
theorem rsOps2 {M : Model} {A : Around} {E : Value → Shared → Prop} {env : Env} {Q : Flow → Shared → Prop} {s : Shared} (h : Q .next s) : wpAny M A (execs [] env) Q E s := by
  w_top off
  walk1
  exact h
end Mine
namespace Mine
theorem sub_gen_reversed : isSubtype (.type "generator") (.type "reversed") = pure false := by rw [isSubtype_type]; kernel_rfl

section
variable {w : World} {A : Around} {s : Shared} {hb h₀ : Heap} {L : Addr} {m : Str → Option Value} {E : Value → Shared → Prop} {mg mb : Str → Option Value} {loose : List Str} {mean : ExcName → Option Value} {R : Rw} {ls : List Lk}

theorem code_rev {Q₁ : Value → Shared → Prop} (hst : hb.StaysIn s.heap) (Z : Bs w hb loose mean mg mb) (row : RowAt w hb s.heap R ls)
    (h : ∀ A', A'.depth = A.depth → codeAny (model PG w) A' (.call (.ref 89) ⟨[.ref R.r], []⟩) (fun r s' => match r with | .ok (.ret v) => Q₁ v s' | .ok _ => False | .error e => E e s') s) :
    codeAny (model PG w) A (.call (.builtin "reversed.__new__") ⟨[.type "reversed", .ref R.r], []⟩) (wants Q₁ E) s := by
  have X := Z.X.keeps hst
  have I := rowInst row
  refine codeAny_of_tree ?_
  show wpAny _ A.in1 (do checkBuiltinCall "reversed.__new__" ⟨[.type "reversed", .ref R.r], []⟩; again (.builtin "reversed.__new__" ⟨[.type "reversed", .ref R.r], []⟩)) _ _ s
  refine wpAny_bind (wpAny_of_eq (PySem.F.newCall_reversed_1 _) (wpAny_pure ⟨plainId_quiet PySem.F.plain_reversed_new _, codeAny_builtin PySem.F.entry_reversed_new ?_⟩))
  rw [Around.under_plainId PySem.F.plain_reversed_new _]
  unfold Builtin.«reversed.__new__»
  refine wpAny_bind (wpAny_of_eq (newClass_reversed _) ?_)
  try dsimp only
  refine wpAny_bind (wpAny_of_eq (a := ()) (by first | rfl | kernel_rfl) ?_)
  refine wpAny_bind (wpAny_of_eq (a := ()) (by first | rfl | kernel_rfl) ?_)
  try dsimp only
  refine wpAny_bind (wpAny_bind (I.type.here ((looks_findIn (name := "__reversed__") (r := some (.ref 89)) X (by k_is)).here ?_)))
  try dsimp only
  refine wpAny_bind ((bind_fn X (f := 89) (.ref R.r) (by k_is)).here ?_)
  try dsimp only
  rw [if_neg (show ¬ ((Value.ref 89 == Value.none) = true) from Bool.false_ne_true)]
  refine wpAny_bind (wpAny_rule ?_)
  refine wpAny_bind (m := runValue (.call (.ref 89) ⟨[.ref R.r], []⟩)) (show wpAny _ _ (call (.ref 89) [.ref R.r]) _ _ _ from wpAny_call ?_)
  refine codeAny_mono (h _ (by rfl)) fun r s' z => ?_
  rcases r with e | (v | _ | _ | _) <;> first | exact z | exact z.elim | skip
  first
  | exact wpAny_pure z
  | exact wpAny_bind (wpAny_pure (wpAny_pure z))

theorem call_rev {Q : Value → Shared → Prop} {A₂ : List Lk} {z : Lk} (Z : Bs w hb loose mean mg mb) (hst : hb.StaysIn s.heap) (hroom : A.depth < recursionLimit) (row : RowAt w hb s.heap R (A₂ ++ [z]))
    (h : ∀ (h₁ : Heap) nm qn tk L gs, (∀ b o, s.heap.get? b = some o → h₁.get? b = some o) → s.heap.get? L = none → OkF w hb R (A₂ ++ [z]) L h₁ → L ≠ h₁.objs.size → gs.bare = true →
      (∀ A₁, Gone w A₁ hb R (A₂ ++ [z]) L (.str z.key z.tok) gs) →
      Q (.ref h₁.objs.size) { s with gens := s.gens.push gs, toks := tk, heap := h₁.push { cls := .type "generator", data := .fields #[.int s.gens.size 0, nm, qn] } }) :
    wpAny (model PG w) A (call (.type "reversed") [.ref R.r]) Q E s := by
  refine callType_other (U := "generator") (Q₁ := fun obj s₁ => s₁.TypeIs obj "generator" ∧ Q obj s₁) (by decide +kernel) PySem.F.create_reversed ⟨_, _, PySem.F.mro_reversed⟩ PySem.F.made_reversed sub_gen_reversed (PySem.F.typeCall_reversed_1 _)
    (code_rev hst Z row fun A' hA' => rev_new Z hst (by rw [hA']; exact hroom) row ?_) (fun obj s₁ x => x)
  intro h₁ nm qn tk L gs k1 l1 l2 l3 l4 l5
  exact ⟨⟨_, Heap.get?_push_size _ rfl, rfl⟩, h h₁ nm qn tk L gs k1 l1 l2 l3 l4 l5⟩

theorem pyIter_row {Q : Value → Shared → Prop} (Z : Bs w hb loose mean mg mb) (hst : hb.StaysIn s.heap) (hroom : A.depth < recursionLimit) (row : RowAt w hb s.heap R ls) (F : Fr h₀ L s.heap m) (X₀ : (hd.heap_39 w.params).In h₀)
    (h : ∀ (h₁ : Heap) nm qn tk L gs, (∀ b o, s.heap.get? b = some o → h₁.get? b = some o) → s.heap.get? L = none → OkF w hb R ls L h₁ → L ≠ h₁.objs.size → gs.bare = true →
      (∀ A₁, GenGo w A₁ hb R ls L ls.length gs (OkF w hb R ls L)) → (∀ A₁ z B, ls = z :: B → Gone w A₁ hb R ls L (.str z.key z.tok) gs) →
      Q (.ref h₁.objs.size) { s with gens := s.gens.push gs, toks := tk, heap := h₁.push { cls := .type "generator", data := .fields #[.int s.gens.size 0, nm, qn] } }) :
    wpAny (model PG w) A (pyIter (.ref R.r)) Q E s := by
  refine owit_iter F X₀ (rowInst row) (f := 82) (by k_is) (by k_is) (wpAny_call (iter_new Z hst (show (A.mark none).depth < _ from hroom) row ?_))
  intro h₁ nm qn tk L gs k1 l1 l2 l3 l4 l5 l6
  show wpAny _ _ _ _ _ _
  refine wpAny_specialOf (name := Str.ofString "__next__") (T := "generator") ?t slot_gen_next.lookup ?_
  case t => exact ⟨_, Heap.get?_push_size _ rfl, rfl⟩
  exact h h₁ nm qn tk L gs k1 l1 l2 l3 l4 l5 l6

theorem call_iter {Q : Value → Shared → Prop} (Z : Bs w hb loose mean mg mb) (hst : hb.StaysIn s.heap) (hroom : A.depth < recursionLimit) (row : RowAt w hb s.heap R ls) (F : Fr h₀ L s.heap m) (X₀ : (hd.heap_39 w.params).In h₀)
    (h : ∀ (h₁ : Heap) nm qn tk L gs, (∀ b o, s.heap.get? b = some o → h₁.get? b = some o) → s.heap.get? L = none → OkF w hb R ls L h₁ → L ≠ h₁.objs.size → gs.bare = true →
      (∀ A₁, GenGo w A₁ hb R ls L ls.length gs (OkF w hb R ls L)) → (∀ A₁ z B, ls = z :: B → Gone w A₁ hb R ls L (.str z.key z.tok) gs) →
      Q (.ref h₁.objs.size) { s with gens := s.gens.push gs, toks := tk, heap := h₁.push { cls := .type "generator", data := .fields #[.int s.gens.size 0, nm, qn] } }) :
    wpAny (model PG w) A (call (.builtin "iter") [.ref R.r]) Q E s := by
  refine call_function_entry (by decide +kernel) (by decide +kernel) kdk_entry_iter (kdk_args_iter _) ?_
  unfold Builtin.«iter»
  refine wpAny_bind (m := someArgs "iter" 1 2 _) (wpAny_of_eq (a := [Value.ref R.r]) (by first | rfl | kernel_rfl!) ?_)
  show wpAny _ _ (pyIter (.ref R.r) >>= _) _ _ _
  refine wpAny_bind (pyIter_row Z hst hroom row F X₀ ?_)
  intro h₁ nm qn tk L gs k1 l1 l2 l3 l4 l5 l6
  exact wpAny_pure ⟨_, rfl, h h₁ nm qn tk L gs k1 l1 l2 l3 l4 l5 l6⟩

theorem set_push {G : Array GenState} {x y : GenState} : (G.push x).setIfInBounds G.size y = G.push y := by
  apply Array.ext'
  simp

theorem next_one {Q : Value → Shared → Prop} {h₁ : Heap} {G : Array GenState} {d : Drawn} {tk : Nat} {os : OsState} {nm qn v₀ : Value} {gs : GenState} (Z : Bs w hb loose mean mg mb) (hroom : A.depth < recursionLimit)
    (ok : OkF w hb R ls L h₁) (hLs : L ≠ h₁.objs.size) (hgo : ∀ A₁, Gone w A₁ hb R ls L v₀ gs)
    (h : ∀ h' tk' gs', (∀ b o, b ≠ L → h₁.get? b = some o → h'.get? b = some o) → gs'.bare = true → Q v₀ ⟨h', G.push gs', d, tk', os⟩) :
    wpAny (model PG w) A (call (.builtin "next") [.ref h₁.objs.size]) Q E ⟨h₁.push { cls := .type "generator", data := .fields #[.int G.size 0, nm, qn] }, G.push gs, d, tk, os⟩ := by
  have kp : ∀ b o, h₁.get? b = some o → (h₁.push { cls := .type "generator", data := .fields #[.int G.size 0, nm, qn] }).get? b = some o := fun b o e => Heap.get?_push_of_some _ e
  obtain ⟨o1, o2, m1, o3, o4⟩ := ok
  have ok' : OkF w hb R ls L (h₁.push { cls := .type "generator", data := .fields #[.int G.size 0, nm, qn] }) := ⟨fun b o e => kp b o (o1 b o e), o2.keep fun b _ o e => kp b o e, m1, o3.keeps kp, o4⟩
  refine call_next_gen (g := G.size) (n := 1) (gs := gs) (P := GP L) (Y := GY1 v₀ L) (Z.T.nolimit.keeps ok'.1) hroom ⟨_, nm, qn, Heap.get?_push_size _ rfl, rfl, rfl, rfl⟩ (by simp) (hgo _ _ ok') (fun v s₁ gs' hb' hv => ?_) (fun s₁ q => by cases q.1)
  obtain ⟨rfl, mv⟩ := hv
  obtain ⟨k1, k2, k3, k4, k5⟩ := mv
  obtain ⟨hh, gg, dd, tt, oo⟩ := s₁
  simp only [Shared.setGen] at k1 k2 k3 k4 k5 ⊢
  subst k3 k4
  rw [k2, set_push, set_push]
  exact h hh tt gs' (fun b o n e => k1 b o n (kp b o e)) hb'
end
end Mine

namespace Mine
theorem rsPop {M : Model} {A : Around} {E : Value → Shared → Prop} {env : Env} {Q : Flow → Shared → Prop} {s : Shared} (h : Q .next s) : wpAny M A (execs [] env) Q E s := by
  w_top off
  walk1
  exact h
end Mine
namespace Mine

theorem callW {w : World} {A : Around} {s : Shared} {hb : Heap} {mg mb : Str → Option Value} {loose : List Str} {mean : ExcName → Option Value} {R : Result → Shared → Prop} {f : Addr} {name qual : Str} {params : Arguments} {body : List Stmt} {scope : Scope} {dV kV doc pm cdv ct oc : Value} {an od : Option Addr} {osl : Array (Option Value)}
    {args : Args} {binds : List (Str × Value)} (as : List Addr) (Z : Bs w hb loose mean mg mb) (hs : hb.StaysIn s.heap) (hroom : A.depth < recursionLimit)
    (has : ∀ a ∈ as, hb.get? a = none ∧ ∃ o, s.heap.get? a = some o)
    (ho : (hd.heap_39 w.params).lookup f = some ⟨oc, od, .func (fnOf name qual params body scope dV kV doc pm an cdv ct), osl⟩) (hcd : codeIn (hd.heap_39 w.params) cdv qual = true)
    (hbind : BindsTo s (fnOf name qual params body scope dV kV doc pm an cdv ct) args binds) (hloc : ∀ y ∈ binds, scope.names.lookup y.1 = some .local)
    (h : ∀ L h₀ h₁ tk, Fr h₀ L h₁ (fun x => binds.reverse.lookup x) → News h₀ L h₁ [] → (hd.heap_39 w.params).In h₀ → Top hd.view_39 loose mean mg mb h₀ → (∀ b ∈ as, h₀.get? b = none) → L ∉ as → s.heap.get? L = none →
      (∀ b o, s.heap.get? b = some o → h₁.get? b = some o) →
      wpAny (model PG w) (A.deeper (envOf qual scope L f cdv)) (execs body (envOf qual scope L f cdv))
        (fun fl s' => R (.ok (.ret (match fl with | .ret v => v | _ => .none))) s')
        (fun e s' => wpAny (model PG w) (A.deeper (envOf qual scope L f cdv)) (leaving (envOf qual scope L f cdv) e) (fun _ s'' => R (.error e) s'') (fun e' s'' => R (.error e') s'') s')
        { s with heap := h₁, toks := tk })
    (hco : scope.isCoroutine = false := by rfl) (hgen : scope.isGenerator = false := by rfl) (hk : scope.kind = .function := by rfl)
    (hcell : ∀ x ∈ scope.names, x.2 ≠ .cell := by decide) : codeAny (model PG w) A (.call (.ref f) args) R s :=
  callM (Z.X.keeps hs) (Z.T.nolimit.keeps hs) hroom ho hcd hbind hloc (fun h₁ F => by
    have st : hb.StaysIn (hideAll s.heap as) := fun b o e => hideAll_get _ (hs b o e) fun q => by rw [(has b q).1] at e; cases e
    have hn : s.heap.get? s.heap.objs.size = none := Heap.get?_none_of_le (Nat.le_refl _)
    exact h _ (hideAll s.heap as) h₁ _ ⟨F.ns, fun b o e => F.keep b o (of_hideAll _ e), by rw [hideAll_size]; exact F.above⟩ News.nil (Z.X.keeps st) (Z.T.keeps st) (fun b hb' => hideAll_none _ hb')
      (fun q => by obtain ⟨o, e⟩ := (has _ q).2; rw [hn] at e; cases e) hn F.keep) hco hgen hk hcell

theorem storeR {M : Model} {A : Around} {E : Value → Shared → Prop} {s : Shared} {name : Str} {scope : Scope} {L a : Addr} {cd : Value} {h₀ : Heap} {m : Str → Option Value} {x : Str} {v : Value} {Q : Unit → Shared → Prop} (F : Fr h₀ L s.heap m)
    (h : ∀ h', Fr h₀ L h' (fun y => if y = x then some v else m y) → News h₀ L h' [] → (∀ b o, b ≠ L → s.heap.get? b = some o → h'.get? b = some o) → Q () { s with heap := h', toks := s.toks + 1 })
    (hk : scope.kind = .function) (hl : (envOf name scope L a cd).kindOf x = some .local) :
    wpAny M A (storeName (envOf name scope L a cd) x v) Q E s :=
  wpAny_storeName_local hl F.ns (fun h' hn hs => h h' (F.set hn hs) News.nil (fun b o n e => (hs.2 b n).trans e))
    (by show (scope.kind == .class || (scope.kind == .module && L != mainGlobals)) = false; rw [hk]; rfl)
theorem method_row {w : World} {A : Around} {E : Value → Shared → Prop} {s : Shared} {hb : Heap} {R : Rw} {ls : List Lk} {name : Str} {pl : Sem Bool} {f : Addr} {Q : Value × List Value → Shared → Prop} (X : (hd.heap_39 w.params).In s.heap) (row : RowAt w hb s.heap R ls)
    (hg : plainGet (hd.heap_39 w.params) 121 name = true) (hf : findIn (hd.heap_39 w.params) (.ref 121) name = some (some (.ref f))) (ht : isFn (hd.heap_39 w.params) (.ref f) = true)
    (hl : getL name [⟨R.i1, .str (Str.ofString "_OrderedSet__root") R.t1, .ref R.root⟩, ⟨R.i2, .str (Str.ofString "_OrderedSet__map") R.t2, .ref R.mp⟩] = some none) (h : Q (.ref f, [.ref R.r]) s) :
    wpAny (model PG w) A (getMethod (.ref R.r) name pl) Q E s :=
  method_fn X (rowInst row) (plainGet_of hg).1 (plainGet_of hg).2 hf (beq_iff_eq.mp ht) (by show (lookIn name (rowDict R.i1 R.i2 R.t1 R.t2 R.root R.mp)).map _ = _; rw [lookIn_dict, hl]; rfl) h
local macro_rules | `(tactic| walk_at "truthy ref") => `(tactic| refine stop ?_)
local macro_rules | `(tactic| walk_at "call type:reversed") => `(tactic| refine stop ?_)
local macro_rules | `(tactic| walk_at "call builtin:next") => `(tactic| refine stop ?_)
local macro_rules | `(tactic| walk_at "call builtin:iter") => `(tactic| refine stop ?_)
local macro_rules | `(tactic| walk_at "getMethod ref") => `(tactic| refine stop ?_)
local macro_rules | `(tactic| walk_at "call ref") => `(tactic| refine stop ?_)
local macro_rules | `(tactic| walk_at "storeName") => `(tactic| (k_here; k_dflt (refine' storeR ?F ?_ ?a ?b; (case a => rfl); (case b => rfl); (case F => k_asm); k_whole; intro h' F' N' kS'; (try k_sweep))))

section
variable {w : World} {dp un : Nat} {fr : Option (List Env)} {gd : Option (List Code)} {s : Shared} {hb : Heap} {mg mb : Str → Option Value} {loose : List Str} {mean : ExcName → Option Value} {R : Rw}

theorem wr_sub {ls : List Lk} : ∀ a ∈ R.wr ls, a ∈ R.adrs ++ adrs ls := fun a ha => by
  simp only [Rw.wr, List.mem_cons, List.mem_map] at ha
  rcases ha with rfl | rfl | ⟨l, hl, rfl⟩
  · simp [Rw.adrs]
  · simp [Rw.adrs]
  · exact List.mem_append_right _ (mem_adrs hl).1

theorem pop_last {A₂ : List Lk} {z : Lk} {P : Result → Shared → Prop} (Z : Bs w hb loose mean mg mb) (hst : hb.StaysIn s.heap) (hroom : dp + 10 < recursionLimit) (row : RowAt w hb s.heap R (A₂ ++ [z])) (hlen : A₂.length ≤ 900)
    (h : ∀ h' tk' gs', gs'.bare = true → RowAt w hb h' R A₂ → (∀ b o, b ∉ R.wr (A₂ ++ [z]) → s.heap.get? b = some o → h'.get? b = some o) → P (.ok (.ret (.str z.key z.tok))) { s with heap := h', toks := tk', gens := s.gens.push gs' }) :
    codeAny (model PG w) ⟨none, dp, fr, gd, un⟩ (.call (.ref 97) ⟨[.ref R.r], []⟩) P s := by
  refine callW (binds := [(Str.ofString "self", .ref R.r), (Str.ofString "last", .bool true)]) (R.wr (A₂ ++ [z])) Z hst (Nat.lt_of_le_of_lt (Nat.le_add_right _ 10) hroom) (fun a ha => ⟨row.new a (wr_sub a ha), row.alive a (wr_sub a ha)⟩) (by k_is) (by k_is) (binds_K (Z.X.keeps hst) rfl (by k_is) rfl rfl rfl) (locs rfl) ?_
  intro L h₀ h₁ tk₁ F N X T hoff hL hLs hk
  (try dsimp only)
  k_fold
  have st1 : hb.StaysIn h₁ := fun b o e => hk b o (hst b o e)
  have row1 : RowAt w hb h₁ R (A₂ ++ [z]) := row.keep fun b _ o e => hk b o e
  k_steps
  refine truthy_row Z st1 (show dp + 1 + 5 < _ by omega) row1 (by simp; omega) ?_
  intro h2 tk2 k2
  have e1 : (A₂ ++ [z]).isEmpty = false := by cases A₂ <;> rfl
  rw [e1]
  have F2 := fr_keep F k2
  have N2 : News h₀ L h2 [] := News.nil
  have st2 : hb.StaysIn h2 := fun b o e => k2 b o (st1 b o e)
  have row2 : RowAt w hb h2 R (A₂ ++ [z]) := row1.keep fun b _ o e => k2 b o e
  clear F N
  dsimp only
  k_steps
  refine call_rev Z st2 (show dp + 1 < _ by omega) row2 ?_
  intro h3 nm qn tk3 Lg gs k3 l1 ok3 l2 l3 go3
  have F3 := fr_keep F2 (h' := h3.push { cls := .type "generator", data := .fields #[.int s.gens.size 0, nm, qn] }) (fun b o e => Heap.get?_push_of_some _ (k3 b o e))
  have N3 : News h₀ L (h3.push { cls := .type "generator", data := .fields #[.int s.gens.size 0, nm, qn] }) [] := News.nil
  k_steps
  refine next_one Z (show dp + 1 < _ by omega) ok3 l2 go3 ?_
  intro h4 tk4 gs4 k4 b4
  have k24 : ∀ b o, h2.get? b = some o → h4.get? b = some o := fun b o e => k4 b o (fun q => by rw [q, l1] at e; cases e) (k3 b o e)
  have F4 := fr_keep F2 k24
  have N4 : News h₀ L h4 [] := News.nil
  have st4 : hb.StaysIn h4 := fun b o e => k24 b o (st2 b o e)
  have row4 : RowAt w hb h4 R (A₂ ++ [z]) := row2.keep fun b _ o e => k24 b o e
  clear F2 N2 F3 N3
  k_steps
  (rename Fr _ _ _ _ => F5)
  (rename (∀ (b : Addr) (o : Obj), b ≠ _ → _ → _) => k5)
  rename_i h5 N5
  have hL4 : L ∉ R.adrs ++ adrs (A₂ ++ [z]) := fun q => by obtain ⟨o, e⟩ := row.alive _ q; rw [hLs] at e; cases e
  have hbL : hb.get? L = none := by
    cases q : hb.get? L with
    | none => rfl
    | some o => rw [hst _ _ q] at hLs; cases hLs
  have st5 : hb.StaysIn h5 := fun b o e => k5 b o (fun q => by rw [q, hbL] at e; cases e) (st4 b o e)
  have row5 : RowAt w hb h5 R (A₂ ++ [z]) := row4.keep fun b hb' o e => k5 b o (fun q => hL4 (q ▸ hb')) e
  refine method_row (f := 75) (Z.X.keeps st5) row5 (by k_is) (by k_is) (by k_is) (by k_get) ?_
  dsimp only
  k_steps
  refine wpAny_call (disc_last Z st5 (show dp + 1 + 5 < _ by omega) row5 (by omega) ?_)
  intro h6 tk6 row6 k6
  have F6 := fr_off F5 k6 hoff hL
  have N6 : News h₀ L h6 [] := News.nil
  clear F5 N5
  dsimp only
  k_steps
  refine h h6 _ gs4 b4 row6 (fun b o hb' e => k6 b o hb' (k5 b o (fun q => by rw [q, hLs] at e; cases e) (k24 b o (k2 b o (hk b o e)))))
theorem pop_first {B₂ : List Lk} {z : Lk} {P : Result → Shared → Prop} (Z : Bs w hb loose mean mg mb) (hst : hb.StaysIn s.heap) (hroom : dp + 10 < recursionLimit) (row : RowAt w hb s.heap R (z :: B₂)) (hlen : B₂.length ≤ 900)
    (h : ∀ h' tk' gs', gs'.bare = true → RowAt w hb h' R B₂ → (∀ b o, b ∉ R.wr (z :: B₂) → s.heap.get? b = some o → h'.get? b = some o) → P (.ok (.ret (.str z.key z.tok))) { s with heap := h', toks := tk', gens := s.gens.push gs' }) :
    codeAny (model PG w) ⟨none, dp, fr, gd, un⟩ (.call (.ref 97) ⟨[.ref R.r, .bool false], []⟩) P s := by
  refine callW (binds := [(Str.ofString "self", .ref R.r), (Str.ofString "last", .bool false)]) (R.wr (z :: B₂)) Z hst (Nat.lt_of_le_of_lt (Nat.le_add_right _ 10) hroom) (fun a ha => ⟨row.new a (wr_sub a ha), row.alive a (wr_sub a ha)⟩) (by k_is) (by k_is) (binds_K (Z.X.keeps hst) rfl (by k_is) rfl rfl rfl) (locs rfl) ?_
  intro L h₀ h₁ tk₁ F N X T hoff hL hLs hk
  (try dsimp only)
  k_fold
  have st1 : hb.StaysIn h₁ := fun b o e => hk b o (hst b o e)
  have row1 : RowAt w hb h₁ R (z :: B₂) := row.keep fun b _ o e => hk b o e
  k_steps
  refine truthy_row Z st1 (show dp + 1 + 5 < _ by omega) row1 (by simp; omega) ?_
  intro h2 tk2 k2
  have e1 : (z :: B₂).isEmpty = false := rfl
  rw [e1]
  have F2 := fr_keep F k2
  have N2 : News h₀ L h2 [] := News.nil
  have st2 : hb.StaysIn h2 := fun b o e => k2 b o (st1 b o e)
  have row2 : RowAt w hb h2 R (z :: B₂) := row1.keep fun b _ o e => k2 b o e
  clear F N
  dsimp only
  k_steps
  refine call_iter Z st2 (show dp + 1 < _ by omega) row2 F2 X ?_
  intro h3 nm qn tk3 Lg gs k3 l1 ok3 l2 l3 go2 go3
  have F3 := fr_keep F2 (h' := h3.push { cls := .type "generator", data := .fields #[.int s.gens.size 0, nm, qn] }) (fun b o e => Heap.get?_push_of_some _ (k3 b o e))
  have N3 : News h₀ L (h3.push { cls := .type "generator", data := .fields #[.int s.gens.size 0, nm, qn] }) [] := News.nil
  k_steps
  refine next_one Z (show dp + 1 < _ by omega) ok3 l2 (fun A₁ => go3 A₁ z B₂ rfl) ?_
  intro h4 tk4 gs4 k4 b4
  have k24 : ∀ b o, h2.get? b = some o → h4.get? b = some o := fun b o e => k4 b o (fun q => by rw [q, l1] at e; cases e) (k3 b o e)
  have F4 := fr_keep F2 k24
  have N4 : News h₀ L h4 [] := News.nil
  have st4 : hb.StaysIn h4 := fun b o e => k24 b o (st2 b o e)
  have row4 : RowAt w hb h4 R (z :: B₂) := row2.keep fun b _ o e => k24 b o e
  clear F2 N2 F3 N3
  k_steps
  (rename Fr _ _ _ _ => F5)
  (rename (∀ (b : Addr) (o : Obj), b ≠ _ → _ → _) => k5)
  rename_i h5 N5
  have hL4 : L ∉ R.adrs ++ adrs (z :: B₂) := fun q => by obtain ⟨o, e⟩ := row.alive _ q; rw [hLs] at e; cases e
  have hbL : hb.get? L = none := by
    cases q : hb.get? L with
    | none => rfl
    | some o => rw [hst _ _ q] at hLs; cases hLs
  have st5 : hb.StaysIn h5 := fun b o e => k5 b o (fun q => by rw [q, hbL] at e; cases e) (st4 b o e)
  have row5 : RowAt w hb h5 R (z :: B₂) := row4.keep fun b hb' o e => k5 b o (fun q => hL4 (q ▸ hb')) e
  refine method_row (f := 75) (Z.X.keeps st5) row5 (by k_is) (by k_is) (by k_is) (by k_get) ?_
  dsimp only
  k_steps
  refine wpAny_call (disc_first Z st5 (show dp + 1 + 5 < _ by omega) row5 (by omega) ?_)
  intro h6 tk6 row6 k6
  have F6 := fr_off F5 k6 hoff hL
  have N6 : News h₀ L h6 [] := News.nil
  clear F5 N5
  dsimp only
  k_steps
  refine h h6 _ gs4 b4 row6 (fun b o hb' e => k6 b o hb' (k5 b o (fun q => by rw [q, hLs] at e; cases e) (k24 b o (k2 b o (hk b o e)))))
end
end Mine

namespace Mine
theorem rsComp {M : Model} {A : Around} {E : Value → Shared → Prop} {env : Env} {Q : Flow → Shared → Prop} {s : Shared} (h : Q .next s) : wpAny M A (execs [] env) Q E s := by
  w_top off
  walk1
  exact h
end Mine
namespace Mine
section
variable {w : World} {hb h₀ : Heap} {L₀ : Addr} {m₀ : Str → Option Value} {mg mb : Str → Option Value} {loose : List Str} {mean : ExcName → Option Value} {R : Rw} {ls : List Lk}

def Ready (w : World) (A₁ : Around) (hb : Heap) (R : Rw) (ls : List Lk) (L : Addr) (n : Nat) (gs : GenState) (h : Heap) : Prop :=
  (GenGo w A₁ hb R ls L n gs (OkF w hb R ls L) ∧ OkF w hb R ls L h) ∨ ∃ c, GenGo w A₁ hb R ls L n gs (Rdy w hb R ls L c) ∧ Rdy w hb R ls L c h
theorem Ready.go {A₁ : Around} {L : Addr} {n : Nat} {gs : GenState} {s : Shared} (x : Ready w A₁ hb R ls L n gs s.heap) : gs.Goes (model PG w) A₁ (GR L) (GY w hb R ls L) n (.send .none) s := by
  rcases x with ⟨a, b⟩ | ⟨c, a, b⟩
  · exact a s b
  · exact a s b
theorem Ready.st {A₁ : Around} {L : Addr} {n : Nat} {gs : GenState} {h : Heap} (x : Ready w A₁ hb R ls L n gs h) : hb.StaysIn h := by
  rcases x with ⟨a, b⟩ | ⟨c, a, b⟩
  · exact b.1
  · exact b.st
theorem Ready.keep {A₁ : Around} {L : Addr} {n : Nat} {gs : GenState} {h h' : Heap} (x : Ready w A₁ hb R ls L n gs h) {as : List Addr} (k : ∀ b o, b ∉ as → h.get? b = some o → h'.get? b = some o)
    (h1 : ∀ a ∈ as, hb.get? a = none) (h2 : ∀ a ∈ as, a ∉ R.adrs ++ adrs ls) (h3 : L ∉ as) : Ready w A₁ hb R ls L n gs h' := by
  have st : hb.StaysIn h → hb.StaysIn h' := fun st b o e => k b o (fun q => by rw [h1 b q] at e; cases e) (st b o e)
  have rw1 : RowAt w hb h R ls → RowAt w hb h' R ls := fun r => r.keep fun b hb' o e => k b o (fun q => h2 b q hb') e
  have ns1 : ∀ {m}, h.Ns L m → h'.Ns L m := fun n => n.at' fun o e => k L o h3 e
  rcases x with ⟨a, b1, b2, m, b3, b4⟩ | ⟨c, a, b⟩
  · exact .inl ⟨a, st b1, rw1 b2, m, ns1 b3, b4⟩
  · obtain ⟨m, n1, n2⟩ := b.ns
    exact .inr ⟨c, a, st b.st, rw1 b.row, m, ns1 n1, n2⟩

theorem comp_row {A : Around} {s : Shared} {E : Value → Shared → Prop} {Q : Value → Shared → Prop} {env : Env} {nm : Str} {p1 p2 : Pos} {iter : Expr} {scope : Scope} {pos : Pos}
    (Z : Bs w hb loose mean mg mb) (hst : hb.StaysIn s.heap) (hh : A.handled = none) (hroom : A.depth < recursionLimit) (row : RowAt w hb s.heap R ls) (hlen : ls.length ≤ 1000) (F : Fr h₀ L₀ s.heap m₀) (X₀ : (hd.heap_39 w.params).In h₀)
    (hclos : closureFor scope env = pure []) (hcell : ∀ y ∈ scope.names, y.2 ≠ .cell) (hkind : scope.kind = .function)
    (hnames : ∀ y ∈ scope.names, y.2 = .local → scope.names.lookup y.1 = some .local) (hx : scope.names.lookup nm = some .local) (hd : (nm == ("__debug__" : Str)) = false)
    (hit : ∀ Q' : Value → Shared → Prop, Q' (.ref R.r) s → wpAny (model PG w) A (eval iter env) Q' E s)
    (h : ∀ D h' tk', s.heap.get? D = none → h'.PlainList D ((ls.map fun l => Value.str l.key l.tok).toArray) → (∀ b o, s.heap.get? b = some o → h'.get? b = some o) →
      Q (.ref D) { s with heap := h', toks := tk', gens := s.gens.push .finished })
    (hs : ∀ x, foldedSetIterable iter env x = pure x := by intro _; rfl) :
    wpAny (model PG w) A (eval (.ListComp (.Name nm p1) [⟨.Name nm p2, iter, [], 0⟩] scope pos) env) Q E s := by
  rw [eval_ListComp]
  refine wpAny_comprehension_free (use := none) rfl hs hclos hkind hnames (hit _ (pyIter_row Z hst hroom row F X₀ ?_))
  intro h₁ gn qn tk L gs k1 hL0 ok1 hLa hbare hgo _
  generalize ha : h₁.objs.size = a at hLa ⊢
  refine wpAny_newObj_type (wpAny_newFunctionEnv hcell (by intro y hy; simp at hy) (fun h₂ hns₂ hsb₂ => ?_) hkind)
  dsimp only at hns₂ hsb₂ ⊢
  generalize hG : s.gens = G at *
  generalize hH2 : h₁.push { cls := .type "generator", data := .fields #[.int G.size 0, gn, qn] } = H2 at hns₂ hsb₂ ⊢
  have hD : H2.objs.size = a + 1 := by rw [← hH2, Heap.size_push, ha]
  generalize hDD : H2.objs.size = D at hns₂ hsb₂ hD ⊢
  generalize hH3 : H2.push { cls := .type "list", dict := none, data := .seq ([] : List Value).toArray } = H3 at hns₂ hsb₂ ⊢
  have hC : H3.objs.size = D + 1 := by rw [← hH3, Heap.size_push, hDD]
  generalize hCC : H3.objs.size = C at hns₂ hsb₂ hC ⊢
  have kH2 : ∀ b o, h₁.get? b = some o → H2.get? b = some o := fun b o e => hH2 ▸ Heap.get?_push_of_some _ e
  have kH3 : ∀ b o, H2.get? b = some o → H3.get? b = some o := fun b o e => hH3 ▸ Heap.get?_push_of_some _ e
  have k2 : ∀ b o, H3.get? b = some o → h₂.get? b = some o := fun b o e => hsb₂.extBut b o (by have := Heap.lt_size e; rw [hCC] at this; exact Nat.ne_of_lt this) (Heap.get?_push_of_some _ e)
  have ega : h₂.get? a = some { cls := .type "generator", data := .fields #[.int G.size 0, gn, qn] } := k2 _ _ (kH3 _ _ (by rw [← hH2, ← ha]; exact Heap.get?_push_size _ rfl))
  have hacc : h₂.PlainList D #[] := ⟨_, k2 _ _ (by rw [← hH3, ← hDD]; exact Heap.get?_push_size _ rfl)⟩
  obtain ⟨oL, esL, epL, eL, rL⟩ := ok1.2.2.choose_spec.1
  have lL : L < a := by have := Heap.lt_size eL; rw [ha] at this; exact this
  have fresh : ∀ b, a ≤ b → h₁.get? b = none := fun b hb' => Heap.get?_none_of_le (by rw [ha]; exact hb')
  have freshs : ∀ b, a ≤ b → s.heap.get? b = none := fun b hb' => by
    cases q : s.heap.get? b with
    | none => rfl
    | some o => have := k1 b o q; rw [fresh b hb'] at this; cases this
  have off : ∀ b ∈ [C, D], hb.get? b = none ∧ b ∉ R.adrs ++ adrs ls ∧ b ≠ L := by
    intro b hb'
    have hab : a ≤ b := by
      simp only [List.mem_cons, List.not_mem_nil, or_false] at hb'
      rcases hb' with rfl | rfl
      · rw [hC, hD]; exact Nat.le_succ_of_le (Nat.le_succ a)
      · rw [hD]; exact Nat.le_succ a
    refine ⟨?_, fun q => ?_, fun q => ?_⟩
    · cases q : hb.get? b with
      | none => rfl
      | some o => have := ok1.1 b o q; rw [fresh b hab] at this; cases this
    · obtain ⟨o, e⟩ := ok1.2.1.alive b q; rw [fresh b hab] at e; cases e
    · rw [q] at hab; exact Nat.lt_irrefl _ (Nat.lt_of_le_of_lt hab lL)
  have hLC : L ∉ [C, D] := fun q => (off L q).2.2 rfl
  have hLr : L ∉ R.adrs ++ adrs ls := fun q => by obtain ⟨o, e⟩ := row.alive _ q; rw [hL0] at e; cases e
  have hbL : hb.get? L = none := by
    cases q : hb.get? L with
    | none => rfl
    | some o => rw [hst _ _ q] at hL0; cases hL0
  have haC : a ≠ C := by rw [hC, hD]; exact Nat.ne_of_lt (Nat.lt_succ_of_lt (Nat.lt_succ_self a))
  have haD : a ≠ D := by rw [hD]; exact Nat.ne_of_lt (Nat.lt_succ_self a)
  have hCD : D ≠ C := by rw [hC]; exact Nat.ne_of_lt (Nat.lt_succ_self D)
  have rdy0 : Ready w A.in1 hb R ls L ls.length gs h₂ := by
    have : Ready w A.in1 hb R ls L ls.length gs h₁ := .inl ⟨hgo _, ok1⟩
    exact this.keep (as := []) (fun b o _ e => k2 b o (kH3 b o (kH2 b o e))) (fun _ q => nomatch q) (fun _ q => nomatch q) List.not_mem_nil
  have keep12 : ∀ b o, s.heap.get? b = some o → h₂.get? b = some o := fun b o e => k2 b o (kH3 b o (kH2 b o (k1 b o e)))
  have loop : ∀ s₃ : Shared, s₃ = (⟨h₂, G.push gs, s.drawn, tk + ([] : List (Str × Value)).length, s.os⟩ : Shared) →
      codeAny (model PG w) A (.compLoop (.ListComp (.Name nm p1) [⟨.Name nm p2, iter, [], 0⟩] scope pos) 0 (.ref a) (.ref D) (compEnvC scope [] C env)) (compPost (model PG w) A E none Q (.ref D) C) s₃ := by
    rintro s₃ rfl
    refine codeAny_compLoop_tests (fun k s' => ∃ A' B h' tk' gs' m, ls = A' ++ B ∧ k = B.length + 1 ∧ s' = (⟨h', G.push gs', s.drawn, tk', s.os⟩ : Shared) ∧ Ready w A.in1 hb R ls L B.length gs' h' ∧
      h'.get? a = some { cls := .type "generator", data := .fields #[.int G.size 0, gn, qn] } ∧ h'.PlainList D ((A'.map fun l => Value.str l.key l.tok).toArray) ∧ h'.Ns C m ∧
      (∀ b o, s.heap.get? b = some o → h'.get? b = some o)) ?_ (ls.length + 1) ⟨[], ls, h₂, _, gs, _, rfl, rfl, rfl, rdy0, ega, hacc, hns₂, keep12⟩
    rintro k s' ⟨A', B, h', tk', gs', m, hls, rfl, rfl, rdy, eg, hl, hn, kp⟩
    refine next_gen (g := G.size) (n := B.length) (gs := gs') (P := GP L) (Y := GY w hb R ls L) hh (Z.T.nolimit.keeps rdy.st) hroom ⟨_, gn, qn, eg, rfl, rfl, rfl⟩ (by simp) (Ready.go (s := (⟨h', G.push gs', s.drawn, tk', s.os⟩ : Shared).setGen G.size .running) rdy) ?_ ?_
    · intro v s₁ gs₁ hb1 hY
      obtain ⟨A1, z, B1, e1, e2, rfl, mv, rd, hk⟩ := hY
      cases B with
      | nil => exact (hk _ rd).elim
      | cons z' B' =>
        have e3 : A1 = A' ∧ z :: B1 = z' :: B' := List.append_inj' (e1.symm.trans hls) (by simp at e2 ⊢; exact e2)
        obtain ⟨rfl, e4⟩ := e3
        cases e4
        obtain ⟨kk, g2, d2, o2, t2⟩ := mv
        obtain ⟨hh1, gg, dd, tt, oo⟩ := s₁
        simp only [Shared.setGen] at kk g2 d2 o2 t2 rd hk ⊢
        subst d2 o2
        rw [g2, set_push, set_push]
        have hnC : C ≠ L := (off C (by simp)).2.2
        have hnD : D ≠ L := (off D (by simp)).2.2
        have rdy1 : Ready w A.in1 hb R ls L B1.length gs₁ hh1 := .inr ⟨z.a, fun s₂ h2 => hk s₂ h2, rd⟩
        refine wpAny_assign_Name (wpAny_storeName_local (lookup_relabel_local hx) (hn.at' fun o e => kk C o hnC e) (fun h₃ hn₃ hs₃ => ?_) (by simp [compEnvC, relabel, hkind]))
        refine wpAny_tests_nil ?_
        rw [if_pos rfl]
        refine ld_local (by simp [compEnvC, relabel, hkind]) (lookup_relabel_local hx) hn₃ (by simp; rfl) ?_ hd
        have hl3 : h₃.PlainList D ((A1.map fun l => Value.str l.key l.tok).toArray) := (hl.at fun o e => kk D o hnD e).extBut hs₃.extBut hCD
        have hsz1 : ((A1.map fun l => Value.str l.key l.tok).toArray).size ≤ sizeLine := by
          rw [sizeLine_eq]; simp; have := congrArg List.length hls; simp at this; omega
        refine wpAny_list_append_plain (hsz := hsz1) hl3 fun h₅ hl₅ hs₅ => ?_
        · refine ⟨B1.length + 1, by simp, A1 ++ [z], B1, h₅, _, gs₁, _, by rw [hls]; simp, rfl, rfl, ?_, ?_, ?_, hn₃.sameBut hs₅ (Ne.symm hCD), ?_⟩
          · exact (rdy1.keep (as := [C]) (fun b o n e => hs₃.extBut b o (fun q => n (List.mem_singleton.mpr q)) e) (fun b q => (off b (List.mem_cons.mpr (.inl (List.mem_singleton.mp q)))).1) (fun b q => (off b (List.mem_cons.mpr (.inl (List.mem_singleton.mp q)))).2.1) (fun q => hnC (List.mem_singleton.mp q).symm)).keep (as := [D]) (fun b o n e => hs₅.extBut b o (fun q => n (List.mem_singleton.mpr q)) e)
              (fun b q => (off b (by simp [List.mem_singleton.mp q])).1) (fun b q => (off b (by simp [List.mem_singleton.mp q])).2.1) (fun q => hnD (List.mem_singleton.mp q).symm)
          · exact hs₅.extBut _ _ haD (hs₃.extBut _ _ haC (kk a _ (fun q => by rw [q] at lL; exact Nat.lt_irrefl _ lL) eg))
          · simpa using hl₅
          · intro b o e
            have hbC : b ≠ C := fun q => by rw [q, freshs C (by rw [hC, hD]; exact Nat.le_succ_of_le (Nat.le_succ a))] at e; cases e
            have hbD : b ≠ D := fun q => by rw [q, freshs D (by rw [hD]; exact Nat.le_succ a)] at e; cases e
            have hbL' : b ≠ L := fun q => by rw [q, hL0] at e; cases e
            exact hs₅.extBut b o hbD (hs₃.extBut b o hbC (kk b o hbL' (kp b o e)))
    · intro s₁ hP h₆ k6
      obtain ⟨hn0, kk, g2, d2, o2, t2⟩ := hP
      have hB : B = [] := List.eq_nil_of_length_eq_zero hn0
      subst hB
      simp at hls
      subst hls
      obtain ⟨hh1, gg, dd, tt, oo⟩ := s₁
      simp only [Shared.setGen] at kk g2 d2 o2 t2 k6 ⊢
      subst d2 o2
      rw [g2, set_push, set_push]
      have hnC : C ≠ L := (off C (by simp)).2.2
      have hnD : D ≠ L := (off D (by simp)).2.2
      refine ⟨m, hn.at' fun o e => k6 C o (kk C o hnC e), fun h₇ hs₇ => ?_⟩
      refine h D h₇ tt (freshs D (by rw [hD]; exact Nat.le_succ a)) ((hl.at fun o e => k6 D o (kk D o hnD e)).extBut hs₇.extBut hCD) (fun b o e => ?_)
      have hbC : b ≠ C := fun q => by rw [q, freshs C (by rw [hC, hD]; exact Nat.le_succ_of_le (Nat.le_succ a))] at e; cases e
      have hbL' : b ≠ L := fun q => by rw [q, hL0] at e; cases e
      exact hs₇.extBut b o hbC (k6 b o (kk b o hbL' (kp b o e)))
  exact codeAny_compStart_list (loop _ rfl) (wpAny_pyIter_gen (g := G.size) ⟨_, gn, qn, ega, rfl, rfl, rfl⟩ (loop _ rfl))
end
end Mine

namespace Mine
theorem rsNew {M : Model} {A : Around} {E : Value → Shared → Prop} {env : Env} {Q : Flow → Shared → Prop} {s : Shared} (h : Q .next s) : wpAny M A (execs [] env) Q E s := by
  w_top off
  walk1
  exact h
end Mine
namespace Mine

theorem init_row {w : World} {dp un : Nat} {fr : Option (List Env)} {gd : Option (List Code)} {s : Shared} {hb : Heap} {mg mb : Str → Option Value} {loose : List Str} {mean : ExcName → Option Value} {x dx : Addr} {P : Result → Shared → Prop}
    (Z : Bs w hb loose mean mg mb) (hs : hb.StaysIn s.heap) (hroom : dp + 5 < recursionLimit)
    (hl : ∀ p ∈ [(x, instObj 121 dx), (dx, dictOf [] 0)], s.heap.get? p.1 = some p.2 ∧ hb.get? p.1 = none) (hne : @Ne Nat x dx)
    (h : ∀ h' tk' R, R.r = x → R.dx = dx → RowAt w hb h' R [] → s.heap.get? R.mp = none → s.heap.get? R.root = none → s.heap.get? R.rd = none → (∀ b o, b ∉ [dx] → s.heap.get? b = some o → h'.get? b = some o) → P (.ok (.ret .none)) { s with heap := h', toks := tk' }) :
    codeAny (model PG w) ⟨none, dp, fr, gd, un⟩ (.call (.ref 47) ⟨[.ref x], []⟩) P s := by
  refine callH (binds := [(Str.ofString "self", .ref x), (Str.ofString "iterable", .none)]) _ Z hs (Nat.lt_of_le_of_lt (Nat.le_add_right _ 5) hroom) hl (by k_is) (by k_is) (binds_K (Z.X.keeps hs) rfl (by k_is) rfl rfl rfl) (locs rfl) ?_
  intro L h₀ h₁ F N X T hoff hL
  k_fold
  k_steps
  rename Fr _ _ _ _ => F9
  rename News _ _ _ _ => N9
  rename_i root rd hf0 l1a l2a hf1 hf2 hf3 hf4 mp hf5 omp lo9 hd9 fs9 hi9 fi9 l1b hf
  have em := N9 _ (.head _)
  have er := N9 _ (.tail _ (.head _))
  have ed := N9 _ (.tail _ (.tail _ (.head _)))
  have ex := N9 _ (.tail _ (.tail _ (.tail _ (.head _))))
  have edx := N9 _ (.tail _ (.tail _ (.tail _ (.tail _ (.head _)))))
  have keep := keep_but [dx] (fun p hp => (hl p hp).1) N9 (hoff _ _ F9) (by
    intro p hp
    simp only [List.mem_cons, List.not_mem_nil, or_false] at hp
    rcases hp with rfl | rfl
    · exact .inl (.tail _ (.tail _ (.tail _ (.head _))))
    · exact .inr (.head _))
  have n : ∀ b, h₀.get? b = none → b ∉ [x, dx] → s.heap.get? b = none := hL
  have nb : ∀ a, s.heap.get? a = none → hb.get? a = none := fun a e => by
    cases q : hb.get? a with
    | none => rfl
    | some o => rw [hs a o q] at e; cases e
  have hmx : mp ∉ [x, dx] := nin (Nat.ne_of_gt l1b.2.2.1) (nin (Nat.ne_of_gt l1b.2.2.2) List.not_mem_nil)
  have hdx : rd ∉ [x, dx] := nin (Nat.ne_of_gt l1a.1) (nin (Nat.ne_of_gt l1a.2) List.not_mem_nil)
  have hrx : root ∉ [x, dx] := nin (Nat.ne_of_gt (Nat.lt_trans l1a.1 l2a)) (nin (Nat.ne_of_gt (Nat.lt_trans l1a.2 l2a)) List.not_mem_nil)
  have fm := n _ em.2.2 hmx
  have fd := n _ ed.2.2 hdx
  have fr' := n _ er.2.2 hrx
  refine h _ _ ⟨x, dx, mp, root, rd, _, _, _, _⟩ rfl rfl ⟨ex.1, edx.1, er.1, ed.1, ⟨omp, em.1, hd9⟩, trivial, ?_, ?_, lo9, List.nodup_nil⟩ fm fr' fd keep
  · have a1 := Nat.ne_of_gt l1b.1
    have a2 := Nat.ne_of_gt l1b.2.1
    have a3 := Nat.ne_of_gt l1b.2.2.1
    have a4 := Nat.ne_of_gt l1b.2.2.2
    have a5 := Nat.ne_of_gt (Nat.lt_trans l1a.1 l2a)
    have a6 := Nat.ne_of_gt (Nat.lt_trans l1a.2 l2a)
    have a7 := Nat.ne_of_gt l2a
    have a8 := Nat.ne_of_lt l1a.1
    have a9 := Nat.ne_of_lt l1a.2
    refine List.nodup_cons.mpr ⟨nin a1 (nin a3 (nin a4 (nin a2 List.not_mem_nil))), List.nodup_cons.mpr ⟨nin a5 (nin a6 (nin a7 List.not_mem_nil)), List.nodup_cons.mpr ⟨nin hne (nin a8 List.not_mem_nil), List.nodup_cons.mpr ⟨nin a9 List.not_mem_nil, List.nodup_cons.mpr ⟨List.not_mem_nil, List.nodup_nil⟩⟩⟩⟩⟩
  · intro a ha
    simp only [Rw.adrs, adrs, List.flatMap_nil, List.append_nil, List.mem_cons, List.not_mem_nil, or_false] at ha
    rcases ha with rfl | rfl | rfl | rfl | rfl
    · exact nb _ fm
    · exact nb _ fr'
    · exact (hl _ (.head _)).2
    · exact (hl _ (.tail _ (.head _))).2
    · exact nb _ fd

theorem new_row {w : World} {dp un : Nat} {fr : Option (List Env)} {gd : Option (List Code)} {s : Shared} {hb : Heap} {mg mb : Str → Option Value} {loose : List Str} {mean : ExcName → Option Value} {E Q : Value → Shared → Prop}
    (Z : Bs w hb loose mean mg mb) (hs : hb.StaysIn s.heap) (hroom : dp + 10 < recursionLimit)
    (h : ∀ h' tk' R, RowAt w hb h' R [] → (∀ a ∈ R.adrs, s.heap.get? a = none) → (∀ b o, s.heap.get? b = some o → h'.get? b = some o) → Q (.ref R.r) { s with heap := h', toks := tk' }) :
    wpAny (model PG w) ⟨none, dp, fr, gd, un⟩ (call (.ref 121) []) Q E s := by
  obtain ⟨hh, g, d, t, os⟩ := s
  have X := Z.X.keeps hs
  refine wpAny_call (make_core (A := ⟨none, dp, fr, gd, un⟩) (makes_of X (by k_is)) (looks_findIn X (by k_is)) (fun self => bind_fn X self (f := 47) (by k_is)) (.inl rfl) ?_)
  have k1 : ∀ b o, hh.get? b = some o → ((hh.push emptyDict).push (instObj 121 hh.objs.size)).get? b = some o := fun b o e => Heap.get?_push_of_some _ (Heap.get?_push_of_some _ e)
  have st : hb.StaysIn ((hh.push emptyDict).push (instObj 121 hh.objs.size)) := fun b o e => k1 b o (hs b o e)
  have fresh : ∀ b, hh.objs.size ≤ b → hh.get? b = none := fun b e => Heap.get?_none_of_le e
  have nb : ∀ a, hh.get? a = none → hb.get? a = none := fun a e => by
    cases q : hb.get? a with
    | none => rfl
    | some o => have := hs a o q; rw [e] at this; cases this
  have e1 : ((hh.push emptyDict).push (instObj 121 hh.objs.size)).get? hh.objs.size = some (dictOf [] 0) := Heap.get?_push_of_some _ (Heap.get?_push_size _ rfl)
  have e2 : ((hh.push emptyDict).push (instObj 121 hh.objs.size)).get? (hh.objs.size + 1) = some (instObj 121 hh.objs.size) := by have := Heap.get?_push_size (hh.push emptyDict) (o := instObj 121 hh.objs.size) rfl; rwa [Heap.size_push] at this
  refine init_row (s := ⟨(hh.push emptyDict).push (instObj 121 hh.objs.size), g, d, t, os⟩) (x := hh.objs.size + 1) (dx := hh.objs.size) Z st (show dp + 1 + 5 < _ by omega) ?_ (Nat.ne_of_gt (Nat.lt_succ_self _)) ?_
  · refine List.forall_mem_cons.mpr ⟨⟨e2, nb _ (fresh _ (Nat.le_succ _))⟩, List.forall_mem_cons.mpr ⟨⟨e1, nb _ (fresh _ (Nat.le_refl _))⟩, List.forall_mem_nil _⟩⟩
  · intro h' tk' R r1 r2 row f1 f2 f3 kp
    have back : ∀ b, ((hh.push emptyDict).push (instObj 121 hh.objs.size)).get? b = none → hh.get? b = none := fun b e => by
      cases q : hh.get? b with
      | none => rfl
      | some o => rw [k1 b o q] at e; cases e
    refine ⟨rfl, ?_⟩
    dsimp only
    rw [← r1]
    refine h h' tk' R row (fun a ha => ?_) (fun b o e => kp b o (fun q => ?_) (k1 b o e))
    · simp only [Rw.adrs, List.mem_cons, List.not_mem_nil, or_false] at ha
      rcases ha with rfl | rfl | rfl | rfl | rfl
      · exact back _ f1
      · exact back _ f2
      · rw [r1]; exact fresh _ (Nat.le_succ _)
      · rw [r2]; exact fresh _ (Nat.le_refl _)
      · exact back _ f3
    · simp at q
      subst q
      have := fresh _ (Nat.le_refl hh.objs.size)
      rw [this] at e; cases e
end Mine

namespace Mine
theorem rsLed {M : Model} {A : Around} {E : Value → Shared → Prop} {env : Env} {Q : Flow → Shared → Prop} {s : Shared} (h : Q .next s) : wpAny M A (execs [] env) Q E s := by
  w_top off
  walk1
  exact h
end Mine
namespace Mine

def RowT (w : World) (hb : Heap) (R : Rw) (ls : List Lk) (tl : List (Addr × Obj)) : Prop :=
  tl.map (·.1) = R.adrs ++ adrs ls ∧ ∃ h, RowAt w hb h R ls ∧ ∀ p ∈ tl, h.get? p.1 = some p.2
theorem RowT.at {w : World} {hb h : Heap} {R : Rw} {ls : List Lk} {tl : List (Addr × Obj)} (x : RowT w hb R ls tl) (k : ∀ p ∈ tl, h.get? p.1 = some p.2) : RowAt w hb h R ls := by
  obtain ⟨e, h₁, r, q⟩ := x
  refine r.keep fun b hb' o eo => ?_
  rw [← e] at hb'
  obtain ⟨p, hp, rfl⟩ := List.mem_map.mp hb'
  have := q p hp
  rw [eo] at this
  cases this
  exact k p hp
theorem tl_of {h : Heap} : ∀ {l : List Addr}, (∀ a ∈ l, ∃ o, h.get? a = some o) → ∃ tl : List (Addr × Obj), tl.map (·.1) = l ∧ ∀ p ∈ tl, h.get? p.1 = some p.2
  | [], _ => ⟨[], rfl, fun _ hp => (nomatch hp)⟩
  | a :: l, k => by
    obtain ⟨o, e⟩ := k a (.head _)
    obtain ⟨tl, e1, e2⟩ := tl_of fun b hb => k b (.tail _ hb)
    exact ⟨(a, o) :: tl, by rw [List.map_cons, e1], List.forall_mem_cons.mpr ⟨e, e2⟩⟩
theorem RowAt.toT {w : World} {hb h : Heap} {R : Rw} {ls : List Lk} (x : RowAt w hb h R ls) : ∃ tl, RowT w hb R ls tl ∧ ∀ p ∈ tl, h.get? p.1 = some p.2 := by
  obtain ⟨tl, e1, e2⟩ := tl_of x.alive
  exact ⟨tl, ⟨e1, h, x, e2⟩, e2⟩

theorem op_news {w : World} {h₀ h h' : Heap} {L : Addr} {m : Str → Option Value} {R : Rw} {ls ls' : List Lk} {tl C : List (Addr × Obj)} {as : List Addr} (F : Fr h₀ L h m) (N : News h₀ L h (C ++ tl)) (off : OwnOff tl (C.map (·.1))) (T : RowT w h₀ R ls tl)
    (k : ∀ b o, b ∉ as → h.get? b = some o → h'.get? b = some o) (has : ∀ a ∈ as, a ∈ R.adrs ++ adrs ls) (row' : RowAt w h₀ h' R ls') (hnew : ∀ a ∈ adrs ls', a ∈ R.adrs ++ adrs ls ∨ h.get? a = none) :
    ∃ tl', RowT w h₀ R ls' tl' ∧ Fr h₀ L h' m ∧ News h₀ L h' (C ++ tl') ∧ OwnOff tl' (C.map (·.1)) := by
  obtain ⟨tl', T', e'⟩ := row'.toT
  have e := T.1
  have aold : ∀ a ∈ R.adrs ++ adrs ls, a ≠ L ∧ a ∉ C.map (·.1) ∧ h₀.get? a = none := fun a ha => by
    rw [← e] at ha
    obtain ⟨p, hp, rfl⟩ := List.mem_map.mp ha
    refine ⟨(N p (List.mem_append_right _ hp)).2.1, fun q => off p hp _ q rfl, (N p (List.mem_append_right _ hp)).2.2⟩
  have anew : ∀ a, h.get? a = none → a ≠ L ∧ a ∉ C.map (·.1) := fun a ha => by
    refine ⟨?_, fun q => ?_⟩
    · rintro rfl
      obtain ⟨o, _, _, ho, _⟩ := F.ns
      rw [ha] at ho; cases ho
    · obtain ⟨p, hp, rfl⟩ := List.mem_map.mp q
      have := (N p (List.mem_append_left _ hp)).1
      rw [ha] at this; cases this
  have all : ∀ p ∈ tl', p.1 ≠ L ∧ p.1 ∉ C.map (·.1) := fun p hp => by
    have hm : p.1 ∈ R.adrs ++ adrs ls' := T'.1 ▸ List.mem_map_of_mem hp
    rcases List.mem_append.mp hm with q | q
    · have := aold _ (List.mem_append_left _ q); exact ⟨this.1, this.2.1⟩
    · rcases hnew _ q with q | q
      · have := aold _ q; exact ⟨this.1, this.2.1⟩
      · exact anew _ q
  refine ⟨tl', T', fr_off F k (fun b hb => (aold b (has b hb)).2.2) (fun q => (aold L (has L q)).1 rfl), fun p hp => ?_, fun p hp b hb q => (all p hp).2 (q ▸ hb)⟩
  rcases List.mem_append.mp hp with hp | hp
  · refine ⟨k _ _ (fun q => (aold _ (has _ q)).2.1 (List.mem_map_of_mem hp)) (N p (List.mem_append_left _ hp)).1, (N p (List.mem_append_left _ hp)).2⟩
  · exact ⟨e' p hp, (all p hp).1, row'.new _ (T'.1 ▸ List.mem_map_of_mem hp)⟩

theorem op_new {w : World} {h₀ h h' : Heap} {L : Addr} {m : Str → Option Value} {R : Rw} {C : List (Addr × Obj)} (F : Fr h₀ L h m) (N : News h₀ L h C)
    (k : ∀ b o, h.get? b = some o → h'.get? b = some o) (row' : RowAt w h₀ h' R []) (hnew : ∀ a ∈ R.adrs, h.get? a = none) :
    ∃ tl', RowT w h₀ R [] tl' ∧ Fr h₀ L h' m ∧ News h₀ L h' (C ++ tl') ∧ OwnOff tl' (C.map (·.1)) := by
  obtain ⟨tl', T', e'⟩ := row'.toT
  have anew : ∀ a, h.get? a = none → a ≠ L ∧ a ∉ C.map (·.1) := fun a ha => by
    refine ⟨?_, fun q => ?_⟩
    · rintro rfl
      obtain ⟨o, _, _, ho, _⟩ := F.ns
      rw [ha] at ho; cases ho
    · obtain ⟨p, hp, rfl⟩ := List.mem_map.mp q
      have := (N p hp).1
      rw [ha] at this; cases this
  have all : ∀ p ∈ tl', p.1 ≠ L ∧ p.1 ∉ C.map (·.1) := fun p hp => by
    have hm : p.1 ∈ R.adrs ++ adrs [] := T'.1 ▸ List.mem_map_of_mem hp
    rcases List.mem_append.mp hm with q | q
    · exact anew _ (hnew _ q)
    · exact absurd q (by simp [adrs])
  refine ⟨tl', T', fr_keep F k, fun p hp => ?_, fun p hp b hb q => (all p hp).2 (q ▸ hb)⟩
  rcases List.mem_append.mp hp with hp | hp
  · exact ⟨k _ _ (N p hp).1, (N p hp).2⟩
  · exact ⟨e' p hp, (all p hp).1, row'.new _ (T'.1 ▸ List.mem_map_of_mem hp)⟩
end Mine

namespace Mine
theorem rsFor {M : Model} {A : Around} {E : Value → Shared → Prop} {env : Env} {Q : Flow → Shared → Prop} {s : Shared} (h : Q .next s) : wpAny M A (execs [] env) Q E s := by
  w_top off
  walk1
  exact h
end Mine
namespace Mine

def LoopEnd (h₀ : Heap) (L : Addr) (I : Addr) (oI : Obj) (J : (Str → Option Value) → List (Addr × Obj) → Array GenState → Prop) (s₁ s₃ : Shared) : Prop :=
  ∃ h' tk gs' m' news', s₃ = { s₁ with heap := h', toks := tk, gens := gs' } ∧ Fr h₀ L h' m' ∧ News h₀ L h' ((I, oI) :: news') ∧ (∀ p ∈ news', p.1 ≠ I) ∧ J m' news' gs'
def TurnR (h₀ : Heap) (L : Addr) (I : Addr) (oI : Obj) (J : (Str → Option Value) → List (Addr × Obj) → Array GenState → Prop) (s₁ : Shared) (Q : Flow → Shared → Prop) (f : Flow) (s₃ : Shared) : Prop :=
  match f with
  | .next => LoopEnd h₀ L I oI J s₁ s₃
  | .cont => LoopEnd h₀ L I oI J s₁ s₃
  | .brk => Q .next s₃
  | .ret v => Q (.ret v) s₃

def ForSrc (w : World) (A : Around) (h₀ : Heap) (env : Env) (target : Expr) (body : List Stmt) (Q : Flow → Shared → Prop) (E : Value → Shared → Prop) (n : Nat) (J : Nat → (Str → Option Value) → List (Addr × Obj) → Array GenState → Prop) (xv : Value) (s₁ : Shared) : Prop :=
  ∃ r b t u v m news, xv = .ref r ∧ A.handled = none ∧ IsRange s₁.heap r 0 b 1 t u v ∧ b = ((n : Nat) : Int) ∧ n ≤ 1000 ∧ Fr h₀ env.locals s₁.heap m ∧ News h₀ env.locals s₁.heap news ∧ J 0 m news s₁.gens ∧
    (∀ i t I oI h tk gs m news, i < n → Fr h₀ env.locals h m → News h₀ env.locals h ((I, oI) :: news) → (∀ p ∈ news, p.1 ≠ I) → J i m news gs →
      wpAny (model PG w) A (assign target env (.int (i : Nat) t)) (fun _ s₂ => wpAny (model PG w) A (execs body env) (TurnR h₀ env.locals I oI (J (i + 1)) { s₁ with heap := h, toks := tk, gens := gs } Q) E s₂) E { s₁ with heap := h, toks := tk, gens := gs }) ∧
    (∀ h tk gs m news, Fr h₀ env.locals h m → News h₀ env.locals h news → J n m news gs → Q .next { s₁ with heap := h, toks := tk, gens := gs })

theorem for_range {w : World} {A : Around} {s : Shared} {env : Env} {E : Value → Shared → Prop} {Q : Flow → Shared → Prop} {x : Str} {px : Pos} {iter : Expr} {pos : Pos} {body : List Stmt} (h₀ : Heap) (n : Nat) (J : Nat → (Str → Option Value) → List (Addr × Obj) → Array GenState → Prop)
    (hE : PassesOwn (model PG w) A env E)
    (h : wpAny (model PG w) A (eval iter env) (ForSrc w A h₀ env (.Name x px) body Q E n J) E s)
    (hs : ∀ x, foldedSetIterable iter env x = pure x := by intro _; rfl) :
    wpAny (model PG w) A (exec (.For (.Name x px) iter body [] pos) env) Q E s := by
  refine wpAny_For (wpAny_mono h (fun xv s₁ h₁ => ?_) fun _ _ e => e) hs
  obtain ⟨r, b, t, u, v, m, news, rfl, hh, hr, rfl, hn, F, N, j0, step, fin⟩ := h₁
  refine wpAny_pyIter_range hr (small_one (by omega) (by omega) (by omega) (by omega)) ?_
  rw [show Builtin.Range.rangeSize 0 (n : Int) 1 = (n : Int) by have := rangeSize_nat 0 (n : Int); rw [this]; omega]
  generalize hI : s₁.heap.objs.size = I
  generalize hH : s₁.heap.push { cls := .type "range_iterator", data := .fields #[rawInt 0, rawInt (n : Int), rawInt 1] } = H
  have k1 : ∀ b o, s₁.heap.get? b = some o → H.get? b = some o := fun b o e => hH ▸ Heap.get?_push_of_some _ e
  have eI : IsRangeIter H I (0 + ((0 : Nat) : Int) * 1) ((n : Int) - ((0 : Nat) : Int)) 1 := by
    subst hH hI
    have := Heap.get?_push_size s₁.heap (o := { cls := .type "range_iterator", data := .fields #[rawInt 0, rawInt (n : Int), rawInt 1] }) rfl
    show _ = _
    rw [this]; simp
  have W := LCg.range_walks (prog := PG) (w := w) (A := A) (I := I) hh 0 n
  have ltI : ∀ b o, s₁.heap.get? b = some o → b ≠ I := fun b o e => hI ▸ Nat.ne_of_lt (Heap.lt_size e)
  have LI : env.locals ≠ I := by obtain ⟨o, _, _, ho, _⟩ := F.ns; exact ltI _ _ ho
  have nI : h₀.get? I = none := by
    cases q : h₀.get? I with
    | none => rfl
    | some o => exact absurd rfl (ltI _ _ (F.keep _ _ q))
  refine codeAny_forLoop_any (fun k s' => ∃ h' tk gs' m' news' i, s' = { s₁ with heap := h', toks := tk, gens := gs' } ∧ IsRangeIter h' I (0 + (i : Nat) * 1) ((n : Int) - (i : Nat)) 1 ∧
      Fr h₀ env.locals h' m' ∧ News h₀ env.locals h' news' ∧ (∀ p ∈ news', p.1 ≠ I) ∧ J i m' news' gs' ∧ i ≤ n ∧ k = n + 1 - i) ?_ (n + 1)
    ⟨H, s₁.toks, s₁.gens, m, news, 0, rfl, eI, ⟨F.ns.at' fun o e => k1 _ _ e, fun b o e => k1 _ _ (F.keep _ _ e), F.above⟩, fun p hp => ⟨k1 _ _ (N p hp).1, (N p hp).2⟩, fun p hp => ltI _ _ (N p hp).1, j0, Nat.zero_le _, rfl⟩
  rintro k s' ⟨h', tk, gs', m', news', i, rfl, st, F', N', off', hJ, hi, rfl⟩
  have next : ∀ h₁ : Heap, (∀ b o, b ∉ [I] → h'.get? b = some o → h₁.get? b = some o) → Fr h₀ env.locals h₁ m' ∧ News h₀ env.locals h₁ news' := fun h₁ hk₁ =>
    have hk : ∀ b o, b ≠ I → h'.get? b = some o → h₁.get? b = some o := fun b o hb e => hk₁ b o (by simpa using hb) e
    ⟨⟨F'.ns.at' fun o e => hk _ o LI e, fun b o e => hk b o (fun q => by subst q; rw [nI] at e; cases e) (F'.keep b o e), F'.above⟩, fun p hp => ⟨hk _ _ (off' p hp) (N' p hp).1, (N' p hp).2⟩⟩
  by_cases hlt : i < n
  · refine W.item i _ _ _ hlt st fun v h₁ tk₁ hP hst₁ hk₁ => ?_
    obtain ⟨F₁, N₁⟩ := next h₁ hk₁
    obtain ⟨t', rfl⟩ := hP
    rw [show (0 + (i : Int)) = ((i : Nat) : Int) by omega]
    have eo : ∃ oI, h₁.get? I = some oI := ⟨_, hst₁⟩
    obtain ⟨oI, eo⟩ := eo
    have N₂ : News h₀ env.locals h₁ ((I, oI) :: news') := List.forall_mem_cons.mpr ⟨⟨eo, fun q => LI q.symm, nI⟩, N₁⟩
    refine wpAny_pure ?_
    refine wpAny_passesOwn hE (wpAny_mono (step i t' I oI h₁ tk₁ gs' m' news' hlt F₁ N₂ off' hJ) (fun _ s₂ h₂ => wpAny_passesOwn hE (wpAny_mono h₂ (fun f s₃ h₃ => ?_) fun _ _ e => e)) fun _ _ e => e)
    have back : LoopEnd h₀ env.locals I oI (J (i + 1)) { s₁ with heap := h₁, toks := tk₁, gens := gs' } s₃ → ∃ m, m < n + 1 - i ∧ ∃ h' tk gs' m' news' i, s₃ = { s₁ with heap := h', toks := tk, gens := gs' } ∧ IsRangeIter h' I (0 + (i : Nat) * 1) ((n : Int) - (i : Nat)) 1 ∧
      Fr h₀ env.locals h' m' ∧ News h₀ env.locals h' news' ∧ (∀ p ∈ news', p.1 ≠ I) ∧ J i m' news' gs' ∧ i ≤ n ∧ m = n + 1 - i := by
      rintro ⟨g₃, tk₃, gs₃, m₃, news₃, e₃, F₃, N₃, off₃, J₃⟩
      refine ⟨n + 1 - (i + 1), by omega, g₃, tk₃, gs₃, m₃, news₃, i + 1, e₃, ?_, F₃, fun p hp => N₃ p (.tail _ hp), off₃, J₃, hlt, rfl⟩
      have e3 := (N₃ _ (.head _)).1
      have h1 : h₁.get? I = some _ := hst₁
      rw [eo] at h1
      show g₃.get? I = some _
      rw [e3, h1]
    cases f with
    | next => exact back h₃
    | cont => exact back h₃
    | brk => exact h₃
    | ret v => exact h₃
  · have hin : i = n := by omega
    subst hin
    refine W.done _ _ _ st fun h₁ tk₁ hk₁ => wpAny_execs_nil ?_
    obtain ⟨F₁, N₁⟩ := next h₁ hk₁
    exact fin h₁ tk₁ gs' m' news' F₁ N₁ hJ

theorem while_loop {w : World} {A : Around} {s : Shared} {env : Env} {E : Value → Shared → Prop} {Q : Flow → Shared → Prop} {test : Expr} {pos : Pos} {body : List Stmt} (I : Nat → Shared → Prop)
    (hE : PassesOwn (model PG w) A env E)
    (turn : ∀ n s, I n s → wpAny (model PG w) A (isTrue test env (eval test env)) (fun b s₂ => if b then wpAny (model PG w) A (execs body env) (fun f s₃ => match f with
            | .next | .cont => ∃ m, m < n ∧ I m s₃
            | .brk => Q .next s₃
            | .ret v => Q (.ret v) s₃) E s₂
        else Q .next s₂) E s)
    (n : Nat) (h : I n s) : wpAny (model PG w) A (exec (.While test body [] pos) env) Q E s := by
  refine wpAny_While (codeAny_whileLoop I (fun n s hI => ?_) n h)
  refine wpAny_passesOwn hE (wpAny_mono (turn n s hI) (fun b s₂ h₂ => ?_) fun _ _ e => e)
  cases b with
  | false =>
    simp only [Bool.false_eq_true, if_false] at h₂ ⊢
    exact wpAny_execs_nil h₂
  | true =>
    simp only [if_true] at h₂ ⊢
    exact wpAny_passesOwn hE (wpAny_mono h₂ (fun f s₃ h₃ => by cases f <;> exact h₃) fun _ _ e => e)
end Mine

namespace Mine
theorem rsAst {M : Model} {A : Around} {E : Value → Shared → Prop} {env : Env} {Q : Flow → Shared → Prop} {s : Shared} (h : Q .next s) : wpAny M A (execs [] env) Q E s := by
  w_top off
  walk1
  exact h
end Mine
namespace Mine
def outBody : List Stmt := Subtype.val (p := fun b => ∃ n a d r tp sc ts bd pos, PG.main.body[4]? = some (Stmt.FunctionDef n a b d r tp sc ts bd pos)) ⟨_, _, _, _, _, _, _, _, _, _, rfl⟩
def outScope : Scope := Subtype.val (p := fun sc => ∃ n a b d r tp ts bd pos, PG.main.body[4]? = some (Stmt.FunctionDef n a b d r tp sc ts bd pos)) ⟨_, _, _, _, _, _, _, _, _, _, rfl⟩
def forBody : List Stmt := Subtype.val (p := fun b => ∃ x t i o p l, outBody = x :: Stmt.For t i b o p :: l) ⟨_, _, _, _, _, _, _, rfl⟩
def whTest : Expr := Subtype.val (p := fun t => ∃ b o p l, forBody = Stmt.While t b o p :: l) ⟨_, _, _, _, _, rfl⟩
def whBody : List Stmt := Subtype.val (p := fun b => ∃ t o p l, forBody = Stmt.While t b o p :: l) ⟨_, _, _, _, _, rfl⟩
end Mine

namespace Mine
theorem rsWh {M : Model} {A : Around} {E : Value → Shared → Prop} {env : Env} {Q : Flow → Shared → Prop} {s : Shared} (h : Q .next s) : wpAny M A (execs [] env) Q E s := by
  w_top off
  walk1
  exact h
end Mine
namespace Mine

abbrev outEnv (L : Addr) : Env := envOfC (Str.ofString "_law_out") outScope L 130 (.ref 129)
def nm (k : Int) : Str := Str.ofString "n" ++ Str.ofString (toString k)
theorem sub_lst {w : World} {A : Around} {s : Shared} {E : Value → Shared → Prop} {Q : Value → Shared → Prop} {h₀ : Heap} {L : Addr} {l : List (Addr × Obj)} {nl : Addr} {ys : List Value} {value slice : Expr} {k : Int} {u : Tok} {v : Value}
    (N : News h₀ L s.heap l) (hm : (nl, LCg.lst ys) ∈ l) (h0 : 0 ≤ k) (hk : k < 1000) (hx : ys[k.toNat]? = some v) (h : Q v s)
    (hs : subscripted slice false (.ref nl) (.int k u) = operate [.ref nl, .int k u] (getItem (.ref nl) (.int k u)) := by with_unfolding_all rfl) :
    wpAny (model PG w) A (subscriptTail value slice (.ref nl) (.int k u)) Q E s := by
  have hL : s.heap.IsList nl ys.toArray := ⟨_, (N _ hm).1, rfl, _, rfl⟩
  exact tail_any hL.typeIs PySem.F.slot_list_getitem.lookup (wpAny_getItem_list hL h0 (by omega) (by simpa using hx) h) hs
section
variable {w : World} {dp un : Nat} {fr : Option (List Env)} {gd : Option (List Code)} {s : Shared} {h₀ : Heap} {L : Addr} {mg mb : Str → Option Value} {loose : List Str} {mean : ExcName → Option Value} {E : Value → Shared → Prop} {o : Addr} {vs : List Value} {ord : List Nat} {nl I : Addr} {ys : List Value} {oI oT oN oO : Obj} {tl : List (Addr × Obj)} {R : Rw} {ls : List Lk} {u : Str → Option Value} {i : Int} {ti tt : Tok} {t x : Nat} {n : Nat}

theorem wh_test {Q : Bool → Shared → Prop} (Z : Bs w h₀ loose mean mg mb) (hroom : dp + 10 < recursionLimit) (ho : h₀.IsList o vs.toArray) (hi : IntsAre vs (ord.map fun k : Nat => (k : Int))) (hn : ord.length = n) (h7 : n ≤ 7)
    (ht : ord[t]? = some x) (hx : x < n) (hys : ∀ k : Nat, k < n → ∃ tk, ys[k]? = some (.str (nm (k : Nat)) tk))
    (F : Fr h₀ L s.heap (fun y => if y = Str.ofString "into" then some (.int i ti) else if y = Str.ofString "row" then some (.ref R.r) else u y))
    (N : News h₀ L s.heap ((I, oI) :: (nl, LCg.lst ys) :: (L + 1 + 1 + 1, oT) :: (L + 1 + 1, oN) :: (L + 1, oO) :: tl))
    (dT : oT.data = .cell (some (.int (t : Nat) tt))) (dN : oN.data = .cell (some (.ref nl))) (dO : oO.data = .cell (some (.ref o)))
    (RT : RowT w h₀ R ls tl)
    (h : ∀ h' tk', (∀ b o, s.heap.get? b = some o → h'.get? b = some o) → Q (!decide (nm (x : Nat) ∈ ls.map (·.key))) { s with heap := h', toks := tk' }) :
    wpAny (model PG w) ⟨none, dp, fr, gd, un⟩ (isTrue whTest (outEnv L) (eval whTest (outEnv L))) Q E s := by
  have X := Z.X
  have T := Z.T
  have htl : t < ord.length := (List.getElem?_eq_some_iff.mp ht).1
  unfold whTest outEnv outScope
  (try dsimp only)
  k_steps
  have hv : (ord.map fun k : Nat => (k : Int)).getD ((t : Int)).toNat 0 = (x : Nat) := by simp [ht]
  obtain ⟨tk, hk⟩ := hys x hx
  refine sub_lst N (.tail _ (.head _)) (by rw [hv]; omega) (by rw [hv]; omega) (by rw [hv]; simpa using hk) ?_
  k_steps
  refine notin_row Z F.keep (by omega) (RT.at fun p hp => (N p (.tail _ (.tail _ (.tail _ (.tail _ (.tail _ hp)))))).1) F X ?_
  intro h' tk' hk'
  exact wpAny_truthy_bool (h h' tk' hk')
end
end Mine

namespace Mine
theorem rsWb {M : Model} {A : Around} {E : Value → Shared → Prop} {env : Env} {Q : Flow → Shared → Prop} {s : Shared} (h : Q .next s) : wpAny M A (execs [] env) Q E s := by
  w_top off
  walk1
  exact h
end Mine
namespace Mine
local macro_rules | `(tactic| walk_at "getMethod ref") => `(tactic| refine stop ?_)
local macro_rules | `(tactic| walk_at "call ref") => `(tactic| refine stop ?_)
theorem upd_twice {A : Str} {v : Value} {p : Option Value} {q : Str → Option Value} : (fun y => if y = A then some v else if y = A then p else q y) = fun y => if y = A then some v else q y := by
  funext y; by_cases h : y = A <;> simp [h]
section
variable {w : World} {dp un : Nat} {fr : Option (List Env)} {gd : Option (List Code)} {s : Shared} {h₀ : Heap} {L : Addr} {mg mb : Str → Option Value} {loose : List Str} {mean : ExcName → Option Value} {E : Value → Shared → Prop} {o : Addr} {vs : List Value} {ord : List Nat} {nl I : Addr} {ys : List Value} {oI oT oN oO : Obj} {tl : List (Addr × Obj)} {R : Rw} {ls : List Lk} {u : Str → Option Value} {ti tt : Tok} {t x i : Nat} {n : Nat}

theorem wh_body {Q : Flow → Shared → Prop} (Z : Bs w h₀ loose mean mg mb) (hroom : dp + 10 < recursionLimit) (h7 : n ≤ 7)
    (hin : i < n) (hys : ∀ k : Nat, k < n → ∃ tk, ys[k]? = some (.str (nm (k : Nat)) tk))
    (F : Fr h₀ L s.heap (fun y => if y = Str.ofString "into" then some (.int (i : Nat) ti) else if y = Str.ofString "row" then some (.ref R.r) else u y))
    (N : News h₀ L s.heap ((I, oI) :: (nl, LCg.lst ys) :: (L + 1 + 1 + 1, oT) :: (L + 1 + 1, oN) :: (L + 1, oO) :: tl))
    (dN : oN.data = .cell (some (.ref nl)))
    (RT : RowT w h₀ R ls tl) (off : OwnOff tl [I, nl, L + 1 + 1 + 1, L + 1 + 1, L + 1]) (hk : nm (i : Nat) ∉ ls.map (·.key)) (hl : ls.length ≤ 100)
    (h : ∀ h' tk' tl' l ti', l.key = nm (i : Nat) → RowT w h₀ R (ls ++ [l]) tl' → OwnOff tl' [I, nl, L + 1 + 1 + 1, L + 1 + 1, L + 1] →
      Fr h₀ L h' (fun y => if y = Str.ofString "into" then some (.int ((i + 1 : Nat) : Int) ti') else if y = Str.ofString "row" then some (.ref R.r) else u y) →
      News h₀ L h' ((I, oI) :: (nl, LCg.lst ys) :: (L + 1 + 1 + 1, oT) :: (L + 1 + 1, oN) :: (L + 1, oO) :: tl') → Q .next { s with heap := h', toks := tk' }) :
    wpAny (model PG w) ⟨none, dp, fr, gd, un⟩ (execs whBody (outEnv L)) Q E s := by
  have X := Z.X
  have T := Z.T
  have row : RowAt w h₀ s.heap R ls := RT.at fun p hp => (N p (.tail _ (.tail _ (.tail _ (.tail _ (.tail _ hp)))))).1
  unfold whBody outEnv outScope
  (try dsimp only)
  k_steps
  refine method_row (f := 68) (X.keeps F.keep) row (by k_is) (by k_is) (by k_is) (by k_get) ?_
  (try dsimp only)
  k_steps
  obtain ⟨tk, hk'⟩ := hys i hin
  refine sub_lst N (.tail _ (.head _)) (by omega) (by omega) (by simpa using hk') ?_
  (try dsimp only)
  k_steps
  refine wpAny_call (add_row Z F.keep (by omega) row hk (by omega) ?_)
  intro h₂ tk₂ a d row2 f1 f2 kp
  obtain ⟨tl2, RT2, F2, N2, off2⟩ := op_news (C := [(I, oI), (nl, LCg.lst ys), (L + 1 + 1 + 1, oT), (L + 1 + 1, oN), (L + 1, oO)]) F N off RT kp wr_sub row2 (by
    intro b hb
    rw [adrs_append] at hb
    rcases List.mem_append.mp hb with hb | hb
    · exact .inl (List.mem_append_right _ hb)
    · simp [adrs] at hb
      rcases hb with rfl | rfl
      · exact .inr f1
      · exact .inr f2)
  clear F N
  simp only [List.cons_append, List.nil_append] at N2
  (try dsimp only)
  k_steps
  rename Fr _ _ _ _ => F9
  rename News _ _ _ _ => N9
  exact h _ _ tl2 ⟨a, d, nm (i : Nat), tk⟩ _ rfl RT2 off2 (Eq.mp (congrArg (fun m => Fr h₀ L _ m) upd_twice) F9) N9

theorem wh_loop {pos : Pos} {done : List Nat} {Q : Flow → Shared → Prop} (Z : Bs w h₀ loose mean mg mb) (hroom : dp + 10 < recursionLimit) (ho : h₀.IsList o vs.toArray) (hi : IntsAre vs (ord.map fun k : Nat => (k : Int))) (hn : ord.length = n) (h7 : n ≤ 7)
    (ht : ord[t]? = some x) (hx : x < n) (hys : ∀ k : Nat, k < n → ∃ tk, ys[k]? = some (.str (nm (k : Nat)) tk)) (hE : PassesOwn (model PG w) ⟨none, dp, fr, gd, un⟩ (outEnv L) E) (hnm : ∀ a b : Nat, a < n → b < n → nm (a : Nat) = nm (b : Nat) → a = b)
    (F : Fr h₀ L s.heap (fun y => if y = Str.ofString "into" then some (.int (i : Nat) ti) else if y = Str.ofString "row" then some (.ref R.r) else u y))
    (N : News h₀ L s.heap ((I, oI) :: (nl, LCg.lst ys) :: (L + 1 + 1 + 1, oT) :: (L + 1 + 1, oN) :: (L + 1, oO) :: tl))
    (dT : oT.data = .cell (some (.int (t : Nat) tt))) (dN : oN.data = .cell (some (.ref nl))) (dO : oO.data = .cell (some (.ref o)))
    (RT : RowT w h₀ R ls tl) (off : OwnOff tl [I, nl, L + 1 + 1 + 1, L + 1 + 1, L + 1])
    (hks : ls.map (·.key) = ((List.range i).filter fun k => decide (k ∉ done)).map fun k : Nat => nm (k : Nat)) (hin : i ≤ n) (hdone : ∀ d ∈ done, d < i) (hxd : x ∉ done)
    (h : ∀ h' tk' tl' ls' ti', RowT w h₀ R ls' tl' → OwnOff tl' [I, nl, L + 1 + 1 + 1, L + 1 + 1, L + 1] →
      ls'.map (·.key) = ((List.range (max i (x + 1))).filter fun k => decide (k ∉ done)).map (fun k : Nat => nm (k : Nat)) →
      Fr h₀ L h' (fun y => if y = Str.ofString "into" then some (.int ((max i (x + 1) : Nat) : Int) ti') else if y = Str.ofString "row" then some (.ref R.r) else u y) →
      News h₀ L h' ((I, oI) :: (nl, LCg.lst ys) :: (L + 1 + 1 + 1, oT) :: (L + 1 + 1, oN) :: (L + 1, oO) :: tl') → Q .next { s with heap := h', toks := tk' }) :
    wpAny (model PG w) ⟨none, dp, fr, gd, un⟩ (exec (.While whTest whBody [] pos) (outEnv L)) Q E s := by
  refine while_loop (fun k s' => ∃ h' tk' tl' ls' ti' i', s' = { s with heap := h', toks := tk' } ∧ RowT w h₀ R ls' tl' ∧ OwnOff tl' [I, nl, L + 1 + 1 + 1, L + 1 + 1, L + 1] ∧
      ls'.map (·.key) = ((List.range i').filter fun k => decide (k ∉ done)).map (fun k : Nat => nm (k : Nat)) ∧
      Fr h₀ L h' (fun y => if y = Str.ofString "into" then some (.int (i' : Nat) ti') else if y = Str.ofString "row" then some (.ref R.r) else u y) ∧
      News h₀ L h' ((I, oI) :: (nl, LCg.lst ys) :: (L + 1 + 1 + 1, oT) :: (L + 1 + 1, oN) :: (L + 1, oO) :: tl') ∧ i ≤ i' ∧ i' ≤ max i (x + 1) ∧ k = n + 1 - i') hE ?_ (n + 1 - i) ⟨s.heap, s.toks, tl, ls, ti, i, rfl, RT, off, hks, F, N, Nat.le_refl _, Nat.le_max_left _ _, rfl⟩
  rintro k s' ⟨h', tk', tl', ls', ti', i', rfl, RT', off', hks', F', N', hle, hmax, rfl⟩
  have hi'n : i' ≤ n := by omega
  refine wh_test Z hroom ho hi hn h7 ht hx hys F' N' dT dN dO RT' ?_
  intro h₂ tk₂ kp
  have F₂ := fr_keep F' kp
  have N₂ : News h₀ L h₂ ((I, oI) :: (nl, LCg.lst ys) :: (L + 1 + 1 + 1, oT) :: (L + 1 + 1, oN) :: (L + 1, oO) :: tl') := fun p hp => ⟨kp _ _ (N' p hp).1, (N' p hp).2⟩
  have key : nm (x : Nat) ∈ ls'.map (·.key) ↔ x < i' := by
    rw [hks', List.mem_map]
    constructor
    · rintro ⟨a, ha, e⟩
      simp only [List.mem_filter, List.mem_range] at ha
      have := hnm a x (by omega) hx e
      omega
    · intro hlt
      exact ⟨x, by simp [hlt, hxd], rfl⟩
  by_cases hc : x < i'
  · rw [decide_eq_true (key.mpr hc)]
    show Q .next _
    have e : i' = max i (x + 1) := by omega
    rw [e] at hks' F₂
    exact h h₂ tk₂ tl' ls' ti' RT' off' hks' F₂ N₂
  · rw [decide_eq_false (fun q => hc (key.mp q))]
    show wpAny _ _ _ _ _ _
    have hlen : ls'.length ≤ 100 := by
      have h1 : ls'.length = (ls'.map (·.key)).length := by simp
      rw [h1, hks', List.length_map]
      exact Nat.le_trans (List.length_filter_le _ _) (by simp; omega)
    refine wh_body Z hroom h7 (by omega : i' < n) hys F₂ N₂ dN RT' off' ?_ hlen ?_
    · rw [hks', List.mem_map]
      rintro ⟨a, ha, e⟩
      simp only [List.mem_filter, List.mem_range] at ha
      have := hnm a i' (by omega) (by omega) e
      omega
    · intro h₃ tk₃ tl₃ l ti₃ hl RT₃ off₃ F₃ N₃
      refine ⟨n + 1 - (i' + 1), by omega, h₃, tk₃, tl₃, ls' ++ [l], ti₃, i' + 1, rfl, RT₃, off₃, ?_, F₃, N₃, by omega, by omega, rfl⟩
      have hni : i' ∉ done := fun q => by have := hdone _ q; omega
      rw [List.map_append, hks', List.range_succ, List.filter_append, List.map_append]
      simp [hl, hni]
end
end Mine

namespace Mine
theorem rsEqs {M : Model} {A : Around} {E : Value → Shared → Prop} {env : Env} {Q : Flow → Shared → Prop} {s : Shared} (h : Q .next s) : wpAny M A (execs [] env) Q E s := by
  w_top off
  walk1
  exact h
end Mine
namespace Mine
theorem se_canLayAll0 : ∀ ns : List Str, (∀ x ∈ ns, PyData.strOk x = true) → PyData.canLayAll0 (ns.map PyData.str) = true
  | [], _ => rfl
  | a :: r, h => by simp [PyData.canLayAll0, PyData.canLay0, h a (.head _), se_canLayAll0 r fun x hx => h x (.tail _ hx)]
theorem se_depthAll : ∀ ns : List Str, PyData.depthAll (ns.map PyData.str) = 0
  | [] => rfl
  | _ :: r => by simp [PyData.depthAll, PyData.depth, se_depthAll r]
theorem se_shaped (ns : List Str) (h : ∀ x ∈ ns, PyData.strOk x = true) : SeqAt.shaped (.list (ns.map PyData.str)) = true := by
  simp [SeqAt.shaped, PyData.canLay0, PyData.depth, se_canLayAll0 ns h, se_depthAll]
theorem se_sameAll : ∀ ns ms : List Str, PySem.Spec.sameAll (ns.map PyData.str) (ms.map PyData.str) = decide (ns = ms)
  | [], [] => by simp [PySem.Spec.sameAll]
  | [], _ :: _ => by simp [PySem.Spec.sameAll]
  | _ :: _, [] => by simp [PySem.Spec.sameAll]
  | a :: r, b :: t => by
    simp only [List.map_cons, PySem.Spec.sameAll, PySem.Spec.same, se_sameAll r t]
    by_cases h : a = b <;> by_cases h' : r = t <;> simp [h, h']
theorem se_same (ns ms : List Str) : PySem.Spec.same (.list (ns.map PyData.str)) (.list (ms.map PyData.str)) = decide (ns = ms) := by
  simp only [PySem.Spec.same]; exact se_sameAll ns ms
theorem ne_strs {w : World} {A : Around} {E : Value → Shared → Prop} {s : Shared} {a b : Addr} {xs ys : List Value} {ns ms : List Str} {Q : Value → Shared → Prop} (ha : s.heap.IsList a xs.toArray) (hb : s.heap.IsList b ys.toArray) (hi : CarriedAll xs (ns.map PyData.str)) (hj : CarriedAll ys (ms.map PyData.str)) (o1 : ∀ x ∈ ns, PyData.strOk x = true) (o2 : ∀ x ∈ ms, PyData.strOk x = true) (hu : A.units + 64 < cLine) (h : Q (.bool (!decide (ns = ms))) s) :
    wpAny (model PG w) A (compareOp .NotEq (.ref a) (.ref b)) Q E s :=
  ne_dataH_same (reads_newData ha hi) (reads_newData hb hj) (se_shaped _ o1) (se_shaped _ o2) hu (SeqAt.noMix_of_shape (.list .str) rfl _ _ (list_map_has fun _ => rfl) (list_map_has fun _ => rfl)) (by rw [se_same]; exact h)

theorem fold_filter {α : Type} [DecidableEq α] (S : List α) : ∀ (ks l : List α), ks.foldl (fun l k => if k ∈ S then l else l ++ [k]) l = l ++ ks.filter (fun k => decide (k ∉ S))
  | [], l => by simp
  | k :: ks, l => by
    rw [List.foldl_cons, fold_filter S ks]
    by_cases h : k ∈ S <;> simp [h]
theorem rangeKs_nat (n : Nat) : rangeKs 0 n = (List.range n).map fun k : Nat => (k : Int) := by
  simp [rangeKs]
theorem left_eq (i : Nat) (S : List Nat) : (rangeKs 0 ((i : Int) - 0).toNat).foldl (fun l k => if k ∈ S.map (fun k : Nat => (k : Int)) then l else l ++ [k]) [] = ((List.range i).filter fun k => decide (k ∉ S)).map fun k : Nat => (k : Int) := by
  rw [fold_filter, List.nil_append, show ((i : Int) - 0).toNat = i by omega, rangeKs_nat, List.filter_map]
  congr 1
  apply List.filter_congr
  intro k _
  have e : (decide (((k : Nat) : Int) ∉ S.map (fun k : Nat => (k : Int)))) = decide (k ∉ S) := by
    apply decide_eq_decide.mpr
    rw [List.mem_map]
    constructor
    · intro h q; exact h ⟨k, q, rfl⟩
    · rintro h ⟨a, ha, e⟩
      have e' : a = k := by omega
      subst e'
      exact h ha
  exact e
theorem carried_keys (ls : List Lk) : CarriedAll (ls.map fun l => Value.str l.key l.tok) ((ls.map (·.key)).map PyData.str) := by
  induction ls with
  | nil => exact .nil
  | cons l ls ih => exact .cons (.str _ _) ih
end Mine

namespace Mine
theorem rsRb {M : Model} {A : Around} {E : Value → Shared → Prop} {env : Env} {Q : Flow → Shared → Prop} {s : Shared} (h : Q .next s) : wpAny M A (execs [] env) Q E s := by
  w_top off
  walk1
  exact h
end Mine
namespace Mine
def restBody : List Stmt := Subtype.val (p := fun l => ∃ x, forBody = x :: l) ⟨_, _, rfl⟩
def restBody2 : List Stmt := Subtype.val (p := fun l => ∃ x, restBody = x :: l) ⟨_, _, rfl⟩
def tailBody : List Stmt := Subtype.val (p := fun l => ∃ x, restBody2 = x :: l) ⟨_, _, rfl⟩
theorem off1_ne {D : Addr} {l : List (Addr × Obj)} (h : LCg.Off1 D l) : ∀ p ∈ l, p.1 ≠ D := by
  induction l with
  | nil => exact fun _ hp => (nomatch hp)
  | cons a l ih => exact List.forall_mem_cons.mpr ⟨h.1, ih h.2⟩
def TailMark : Prop := True
local macro_rules | `(tactic| walk_at "execs cons") => `(tactic| ((with_reducible rename TailMark => tmk); refine stop ?_))
local macro_rules | `(tactic| walk_at "getMethod ref") => `(tactic| refine stop ?_)
local macro_rules | `(tactic| walk_at "call ref") => `(tactic| refine stop ?_)
local macro_rules | `(tactic| walk_at "CompSrc") => `(tactic| refine stop ?_)
local macro_rules | `(tactic| walk_at "CompSrcT") => `(tactic| refine stop ?_)
local macro_rules | `(tactic| walk_at "eval ListComp") => `(tactic| refine stop ?_)
local macro_rules | `(tactic| walk_at "compareOp NotEq ref ref") => `(tactic| refine stop ?_)
local macro_rules | `(tactic| walk_at "subscriptTail Name UnaryOp ref int") => `(tactic| refine stop ?_)
local macro_rules | `(tactic| walk_at "subscriptTail Name Constant ref int") => `(tactic| refine stop ?_)
section
variable {w : World} {dp un : Nat} {fr : Option (List Env)} {gd : Option (List Code)} {s : Shared} {h₀ : Heap} {L : Addr} {mg mb : Str → Option Value} {loose : List Str} {mean : ExcName → Option Value} {E : Value → Shared → Prop} {o : Addr} {vs : List Value} {ord : List Nat} {nl I : Addr} {ys : List Value} {oI oT oN oO : Obj} {tl : List (Addr × Obj)} {R : Rw} {ls : List Lk} {u : Str → Option Value} {ti tt : Tok} {t x i : Nat} {n : Nat}

theorem rest_body {Q : Flow → Shared → Prop} (Z : Bs w h₀ loose mean mg mb) (hroom : dp + 20 < recursionLimit) (hun : un + 200 < cLine) (ho : h₀.IsList o vs.toArray) (hi : IntsAre vs (ord.map fun k : Nat => (k : Int))) (hn : ord.length = n) (h7 : n ≤ 7)
    (ht : ord[t]? = some x) (hx : x < n) (hys : ∀ k : Nat, k < n → ∃ tk, ys[k]? = some (.str (nm (k : Nat)) tk)) (hnm : ∀ a b : Nat, a < n → b < n → nm (a : Nat) = nm (b : Nat) → a = b) (hok : ∀ a : Nat, a < n → PyData.strOk (nm (a : Nat)) = true) (hxi : x < i) (hxd : x ∉ ord.take t)
    (F : Fr h₀ L s.heap (fun y => if y = Str.ofString "into" then some (.int (i : Nat) ti) else if y = Str.ofString "row" then some (.ref R.r) else u y))
    (N : News h₀ L s.heap ((I, oI) :: (nl, LCg.lst ys) :: (L + 1 + 1 + 1, oT) :: (L + 1 + 1, oN) :: (L + 1, oO) :: tl))
    (dT : oT.data = .cell (some (.int (t : Nat) tt))) (dN : oN.data = .cell (some (.ref nl))) (dO : oO.data = .cell (some (.ref o)))
    (RT : RowT w h₀ R ls tl) (off : OwnOff tl [I, nl, L + 1 + 1 + 1, L + 1 + 1, L + 1])
    (hks : ls.map (·.key) = ((List.range i).filter fun k => decide (k ∉ ord.take t)).map fun k : Nat => nm (k : Nat)) (hin : i ≤ n)
    (h : ∀ h' tk' D yl, IntsAre yl (((List.range i).filter fun k => decide (k ∉ ord.take t)).map fun k : Nat => (k : Int)) → OwnOff tl [D, I, nl, L + 1 + 1 + 1, L + 1 + 1, L + 1] →
      Fr h₀ L h' (fun y => if y = Str.ofString "left" then some (.ref D) else if y = Str.ofString "into" then some (.int (i : Nat) ti) else if y = Str.ofString "row" then some (.ref R.r) else u y) →
      News h₀ L h' ((D, LCg.lst yl) :: (I, oI) :: (nl, LCg.lst ys) :: (L + 1 + 1 + 1, oT) :: (L + 1 + 1, oN) :: (L + 1, oO) :: tl) →
      wpAny (model PG w) ⟨none, dp, fr, gd, un⟩ (execs tailBody (outEnv L)) Q E { s with heap := h', toks := tk', gens := s.gens.push .finished }) :
    wpAny (model PG w) ⟨none, dp, fr, gd, un⟩ (execs restBody (outEnv L)) Q E s := by
  have X := Z.X
  have T := Z.T
  unfold restBody outEnv outScope
  (try dsimp only)
  k_steps
  refine LCt.CompSrcT.range (by rfl) (by k_asm) (by k_asm) (by assumption) (by first | exact small_one (by omega) (by omega) (by omega) (by omega) | decide) (by first | exact rangeSize_nat _ _ | rfl) (by rw [PySem.sizeLine_eq]; omega) ?_
  intro g'
  refine' kci_range (fun l k => if k ∈ (ord.take t).map (fun k : Nat => (k : Int)) then l else l ++ [k]) (fun k' t' I' oI' C' oC' D' m' ys' l' h' tk' E' hlo' hhi' hI' hC' hx' F' N' off' ne' hM => ?_) ?_ ?_
  · simp only [LCg.Off3, and_true] at off'
    k_fold
    k_steps
    · rename (List.any _ _ = _) => ha
      refine LCg.CompEnd.intro (by assumption) (by assumption) _ (fun _ hp => .tail _ hp) (by first | assumption | (simp only [LCg.Off3, and_true]; assumption)) trivial ?_
      refine kci_no ?_ rfl
      rw [if_pos]
      rw [List.any_eq_true] at ha
      obtain ⟨y, hy, e⟩ := ha
      have e : y = k' := by simpa using e
      subst e
      rw [List.map_take]
      exact hy
    · rename (List.any _ _ = _) => ha
      refine LCg.CompEnd.intro (by assumption) (by assumption) _ (fun _ hp => .tail _ hp) (by first | assumption | (simp only [LCg.Off3, and_true]; assumption)) trivial ?_
      refine kci_el ?_ rfl rfl
      rw [if_neg]
      rw [List.any_eq_false] at ha
      intro q
      refine ha k' ?_ (by simp)
      rw [List.map_take] at q
      exact q
  · k_steps
    rename Fr _ _ _ _ => F3
    rename News _ _ _ _ => N3
    rename IntsAre _ _ => hI3
    rename_i D3 h3 tk3 o3
    rw [left_eq] at hI3
    have hlen : ls.length ≤ 100 := by
      have h1 : ls.length = (ls.map (·.key)).length := by simp
      rw [h1, hks, List.length_map]
      exact Nat.le_trans (List.length_filter_le _ _) (by simp; omega)
    refine comp_row (R := R) (ls := ls) Z F3.keep rfl (show dp < _ by omega) (RT.at fun p hp => (N3 p (.tail _ (.tail _ (.tail _ (.tail _ (.tail _ (.tail _ hp))))))).1) (by omega) F3 X rfl (by decide) rfl (by decide) rfl (by decide) (fun Q' hq => ?_) ?_
    · k_steps
      exact hq
    · intro D4 h4 tk4 hD4 pl4 kp4
      have F4 := fr_keep F3 kp4
      have N4 := News.grown N3 kp4
      obtain ⟨n4, e4⟩ := pl4
      have N4 : News h₀ L h4 ((D4, _) :: _) := List.forall_mem_cons.mpr ⟨⟨e4, fun q => ?_, ?_⟩, N4⟩
      rotate_left
      · obtain ⟨o, _, _, ho, _⟩ := F3.ns
        have q : D4 = L := q
        rw [q, ho] at hD4; cases hD4
      · cases q : h₀.get? D4 with
        | none => rfl
        | some o => have := F3.keep _ _ q; rw [hD4] at this; cases this
      clear F3 N3
      k_steps
      refine LCg.ListComp_U (F₀ := F4) (by with_unfolding_all rfl) (by decide) (by rfl) (by decide) (by rfl) ?_
      k_steps
      refine LCg.CompSrc.ledger (by rfl) (by k_asm) (by k_asm) (by k_mem) (by rw [PySem.sizeLine_eq]; simp only [List.size_toArray]; omega) ?_
      intro g5
      refine' kct_list (fun k => nm k) hI3 (fun k' t' I' oI' C' oC' D' m' ys' h' tk' E' hk' hC' hx' F' N' off' ne' hM => ?_) ?_
      · simp only [LCg.Off3, and_true] at off'
        k_fold
        k_steps
        obtain ⟨kn, hkn, rfl⟩ := List.mem_map.mp hk'
        have hkn : kn < i := List.mem_range.mp (List.mem_filter.mp hkn).1
        obtain ⟨tkk, hkk⟩ := hys kn (by omega)
        refine sub_lst N' (by k_mem) (by omega) (by omega) (by simpa using hkk) ?_
        (try dsimp only)
        k_steps
        refine LCg.CompEnd.intro (by assumption) (by assumption) _ (fun _ hp => hp) (by first | assumption | (simp only [LCg.Off3, and_true]; assumption)) (by first | lcg_src | assumption) ?_
        exact kct_el rfl rfl rfl
      · k_steps
        rename CarriedAll _ _ => hc5
        rename Fr _ _ _ _ => F5
        rename News _ _ _ _ => N5
        rw [List.map_map] at hc5
        refine ne_strs (ns := ls.map (·.key)) (ms := ((List.range i).filter fun k => decide (k ∉ ord.take t)).map fun k : Nat => nm (k : Nat)) ⟨_, (N5 (D4, { cls := .type "list", data := .seq ((ls.map fun l => Value.str l.key l.tok).toArray) n4 }) (by k_mem)).1, rfl, _, rfl⟩ ⟨_, (N5 _ (.head _)).1, rfl, _, rfl⟩ (carried_keys ls) (by rw [List.map_map]; exact hc5) ?_ ?_ (show un + 64 < _ by omega) ?_
        · rw [hks]
          intro y hy
          obtain ⟨kn, hkn, rfl⟩ := List.mem_map.mp hy
          have hkn : kn < i := List.mem_range.mp (List.mem_filter.mp hkn).1
          exact hok kn (by omega)
        · intro y hy
          obtain ⟨kn, hkn, rfl⟩ := List.mem_map.mp hy
          have hkn : kn < i := List.mem_range.mp (List.mem_filter.mp hkn).1
          exact hok kn (by omega)
        rw [hks, decide_eq_true rfl]
        show wpAny _ _ _ _ _ _
        (try dsimp only)
        have tm : TailMark := trivial
        k_steps
        refine h _ _ D3 _ (by assumption) ?_ F5 (fun p hp => N5 p ?_)
        · intro p hp b hb
          simp only [List.mem_cons, List.not_mem_nil, or_false] at hb
          rcases hb with rfl | hb
          · exact off1_ne o3.2.2.2.2.2 p hp
          · exact off p hp b (by simp only [List.mem_cons, List.not_mem_nil, or_false]; exact hb)
        · exact .tail _ (.tail _ hp)
  · intro l k
    dsimp only
    split <;> simp
end
end Mine

namespace Mine
theorem rsTb {M : Model} {A : Around} {E : Value → Shared → Prop} {env : Env} {Q : Flow → Shared → Prop} {s : Shared} (h : Q .next s) : wpAny M A (execs [] env) Q E s := by
  w_top off
  walk1
  exact h
end Mine
namespace Mine
theorem sub_neg {w : World} {A : Around} {s : Shared} {E : Value → Shared → Prop} {Q : Value → Shared → Prop} {h₀ : Heap} {L : Addr} {l : List (Addr × Obj)} {nl : Addr} {ys : List Value} {value slice : Expr} {u : Tok} {v : Value}
    (N : News h₀ L s.heap l) (hm : (nl, LCg.lst ys) ∈ l) (hx : ys.getLast? = some v) (h : Q v s)
    (hs : subscripted slice false (.ref nl) (.int (-1) u) = operate [.ref nl, .int (-1) u] (getItem (.ref nl) (.int (-1) u)) := by with_unfolding_all rfl) :
    wpAny (model PG w) A (subscriptTail value slice (.ref nl) (.int (-1) u)) Q E s := by
  have hL : s.heap.IsList nl ys.toArray := ⟨_, (N _ hm).1, rfl, _, rfl⟩
  have hne : ys ≠ [] := fun e => by rw [e] at hx; cases hx
  have hp : 0 < ys.length := List.length_pos_iff.mpr hne
  refine tail_any hL.typeIs PySem.F.slot_list_getitem.lookup (wpAny_getItem_list_neg hL (by omega) (by simp; omega) (by omega) ?_ h) hs
  rw [List.getLast?_eq_getElem?] at hx
  have e : (-1 + ((ys.toArray.size : Nat) : Int)).toNat = ys.length - 1 := by simp; omega
  rw [e]
  simpa using hx
theorem upd4 {A B C D : Str} {p q r v : Option Value} {u : Str → Option Value} (h1 : C ≠ A) (h2 : D ≠ A) (h3 : C ≠ B) (h4 : D ≠ B) :
    (fun y => if y = A then p else if y = B then q else if y = C then r else if y = D then v else u y) = fun y => if y = C then r else if y = D then v else (fun y => if y = A then p else if y = B then q else u y) y := by
  funext y
  by_cases hC : y = C
  · subst hC; simp [h1, h3]
  · by_cases hD : y = D
    · subst hD; simp [h2, h4, hC]
    · simp [hC, hD]
theorem snoc_split {ls : List Lk} {A : List Nat} {z : Nat} (h : ls.map (·.key) = (A ++ [z]).map fun k : Nat => nm (k : Nat)) : ∃ l1 za zd zt, ls = l1 ++ [⟨za, zd, nm (z : Nat), zt⟩] ∧ l1.map (·.key) = A.map fun k : Nat => nm (k : Nat) := by
  rw [List.map_append] at h
  obtain ⟨l1, l2, rfl, h1, h2⟩ := List.map_eq_append_iff.mp h
  match l2, h2 with
  | [⟨za, zd, zk, zt⟩], h2 =>
    simp only [List.map_cons, List.map_nil, List.cons.injEq, and_true] at h2
    exact ⟨l1, za, zd, zt, by rw [h2], h1⟩
theorem cons_split {ls : List Lk} {A : List Nat} {z : Nat} (h : ls.map (·.key) = (z :: A).map fun k : Nat => nm (k : Nat)) : ∃ l1 za zd zt, ls = ⟨za, zd, nm (z : Nat), zt⟩ :: l1 ∧ l1.map (·.key) = A.map fun k : Nat => nm (k : Nat) := by
  match ls, h with
  | ⟨za, zd, zk, zt⟩ :: l1, h =>
    simp only [List.map_cons, List.cons.injEq] at h
    exact ⟨l1, za, zd, zt, by rw [h.1], h.2⟩
theorem ints_at {vs : List Value} {ns : List Int} (h : IntsAre vs ns) {i : Nat} {k : Int} (e : ns[i]? = some k) : ∃ t, vs[i]? = some (.int k t) := by
  have hl := h.length
  have hi : i < vs.length := by have := (List.getElem?_eq_some_iff.mp e).1; omega
  obtain ⟨n, t, e1, e2⟩ := IntsAre.at h i vs[i] (by simp [hi])
  rw [e] at e2; cases e2
  exact ⟨t, by rw [← e1]; simp [hi]⟩
theorem ints_last {vs : List Value} {ns : List Int} (h : IntsAre vs ns) {k : Int} (e : ns.getLast? = some k) : ∃ t, vs.getLast? = some (.int k t) := by
  rw [List.getLast?_eq_getElem?] at e ⊢
  rw [h.length]
  exact ints_at h e
local macro_rules | `(tactic| walk_at "getMethod ref") => `(tactic| refine stop ?_)
local macro_rules | `(tactic| walk_at "call ref") => `(tactic| refine stop ?_)
local macro_rules | `(tactic| walk_at "subscriptTail Name UnaryOp ref int") => `(tactic| refine stop ?_)
local macro_rules | `(tactic| walk_at "subscriptTail Name Constant ref int") => `(tactic| refine stop ?_)
section
variable {w : World} {dp un : Nat} {fr : Option (List Env)} {gd : Option (List Code)} {s : Shared} {h₀ : Heap} {L : Addr} {mg mb : Str → Option Value} {loose : List Str} {mean : ExcName → Option Value} {E : Value → Shared → Prop} {o : Addr} {vs : List Value} {ord : List Nat} {nl I D : Addr} {ys yl : List Value} {oI oT oN oO : Obj} {tl : List (Addr × Obj)} {R : Rw} {ls : List Lk} {u : Str → Option Value} {ti tt : Tok} {t x i : Nat} {n : Nat} {c : List Nat}

theorem tail_body {Q : Flow → Shared → Prop} (Z : Bs w h₀ loose mean mg mb) (hroom : dp + 20 < recursionLimit) (hun : un + 200 < cLine) (ho : h₀.IsList o vs.toArray) (hi : IntsAre vs (ord.map fun k : Nat => (k : Int))) (hn : ord.length = n) (h7 : n ≤ 7)
    (ht : ord[t]? = some x) (hx : x < n) (hys : ∀ k : Nat, k < n → ∃ tk, ys[k]? = some (.str (nm (k : Nat)) tk))
    (F : Fr h₀ L s.heap (fun y => if y = Str.ofString "left" then some (.ref D) else if y = Str.ofString "into" then some (.int (i : Nat) ti) else if y = Str.ofString "row" then some (.ref R.r) else u y))
    (N : News h₀ L s.heap ((D, LCg.lst yl) :: (I, oI) :: (nl, LCg.lst ys) :: (L + 1 + 1 + 1, oT) :: (L + 1 + 1, oN) :: (L + 1, oO) :: tl))
    (dT : oT.data = .cell (some (.int (t : Nat) tt))) (dN : oN.data = .cell (some (.ref nl))) (dO : oO.data = .cell (some (.ref o)))
    (RT : RowT w h₀ R ls tl) (off : OwnOff tl [D, I, nl, L + 1 + 1 + 1, L + 1 + 1, L + 1])
    (hks : ls.map (·.key) = c.map fun k : Nat => nm (k : Nat)) (hyl : IntsAre yl (c.map fun k : Nat => (k : Int))) (hcn : c.length ≤ 100) (hne : c ≠ [])
    (h1 : (c.getLast? = some x ∨ c.head? = some x) → ∀ h' tk' gs' tl' ls' (u' : Str → Option Value), gs'.bare = true → RowT w h₀ R ls' tl' → OwnOff tl' [D, I, nl, L + 1 + 1 + 1, L + 1 + 1, L + 1] →
      (∃ c', ls'.map (·.key) = c'.map (fun k : Nat => nm (k : Nat)) ∧ (c = c' ++ [x] ∨ c = x :: c')) →
      Fr h₀ L h' (fun y => if y = Str.ofString "into" then some (.int (i : Nat) ti) else if y = Str.ofString "row" then some (.ref R.r) else u' y) →
      News h₀ L h' ((D, LCg.lst yl) :: (I, oI) :: (nl, LCg.lst ys) :: (L + 1 + 1 + 1, oT) :: (L + 1 + 1, oN) :: (L + 1, oO) :: tl') →
      Q .next { s with heap := h', toks := tk', gens := s.gens.push gs' })
    (h2 : ¬ (c.getLast? = some x ∨ c.head? = some x) → ∀ tk', Q (.ret (.int (t : Nat) tt)) { s with toks := tk' }) :
    wpAny (model PG w) ⟨none, dp, fr, gd, un⟩ (execs tailBody (outEnv L)) Q E s := by
  have X := Z.X
  have T := Z.T
  have htl : t < ord.length := (List.getElem?_eq_some_iff.mp ht).1
  have hv : (ord.map fun k : Nat => (k : Int)).getD ((t : Int)).toNat 0 = (x : Nat) := by simp [ht]
  unfold tailBody outEnv outScope
  (try dsimp only)
  obtain ⟨z, hz⟩ : ∃ z, c.getLast? = some z := ⟨_, List.getLast?_eq_some_getLast hne⟩
  obtain ⟨tz, hz'⟩ := ints_last hyl (k := (z : Nat)) (by simp [hz])
  obtain ⟨a, ha⟩ : ∃ a, c.head? = some a := ⟨_, List.head?_eq_some_head hne⟩
  obtain ⟨ta, ha'⟩ := ints_at hyl (i := 0) (k := (a : Nat)) (by rw [List.head?_eq_getElem?] at ha; simp [ha])
  k_steps
  have row : RowAt w h₀ s.heap R ls := RT.at fun p hp => (N p (.tail _ (.tail _ (.tail _ (.tail _ (.tail _ (.tail _ hp))))))).1
  have hlen : ls.length ≤ 100 := by
    have h3 : ls.length = (ls.map (·.key)).length := by simp
    rw [h3, hks, List.length_map]; exact hcn
  refine sub_neg N (.head _) hz' ?_
  k_steps
  · rename (_ = _) => e1
    rw [hv] at e1
    have e1 : z = x := by omega
    subst e1
    obtain ⟨A, rfl⟩ := List.getLast?_eq_some_iff.mp hz
    obtain ⟨l1, za, zd, zt, rfl, hk1⟩ := snoc_split hks
    refine method_row (f := 97) (X.keeps F.keep) row (by k_is) (by k_is) (by k_is) (by k_get) ?_
    (try dsimp only)
    k_steps
    refine wpAny_call (pop_last Z F.keep (by omega) row (by simp at hlen; omega) ?_)
    intro h3 tk3 gs3 b3 row3 kp3
    obtain ⟨tl3, RT3, F3, N3, off3⟩ := op_news (C := [(D, LCg.lst yl), (I, oI), (nl, LCg.lst ys), (L + 1 + 1 + 1, oT), (L + 1 + 1, oN), (L + 1, oO)]) F N off RT kp3 wr_sub row3 (fun b hb => .inl (by
      rw [adrs_append]; exact List.mem_append_right _ (List.mem_append_left _ hb)))
    (try clear N)
    (try clear F)
    simp only [List.cons_append, List.nil_append] at N3
    (try dsimp only)
    k_steps
    rename Fr _ _ _ _ => F4
    rename News _ _ _ _ => N4
    obtain ⟨tk5, hk5⟩ := hys z hx
    refine sub_lst N4 (.tail _ (.tail _ (.head _))) (by rw [hv]; omega) (by rw [hv]; omega) (by rw [hv]; simpa using hk5) ?_
    (try dsimp only)
    k_steps
    · rename ((_ != _) = true) => e9
      rw [bne_self_eq_false] at e9
      cases e9
    · rename Fr _ _ _ _ => F5
      rename News _ _ _ _ => N5
      exact h1 (.inl hz) _ _ gs3 tl3 l1 _ b3 RT3 off3 ⟨A, hk1, .inl rfl⟩ (Eq.mp (congrArg (fun m => Fr h₀ L _ m) (upd4 (A := Str.ofString "told") (B := Str.ofString "left") (C := Str.ofString "into") (D := Str.ofString "row") (by decide) (by decide) (by decide) (by decide))) F5) N5
  · rename (_ ≠ _) => e1
    rw [hv] at e1
    have e1 : z ≠ x := by omega
    refine sub_lst N (.head _) (by omega) (by omega) ha' ?_
    k_steps
    · rename (_ = _) => e2
      rw [hv] at e2
      have e2 : a = x := by omega
      subst e2
      obtain ⟨A, rfl⟩ : ∃ A, c = a :: A := by
        cases c with
        | nil => cases ha
        | cons b A => simp only [List.head?_cons, Option.some.injEq] at ha; exact ⟨A, by rw [ha]⟩
      obtain ⟨l1, za, zd, zt, rfl, hk1⟩ := cons_split hks
      refine method_row (f := 97) (X.keeps F.keep) row (by k_is) (by k_is) (by k_is) (by k_get) ?_
      (try dsimp only)
      k_steps
      refine wpAny_call (pop_first Z F.keep (by omega) row (by simp at hlen; omega) ?_)
      intro h3 tk3 gs3 b3 row3 kp3
      obtain ⟨tl3, RT3, F3, N3, off3⟩ := op_news (C := [(D, LCg.lst yl), (I, oI), (nl, LCg.lst ys), (L + 1 + 1 + 1, oT), (L + 1 + 1, oN), (L + 1, oO)]) F N off RT kp3 wr_sub row3 (fun b hb => .inl (List.mem_append_right _ (by
        have : adrs (⟨za, zd, nm (a : Nat), zt⟩ :: l1) = adrs [⟨za, zd, nm (a : Nat), zt⟩] ++ adrs l1 := adrs_append [_] l1
        rw [this]; exact List.mem_append_right _ hb)))
      (try clear N)
      (try clear F)
      simp only [List.cons_append, List.nil_append] at N3
      (try dsimp only)
      k_steps
      rename Fr _ _ _ _ => F4
      rename News _ _ _ _ => N4
      obtain ⟨tk5, hk5⟩ := hys a hx
      refine sub_lst N4 (.tail _ (.tail _ (.head _))) (by rw [hv]; omega) (by rw [hv]; omega) (by rw [hv]; simpa using hk5) ?_
      (try dsimp only)
      k_steps
      · rename ((_ != _) = true) => e9
        rw [bne_self_eq_false] at e9
        cases e9
      · rename Fr _ _ _ _ => F5
        rename News _ _ _ _ => N5
        exact h1 (.inr ha) _ _ gs3 tl3 l1 _ b3 RT3 off3 ⟨A, hk1, .inr rfl⟩ (Eq.mp (congrArg (fun m => Fr h₀ L _ m) (upd4 (A := Str.ofString "told") (B := Str.ofString "left") (C := Str.ofString "into") (D := Str.ofString "row") (by decide) (by decide) (by decide) (by decide))) F5) N5
    · rename (_ ≠ _) => e2
      rw [hv] at e2
      have e2 : a ≠ x := by omega
      exact h2 (by rw [hz, ha]; simp [e1, e2]) _
end
end Mine

namespace Mine
theorem rsPe {M : Model} {A : Around} {E : Value → Shared → Prop} {env : Env} {Q : Flow → Shared → Prop} {s : Shared} (h : Q .next s) : wpAny M A (execs [] env) Q E s := by
  w_top off
  walk1
  exact h
end Mine
namespace Mine

abbrev fsOf (l : List Env) : List Addr := l.filterMap (·.frame)
theorem leave_new {M : Model} {A : Around} {E : Value → Shared → Prop} {s' : Shared} {Q : Unit → Shared → Prop} {env : Env} {outer : List Env} {L e : Addr} {bx h : Heap} {cls : String} (hfr : A.frames = some (env :: outer)) (hf : env.frame = some L) (hff : h.FunFrames bx (env :: outer)) (hbx : bx.StaysIn h) (hx : Heap.NewExc h s'.heap e cls)
    (hQ : ∀ h' a0, Heap.FlyingW bx outer e (.type cls) a0 h' → h.UpToSlots h' → Q () { s' with heap := h' }) : wpAny M A (leaving env (.ref e)) Q E s' := by
  obtain ⟨ob, tp, he, hcls, hd⟩ := hx.there
  have hen : bx.get? e = none := by
    cases q : bx.get? e with
    | none => rfl
    | some o => have := hbx _ _ q; rw [hx.new] at this; cases this
  refine wpAny_leaving_firstW (a0 := tp) hfr (hff.of_keeps fun b o hb _ => ⟨o, hx.keeps b o hb, rfl⟩) hf he (fun b o hb => hx.keeps b o (hbx b o hb)) hen hd rfl rfl fun h' hL => ?_
  obtain ⟨k1, ⟨_, _, k2⟩, k3, k4⟩ := hL
  exact hQ h' tp ⟨k1, hen, k2, by rw [← hcls]; exact k3⟩ ((Heap.UpToSlots.of_keeps hx.keeps).trans k4)

theorem ff_hide {hb h h' : Heap} {fs : List Addr} (k : ∀ b o, h.get? b = some o → h'.get? b = some o) : ∀ {l : List Env}, h.FunFrames hb l → (∀ env ∈ l, ∀ a, env.frame = some a → a ∈ fs) → h'.FunFrames (hideAll h fs) l
  | [], _, _ => trivial
  | env :: _, ⟨hk, ⟨L, o, hf, _, ho, hd⟩, hr⟩, hin => ⟨hk, ⟨L, o, hf, hideAll_none _ (hin env (.head _) L hf), k _ _ ho, hd⟩, ff_hide k hr fun e he => hin e (.tail _ he)⟩

local macro_rules | `(tactic| walk_at "truthy ref") => `(tactic| refine stop ?_)
local macro_rules | `(tactic| walk_at "exec Raise some none") => `(tactic| refine stop ?_)
local macro_rules | `(tactic| walk_at "leaving ref") => `(tactic| refine stop ?_)
local macro_rules | `(tactic| walk_at "call type:KeyError") => `(tactic| refine stop ?_)

theorem pop_empty {w : World} {dp un : Nat} {outer : List Env} {gd : Option (List Code)} {s : Shared} {hb : Heap} {mg mb : Str → Option Value} {loose : List Str} {mean : ExcName → Option Value} {R : Rw} {P : Result → Shared → Prop} (Z : Bs w hb loose mean mg mb) (hst : hb.StaysIn s.heap) (hroom : dp + 10 < recursionLimit) (row : RowAt w hb s.heap R []) (hff : s.heap.FunFrames hb outer)
    (h : ∀ h' tk' e a0, Heap.FlyingW (hideAll s.heap (fsOf outer)) outer e (.type "KeyError") a0 h' → s.heap.UpToSlots h' → P (.error (.ref e)) { s with heap := h', toks := tk' }) :
    codeAny (model PG w) ⟨none, dp, some outer, gd, un⟩ (.call (.ref 97) ⟨[.ref R.r], []⟩) P s := by
  refine callW (binds := [(Str.ofString "self", .ref R.r), (Str.ofString "last", .bool true)]) (R.wr []) Z hst (Nat.lt_of_le_of_lt (Nat.le_add_right _ 10) hroom) (fun a ha => ⟨row.new a (wr_sub a ha), row.alive a (wr_sub a ha)⟩) (by k_is) (by k_is) (binds_K (Z.X.keeps hst) rfl (by k_is) rfl rfl rfl) (locs rfl) ?_
  intro L h₀ h₁ tk₁ F N X T hoff hL hLs hk
  k_fold
  k_steps
  have row1 : RowAt w hb h₁ R [] := row.keep fun b _ o e => hk b o e
  have st1 : hb.StaysIn h₁ := fun b o e => hk b o (hst b o e)
  refine truthy_row Z st1 (show dp + 1 + 5 < _ by omega) row1 (by simp) ?_
  intro h₂ tk₂ k2
  have F2 := fr_keep F k2
  have N2 : News h₀ L h₂ [] := News.nil
  clear F N
  (try dsimp only)
  k_steps
  refine Raise_new rfl ?_
  k_steps
  refine call_exc_raise excClass_KeyError ?_
  intro h₃ e₃ x₃
  have kk : ∀ b o, s.heap.get? b = some o → h₂.get? b = some o := fun b o e => k2 b o (hk b o e)
  have hLb : (hideAll s.heap (fsOf outer)).get? L = none := by
    cases q : (hideAll s.heap (fsOf outer)).get? L with
    | none => rfl
    | some o => have := of_hideAll _ q; rw [hLs] at this; cases this
  obtain ⟨oL, _, _, eL, dL, _⟩ := F2.ns
  refine leave_new (outer := outer) (L := L) (bx := hideAll s.heap (fsOf outer)) (h := h₂) rfl rfl ⟨(by intro q; cases q), ⟨L, oL, rfl, hLb, eL, fun vs q => by rw [dL] at q; cases q⟩, ff_hide kk hff (fun env he a ha => List.mem_filterMap.mpr ⟨env, he, ha⟩)⟩ (fun b o e => kk b o (of_hideAll _ e)) x₃ ?_
  intro h₄ a0 fl us
  exact h h₄ _ e₃ a0 fl (Heap.UpToSlots.trans (Heap.UpToSlots.of_keeps kk) us)
end Mine

namespace Mine
theorem rsTy {M : Model} {A : Around} {E : Value → Shared → Prop} {env : Env} {Q : Flow → Shared → Prop} {s : Shared} (h : Q .next s) : wpAny M A (execs [] env) Q E s := by
  w_top off
  walk1
  exact h
end Mine
namespace Mine
def out2 : List Stmt := Subtype.val (p := fun l => ∃ x, outBody = x :: l) ⟨_, _, rfl⟩
def tryBody : List Stmt := Subtype.val (p := fun l => ∃ x, out2 = x :: l) ⟨_, _, rfl⟩
def LenMark : Prop := True

theorem RowAt.base {w : World} {hb h₀ h : Heap} {R : Rw} {ls : List Lk} (x : RowAt w h₀ h R ls) (k : hb.StaysIn h₀) : RowAt w hb h R ls :=
  ⟨x.hr, x.hdx, x.hrt, x.hrd, x.hmp, x.ch, x.nd, (fun a ha => by
    cases q : hb.get? a with
    | none => rfl
    | some o => have := k _ _ q; rw [x.new a ha] at this; cases this), x.lo, x.keys⟩
local macro_rules | `(tactic| walk_at "call builtin:len") => `(tactic| (refine kda_len (by k_asm) (by k_mem) (by assumption) (by assumption) (by assumption) ?_))

theorem len_specH {w : World} {dp un : Nat} {hnd : Option Value} {fr : Option (List Env)} {gd : Option (List Code)} {s : Shared} {hb : Heap} {mg mb : Str → Option Value} {loose : List Str} {mean : ExcName → Option Value} {r dx mp root : Addr} {i1 i2 : Int} {t1 t2 : Tok} {omp : Obj} {kvs : List (Str × Value)} {R : Result → Shared → Prop}
    (Z : Bs w hb loose mean mg mb) (hs : hb.StaysIn s.heap) (hroom : dp + 5 < recursionLimit)
    (hl : ∀ p ∈ [(r, instObj 121 dx), (dx, rowDict i1 i2 t1 t2 root mp), (mp, omp)], s.heap.get? p.1 = some p.2 ∧ hb.get? p.1 = none)
    (hom : omp.IsDictOf (PySem.strKind PG w) kvs) (lo : (mp == sysModules) = false) (hz : kvs.length ≤ 16777216)
    (h : ∀ h' tk' t', (∀ b o, s.heap.get? b = some o → h'.get? b = some o) → R (.ok (.ret (.int kvs.length t'))) { s with heap := h', toks := tk' }) :
    codeAny (model PG w) ⟨hnd, dp, fr, gd, un⟩ (.call (.ref 54) ⟨[.ref r], []⟩) R s := by
  refine callH _ Z hs (Nat.lt_of_le_of_lt (Nat.le_add_right _ 5) hroom) hl (by k_is) (by k_is) (BindsTo.of_eq rfl) (locs rfl) ?_
  intro L h₀ h₁ F N X T hoff hL
  dsimp only
  k_fold
  k_steps
  exact h _ _ _ (keep_all (fun p hp => (hl p hp).1) N (hoff _ _ F))

theorem len_rowH {w : World} {dp un : Nat} {hnd : Option Value} {fr : Option (List Env)} {gd : Option (List Code)} {s : Shared} {hb : Heap} {mg mb : Str → Option Value} {loose : List Str} {mean : ExcName → Option Value} {E : Value → Shared → Prop} {R : Rw} {ls : List Lk} {Q : Value → Shared → Prop} (Z : Bs w hb loose mean mg mb) (hst : hb.StaysIn s.heap) (hroom : dp + 5 < recursionLimit) (row : RowAt w hb s.heap R ls) (hlen : ls.length ≤ 1000)
    (h : ∀ h' tk' t', (∀ b o, s.heap.get? b = some o → h'.get? b = some o) → Q (.int ls.length t') { s with heap := h', toks := tk' }) :
    wpAny (model PG w) ⟨hnd, dp, fr, gd, un⟩ (call (.builtin "len") [.ref R.r]) Q E s := by
  obtain ⟨omp, hm, hom⟩ := row.hmp
  have X := Z.X.keeps hst
  have I := rowInst row
  refine Calls.call_function_entry kind_len plain_len entry_len (args_len1 _) ?_
  unfold Builtin.«len»
  refine wpAny_bind (m := oneArg "len" _) (wpAny_pure ?_)
  refine wpAny_bind (m := callSpecial? (.ref R.r) (Str.ofString "__len__")) (special_fn (f := 54) X I (by k_is) (by k_is) (wpAny_call ?_))
  refine len_specH Z hst hroom (rowList row hm) hom row.lo (by simp [mapOf]; omega) (fun h' tk' t' hk => ?_)
  refine wpAny_bind (wpAny_holding (wpAny_pure ?_))
  refine wpAny_bind (wpAny_letGo ?_)
  show wpAny _ _ (if ((mapOf ls).length : Int) < 0 then _ else _) _ _ _
  rw [if_neg (by omega)]
  show wpAny _ _ (if ((mapOf ls).length : Int) ≥ 2 ^ 63 then _ else _) _ _ _
  rw [if_neg (by simp [mapOf]; omega)]
  refine wpAny_bind (wpAny_mkInt (wpAny_pure ⟨_, rfl, ?_⟩))
  have e : ((mapOf ls).length : Int) = ls.length := by simp [mapOf]
  rw [e]
  exact h _ _ _ hk

local macro_rules | `(tactic| walk_at "getMethod ref") => `(tactic| refine stop ?_)
local macro_rules | `(tactic| walk_at "call ref") => `(tactic| refine stop ?_)
local macro_rules | `(tactic| walk_at "noteFrame ref") => `(tactic| refine stop ?_)
local macro_rules | `(tactic| walk_at "call builtin:len") => `(tactic| ((with_reducible rename LenMark => tmk); refine stop ?_))
section
variable {w : World} {dp un : Nat} {outer : List Env} {gd : Option (List Code)} {s : Shared} {hb h₀ : Heap} {L : Addr} {mg mb : Str → Option Value} {loose : List Str} {mean : ExcName → Option Value} {E : Value → Shared → Prop} {o : Addr} {vs : List Value} {ord : List Nat} {nl I D : Addr} {ys yl : List Value} {oI oT oN oO : Obj} {tl : List (Addr × Obj)} {R : Rw} {ls : List Lk} {u : Str → Option Value} {ti tt : Tok} {t x i : Nat} {n : Nat} {c : List Nat}

theorem try_body {Q : Flow → Shared → Prop} (Z : Bs w hb loose mean mg mb) (hst : hb.StaysIn h₀) (hff : h₀.FunFrames hb outer) (hroom : dp + 20 < recursionLimit) (hun : un + 200 < cLine) (ho : (hideAll h₀ (fsOf outer)).IsList o vs.toArray) (hi : IntsAre vs (ord.map fun k : Nat => (k : Int))) (hn : ord.length = n) (h7 : n ≤ 7)
    (F : Fr h₀ L s.heap (fun y => if y = Str.ofString "into" then some (.int (i : Nat) ti) else if y = Str.ofString "row" then some (.ref R.r) else u y))
    (N : News h₀ L s.heap ((nl, LCg.lst ys) :: (L + 1 + 1 + 1, oT) :: (L + 1 + 1, oN) :: (L + 1, oO) :: tl))
    (dO : oO.data = .cell (some (.ref o)))
    (RT : RowT w h₀ R [] tl) (hE : ∀ e, PassesOwnAt (model PG w) (Around.mark ⟨none, dp, some (outEnv L :: outer), gd, un⟩ (some (.ref e))) ⟨none, dp, some (outEnv L :: outer), gd, un⟩ (outEnv L) E)
    (h : ∀ h' tk' t', (∀ b o, b ∉ fsOf outer → h₀.get? b = some o → h'.get? b = some o) → h₀.UpToSlots h' → Q (.ret (.int (n : Nat) t')) { s with heap := h', toks := tk' }) :
    wpAny (model PG w) ⟨none, dp, some (outEnv L :: outer), gd, un⟩ (execs tryBody (outEnv L)) Q E s := by
  have row : RowAt w h₀ s.heap R [] := RT.at fun p hp => (N p (.tail _ (.tail _ (.tail _ (.tail _ hp))))).1
  have st2 : hb.StaysIn (hideAll h₀ (fsOf outer)) := fun b o e => hideAll_get _ (hst b o e) fun q => by rw [(hff.mem q).1] at e; cases e
  have Z2 := Z.keeps st2
  have X := Z2.X
  have T := Z2.T
  have hL0 : h₀.get? L = none := by
    cases q : h₀.get? L with
    | none => rfl
    | some o => exact absurd (Nat.lt_of_lt_of_le (Heap.lt_size q) F.above) (Nat.lt_irrefl _)
  have hbL : hb.get? L = none := by
    cases q : hb.get? L with
    | none => rfl
    | some o => have := hst _ _ q; rw [hL0] at this; cases this
  obtain ⟨oL, _, _, eL, dL, _⟩ := id F.ns
  have hff2 : s.heap.FunFrames hb (outEnv L :: outer) := ⟨(by intro q; cases q), ⟨L, oL, rfl, hbL, eL, fun vs q => by rw [dL] at q; cases q⟩, hff.of_keeps fun b o e _ => ⟨o, F.keep b o e, rfl⟩⟩
  have F2 : Fr (hideAll h₀ (fsOf outer)) L s.heap _ := ⟨F.ns, fun b o e => F.keep b o (of_hideAll _ e), by rw [hideAll_size]; exact F.above⟩
  have N2 : News (hideAll h₀ (fsOf outer)) L s.heap _ := fun p hp => ⟨(N p hp).1, (N p hp).2.1, by
    cases q : (hideAll h₀ (fsOf outer)).get? p.1 with
    | none => rfl
    | some o => have := of_hideAll _ q; rw [(N p hp).2.2] at this; cases this⟩
  unfold tryBody outEnv outScope
  (try dsimp only)
  refine wpAny_execs_cons ?_
  refine wpAny_Try_except ?_
  k_steps
  refine method_row (f := 97) (X.keeps F2.keep) row (by k_is) (by k_is) (by k_is) (by k_get) ?_
  (try dsimp only)
  k_steps
  refine wpAny_call (pop_empty Z (fun b o e => F.keep b o (hst b o e)) (by omega) (row.base hst) hff2 ?_)
  intro h3 tk3 e3 a0 fl3 us3
  (try dsimp only)
  k_steps
  refine wpAny_looks_onW rfl rfl fl3 fun h4 fl4 us4 => ?_
  refine wpAny_landsW fl4 fun h5 fl5 us5 => ?_
  have keep5 : ∀ h', (hideAll s.heap (fsOf (outEnv L :: outer))).StaysIn h' → ∀ b o, b ≠ L → b ∉ fsOf outer → s.heap.get? b = some o → h'.get? b = some o := fun h' k b o n1 n2 e => k b o (hideAll_get _ e fun q => by
    rcases List.mem_cons.mp (show b ∈ L :: fsOf outer from q) with q | q
    · exact n1 q
    · exact n2 q)
  have FF : ∀ h', (hideAll s.heap (fsOf (outEnv L :: outer))).StaysIn h' → s.heap.UpToSlots h' → Fr (hideAll h₀ (fsOf outer)) L h' _ := fun h' k us =>
    ⟨us.ns F.ns, fun b o e => keep5 h' k b o (fun q => by rw [q] at e; have := of_hideAll _ e; rw [hL0] at this; cases this) (fun q => by rw [hideAll_none _ q] at e; cases e) (F.keep b o (of_hideAll _ e)), by rw [hideAll_size]; exact F.above⟩
  have us5' := (us3.trans us4).trans us5
  have F5 := FF h5 fl5.1 us5'
  obtain ⟨ob, hob, hobc⟩ := fl5.there
  refine wpAny_handleBy_builtin (X := "KeyError") (T := "KeyError") (b := true) kr_isExc_KeyError kr_notTuple_KeyError (by rw [isSubtype_type]; kernel_rfl) ?_
  refine nameX_B F5 X (topRead_of T) (by k_is) PyProof.Rows.Boot.«KeyError» (by decide) ⟨rfl, ⟨ob, hob, hobc⟩, ?_⟩
  rw [if_pos rfl]
  refine lands_againW fl5 fun h6 fl6 us6 => ?_
  refine wpAny_passesOwnAt (hE e3) ?_
  have us6' := us5'.trans us6
  have F6 := FF h6 fl6.1 us6'
  have N6 : News (hideAll h₀ (fsOf outer)) L h6 ((nl, LCg.lst ys) :: (L + 1 + 1 + 1, oT) :: (L + 1 + 1, oN) :: (L + 1, oO) :: tl) := fun p hp => ⟨keep5 h6 fl6.1 _ _ (N p hp).2.1 (fun q => by
    obtain ⟨o, e, _⟩ := (hff.mem q).2
    rw [(N p hp).2.2] at e; cases e) (N p hp).1, (N2 p hp).2⟩
  have row6 : RowAt w hb h6 R [] := (RT.at fun p hp => (N6 p (.tail _ (.tail _ (.tail _ (.tail _ hp))))).1).base hst
  have st6 : hb.StaysIn h6 := fun b o e => F6.keep b o (st2 b o e)
  have usF : h₀.UpToSlots h6 := (Heap.UpToSlots.of_keeps F.keep).trans us6'
  clear F N F2 N2 F5
  show wpAny _ ⟨some (.ref e3), dp, some (outEnv L :: outer), gd, un⟩ _ _ _ _
  (try dsimp only)
  have lm : LenMark := trivial
  k_steps
  refine len_rowH Z st6 (by omega) row6 (by simp) ?_
  intro h7 tk7 t7 k7
  rename LenMark => lm2
  clear lm2
  have F7 := fr_keep F6 k7
  have N7 := News.grown N6 k7
  clear F6 N6
  (try dsimp only)
  k_steps
  have hl : ((List.map (fun k : Nat => (k : Int)) ord).length : Int) = (n : Nat) := by rw [List.length_map, hn]
  rw [hl]
  exact h h7 _ _ (fun b o nb e => F7.keep b o (hideAll_get _ e nb)) (usF.trans (Heap.UpToSlots.of_keeps k7))
end
end Mine

namespace Mine
theorem rsPl {M : Model} {A : Around} {E : Value → Shared → Prop} {env : Env} {Q : Flow → Shared → Prop} {s : Shared} (h : Q .next s) : wpAny M A (execs [] env) Q E s := by
  w_top off
  walk1
  exact h
end Mine
namespace Mine
def outF (ord : List Nat) : Nat → Nat → Nat → Nat
  | 0, t, _ => t
  | f + 1, t, i => match ord[t]? with
    | none => t
    | some x => if ((List.range (max i (x + 1))).filter fun k => decide (k ∉ ord.take t)).getLast? = some x ∨ ((List.range (max i (x + 1))).filter fun k => decide (k ∉ ord.take t)).head? = some x then outF ord f (t + 1) (max i (x + 1)) else t
def outR (ord : List Nat) : Nat := outF ord ord.length 0 0

theorem filt_step {i x : Nat} {S c' : List Nat} (h : ((List.range i).filter fun k => decide (k ∉ S)) = c' ++ [x] ∨ ((List.range i).filter fun k => decide (k ∉ S)) = x :: c') :
    c' = (List.range i).filter fun k => decide (k ∉ S ++ [x]) := by
  have e : ((List.range i).filter fun k => decide (k ∉ S ++ [x])) = ((List.range i).filter fun k => decide (k ∉ S)).filter fun k => decide (k ≠ x) := by
    rw [List.filter_filter]
    apply List.filter_congr
    intro k _
    by_cases h1 : k ∈ S <;> by_cases h2 : k = x <;> simp [h1, h2]
  have nd : ((List.range i).filter fun k => decide (k ∉ S)).Nodup := List.Sublist.nodup List.filter_sublist List.nodup_range
  have self : ∀ l : List Nat, x ∉ l → l.filter (fun k => decide (k ≠ x)) = l := fun l hl => by
    apply List.filter_eq_self.mpr
    intro a ha
    simp only [ne_eq, decide_not, Bool.not_eq_eq_eq_not, Bool.not_true, decide_eq_false_iff_not]
    exact fun q => hl (q ▸ ha)
  rw [e]
  rcases h with h | h
  · rw [h] at nd ⊢
    have hx : x ∉ c' := fun q => (List.nodup_append.mp nd).2.2 x q x (by simp) rfl
    rw [List.filter_append, self c' hx]; simp
  · rw [h] at nd ⊢
    have hx : x ∉ c' := (List.nodup_cons.mp nd).1
    rw [List.filter_cons]; simp only [ne_eq, not_true_eq_false, decide_false, Bool.false_eq_true, if_false]
    exact (self c' hx).symm
theorem not_in_take {ord : List Nat} {i x : Nat} (hnd : ord.Nodup) (hx : ord[i]? = some x) : x ∉ ord.take i := by
  have h := hnd
  rw [← List.take_append_drop i ord] at h
  have hm : x ∈ ord.drop i := List.mem_of_getElem? (i := 0) (by rw [List.getElem?_drop]; exact hx)
  exact fun q => (List.nodup_append.mp h).2.2 x q x hm rfl
theorem outF_step {ord : List Nat} {n i i0 x r : Nat} (hi : i < n) (hx : ord[i]? = some x) (h : outF ord (n - i) i i0 = r)
    (hc : ((List.range (max i0 (x + 1))).filter fun k => decide (k ∉ ord.take i)).getLast? = some x ∨ ((List.range (max i0 (x + 1))).filter fun k => decide (k ∉ ord.take i)).head? = some x) : outF ord (n - (i + 1)) (i + 1) (max i0 (x + 1)) = r := by
  rw [show n - i = (n - (i + 1)) + 1 by omega, outF, hx] at h
  simp only [if_pos hc] at h
  exact h
theorem outF_halt {ord : List Nat} {n i i0 x r : Nat} (hi : i < n) (hx : ord[i]? = some x) (h : outF ord (n - i) i i0 = r)
    (hc : ¬ (((List.range (max i0 (x + 1))).filter fun k => decide (k ∉ ord.take i)).getLast? = some x ∨ ((List.range (max i0 (x + 1))).filter fun k => decide (k ∉ ord.take i)).head? = some x)) : i = r := by
  rw [show n - i = (n - (i + 1)) + 1 by omega, outF, hx] at h
  simp only [if_neg hc] at h
  exact h
theorem take_snoc {ord : List Nat} {i x : Nat} (hx : ord[i]? = some x) : ord.take (i + 1) = ord.take i ++ [x] := by
  rw [List.take_add_one, hx]; rfl
theorem len_filt {i n : Nat} {S : List Nat} (h : i ≤ n) : ((List.range i).filter fun k => decide (k ∉ S)).length ≤ n := Nat.le_trans (List.length_filter_le _ _) (by simp; exact h)
end Mine

namespace Mine
theorem rsLO {M : Model} {A : Around} {E : Value → Shared → Prop} {env : Env} {Q : Flow → Shared → Prop} {s : Shared} (h : Q .next s) : wpAny M A (execs [] env) Q E s := by
  w_top off
  walk1
  exact h
end Mine
namespace Mine

theorem callWC {w : World} {A : Around} {s : Shared} {mg mb : Str → Option Value} {loose : List Str} {mean : ExcName → Option Value} {R : Result → Shared → Prop} {f : Addr} {name qual : Str} {params : Arguments} {body : List Stmt} {scope : Scope} {dV kV doc pm cdv ct oc : Value} {an od : Option Addr} {osl : Array (Option Value)}
    {args : Args} {binds : List (Str × Value)} (Z : Bs w s.heap loose mean mg mb) (hroom : A.depth < recursionLimit)
    (ho : (hd.heap_39 w.params).lookup f = some ⟨oc, od, .func (fnOf name qual params body scope dV kV doc pm an cdv ct), osl⟩) (hcd : codeIn (hd.heap_39 w.params) cdv qual = true)
    (hbind : BindsTo s (fnOf name qual params body scope dV kV doc pm an cdv ct) args binds) (hkind : (binds.all fun y => scope.names.lookup y.1 == some .local || scope.names.lookup y.1 == some .cell) = true)
    (hnd : ((cellsFrom 0 scope.names []).map (·.1)).Nodup)
    (h : ∀ L h₁ tk cells, L = s.heap.objs.size → Fr s.heap L h₁ (bindL (envOfC qual scope L f cdv).kindOf binds fun _ => none) → News s.heap L h₁ cells →
      CellsAre (bindC (envOfC qual scope L f cdv).kindOf binds fun _ => none) (cellsFrom (L + 1) scope.names []) cells →
      wpAny (model PG w) (A.deeper (envOfC qual scope L f cdv)) (execs body (envOfC qual scope L f cdv))
        (fun fl s' => R (.ok (.ret (match fl with | .ret v => v | _ => .none))) s')
        (fun e s' => wpAny (model PG w) (A.deeper (envOfC qual scope L f cdv)) (leaving (envOfC qual scope L f cdv) e) (fun _ s'' => R (.error e) s'') (fun e' s'' => R (.error e') s'') s')
        { s with heap := h₁, toks := tk })
    (hco : scope.isCoroutine = false := by rfl) (hgen : scope.isGenerator = false := by rfl) (hk : scope.kind = .function := by rfl) : codeAny (model PG w) A (.call (.ref f) args) R s := by
  refine codeAny_call_function hroom (Z.X _ _ ho) rfl hco hgen rfl (codeRec_of Z.X hcd) (hbind _ _ _ _ ?_)
  refine wpAny_newFunctionEnv_cells hk (kindsX hkind _) fun env' he s' x => ?_
  subst he
  refine ⟨Z.T.nolimit.keeps x.toInCall.keep, codeAny_func ?_⟩
  obtain ⟨h₁, tk, rfl, _⟩ := x.done
  obtain ⟨cells, NC, Y⟩ := Cl.news (h₀ := s.heap) (Nat.le_refl _) fun n c hm => ⟨x.cell n c (lookup_of_mem_nodup (cellsFrom_names scope.names 0 (s.heap.objs.size + 1) [] [] rfl ▸ hnd) hm), x.above n c hm⟩
  exact h _ h₁ tk cells rfl ⟨x.toInCall.ns, x.toInCall.keep, Nat.le_refl _⟩ NC Y

theorem news_ne {h₀ h : Heap} {L : Addr} {l : List (Addr × Obj)} {a b : Addr} {o o' : Obj} (N : News h₀ L h l) (h1 : (a, o) ∈ l) (h2 : (b, o') ∈ l) (hne : o.data ≠ o'.data) : @Ne Nat a b := fun e => by
  have e1 := (N _ h1).1
  have e2 := (N _ h2).1
  have e : a = b := e
  subst e
  dsimp only at e1 e2
  rw [e1] at e2
  cases e2
  exact hne rfl
local macro_rules | `(tactic| walk_at "exec For") => `(tactic| refine stop ?_)
local macro_rules | `(tactic| walk_at "call ref") => `(tactic| refine stop ?_)
local macro_rules | `(tactic| walk_at "CompSrc") => `(tactic| refine stop ?_)

theorem carried_at {s : Str} : ∀ {ys : List Value} {ds : List PyData} {k : Nat}, CarriedAll ys ds → ds[k]? = some (.str s) → ∃ tk, ys[k]? = some (.str s tk)
  | _, _, _, .nil, h => by simp at h
  | _, _, 0, .cons c r, h => by
    simp only [List.getElem?_cons_zero, Option.some.injEq] at h ⊢
    subst h
    cases c with
    | str _ t => exact ⟨t, rfl⟩
  | _, _, k + 1, .cons c r, h => by
    simp only [List.getElem?_cons_succ] at h ⊢
    exact carried_at r h
theorem ys_at {ys : List Value} {n : Nat} (h : CarriedAll ys ((rangeKs 0 ((n : Int) - 0).toNat).map fun k => PyData.str (nm k))) : ∀ k : Nat, k < n → ∃ tk, ys[k]? = some (.str (nm (k : Nat)) tk) := fun k hk => by
  refine carried_at h ?_
  rw [show ((n : Int) - 0).toNat = n by omega, rangeKs_nat]
  simp [hk]
def IntsAre' (vs : List Value) (ord : List Nat) : Prop := IntsAre vs (ord.map fun k : Nat => (k : Int))
def LoJ (w : World) (h₀ : Heap) (L nl : Addr) (ys : List Value) (oN oO : Obj) (R : Rw) (ord : List Nat) (n : Nat) (i : Nat) (m : Str → Option Value) (news : List (Addr × Obj)) (gs : Array GenState) : Prop :=
  ∃ (tl : List (Addr × Obj)) (ls : List Lk) (ti : Tok) (u : Str → Option Value) (oT : Obj) (i0 : Nat) (cv : Option Value), m = (fun y => if y = Str.ofString "into" then some (.int (i0 : Nat) ti) else if y = Str.ofString "row" then some (.ref R.r) else u y) ∧
    news = (nl, LCg.lst ys) :: (L + 1 + 1 + 1, oT) :: (L + 1 + 1, oN) :: (L + 1, oO) :: tl ∧ RowT w h₀ R ls tl ∧ OwnOff tl [nl, L + 1 + 1 + 1, L + 1 + 1, L + 1] ∧ oT.data = .cell cv ∧
    ls.map (·.key) = ((List.range i0).filter fun k => decide (k ∉ ord.take i)).map (fun k : Nat => nm (k : Nat)) ∧ i0 ≤ n ∧ (∀ d ∈ ord.take i, d < i0) ∧ outF ord (n - i) i i0 = outR ord ∧ AllBare gs

theorem law_out_spec {w : World} {dp un : Nat} {outer : List Env} {gd : Option (List Code)} {s : Shared} {hb : Heap} {mg mb : Str → Option Value} {loose : List Str} {mean : ExcName → Option Value} {o : Addr} {vs : List Value} {ord : List Nat} {n : Nat} {P : Result → Shared → Prop}
    (Zb : Bs w hb loose mean mg mb) (hst : hb.StaysIn s.heap) (hff : s.heap.FunFrames hb outer) (hroom : dp + 40 < recursionLimit) (hun : un + 300 < cLine) (ho : s.heap.IsList o vs.toArray) (ho2 : (hideAll s.heap (fsOf outer)).IsList o vs.toArray) (hi : IntsAre vs (ord.map fun k : Nat => (k : Int))) (hn : ord.length = n) (h7 : n ≤ 7)
    (hnd : ord.Nodup) (hlt : ∀ x ∈ ord, x < n) (hall : ∀ k, k < n → k ∈ ord) (hnm : ∀ a b : Nat, a < n → b < n → nm (a : Nat) = nm (b : Nat) → a = b) (hok : ∀ a : Nat, a < n → PyData.strOk (nm (a : Nat)) = true) (hg : AllBare s.gens)
    (h : ∀ h' tk' gs' t', AllBare gs' → (∀ b o, b ∉ fsOf outer → s.heap.get? b = some o → h'.get? b = some o) → s.heap.UpToSlots h' → P (.ok (.ret (.int (outR ord : Nat) t'))) { s with heap := h', toks := tk', gens := gs' }) :
    codeAny (model PG w) ⟨none, dp, some outer, gd, un⟩ (.call (.ref 130) ⟨[.ref o], []⟩) P s := by
  have hi_ : IntsAre' vs ord := hi
  have Z := Zb.keeps hst
  refine callWC (binds := [(Str.ofString "order", .ref o)]) Z (Nat.lt_of_le_of_lt (Nat.le_add_right _ 40) hroom) (by k_is) (by k_is) (BindsTo.of_eq rfl) rfl (by decide +kernel) ?_
  intro L h₁ tk cells hL F N Y
  k_fold
  k_cells Y
  rename_i oT0 oN0 oO dT dN0 dO
  have X := Z.X
  have T := Z.T
  have h4 : (ord.map fun k : Nat => (k : Int)).length ≤ 7 := by rw [List.length_map]; omega
  k_steps
  refine new_row Z F.keep (show dp + 1 + 10 < _ by omega) ?_
  intro h₂ tk₂ R row hnew kp
  obtain ⟨tl, RT, F2, N2, off⟩ := op_new F N kp row hnew
  clear F N row hnew kp
  simp only [List.cons_append, List.nil_append] at N2
  try dsimp only
  k_steps
  refine LCg.CompSrc.range (by rfl) (by k_asm) (by k_asm) (by assumption) (by first | exact small_one (by kcf_bnd) (by kcf_bnd) (by kcf_bnd) (by kcf_bnd) | decide) (by first | exact rangeSize_nat _ _ | rfl) (by first | exact Nat.le_of_ble_eq_true rfl | (rw [PySem.sizeLine_eq]; omega)) ?_
  intro g'
  refine' kct_range (fun k => nm k) (fun k' t' I' oI' C' oC' D' m' ys' h' tk' E' hlo' hhi' hC' hx' F' N' off' ne' hM => ?_) ?_
  · simp only [LCg.Off3, and_true] at off'
    k_fold
    k_steps
    refine LCg.CompEnd.intro (by assumption) (by assumption) _ (fun _ hp => hp) (by first | assumption | (simp only [LCg.Off3, and_true]; assumption)) trivial ?_
    exact kct_el rfl rfl rfl
  · k_steps
    rename News _ _ _ _ => N7
    have n7 := news_ne N7 (.head _) (.tail _ (.tail _ (.tail _ (.head _)))) (by rw [dN0]; exact fun e => by cases e)
    try dsimp only at n7
    k_steps
    rename Fr _ _ _ _ => F8
    rename News _ _ _ _ => N8
    rename CarriedAll _ _ => hc8
    rename (Obj.data _ = Data.cell (some (Value.ref _))) => dN
    rename (Heap.IsList (Shared.heap s) _ _) => ho
    have hi : IntsAre vs (ord.map fun k : Nat => (k : Int)) := hi_
    rename (_ ∧ _ ∧ _ ∧ LCg.Off1 _ _) => o1x
    rename_i nl g5 tk5 g4 hk4 ho2 nm4 g3 g2 g1 g0 oN
    rw [List.length_map, hn] at hc8
    have hys := ys_at hc8
    have hofs : OwnOff tl [nl, L + 1 + 1 + 1, L + 1 + 1, L + 1] := fun p hp b hb => by
      rcases List.mem_cons.mp hb with rfl | hb
      · exact off1_ne (o1x.2.2.2) p hp
      · exact off p hp b hb
    have N8' : News s.heap L _ _ := fun p hp => N8 p (List.Mem.tail _ hp)
    clear N8
    refine for_range s.heap n (LoJ w s.heap L nl ys oN oO R ord n) (by passes_own) ?_ (by intro _; rfl)
    k_steps
    rename Fr _ _ _ _ => F9
    rename News _ _ _ _ => N9
    rename IsRange _ _ _ _ _ _ _ _ => R9
    refine ⟨_, _, _, _, _, _, _, rfl, rfl, R9, (by rw [List.length_map, hn]), by omega, F9, N9, ⟨tl, [], tk₂, _, oT0, 0, _, rfl, rfl, RT, hofs, dT, by simp, Nat.zero_le _, by simp, (by subst hn; rfl), hg⟩, ?_, ?_⟩
    · intro i t I oI h1 tk1 gs1 m1 news1 hin F1 N1 off1 J1
      obtain ⟨tl1, ls1, ti1, u1, oT1, i0, cv1, rfl, rfl, RT1, of1, dT1, hk1, hi0, hd1, hout1, hg1⟩ := J1
      obtain ⟨x, hx⟩ : ∃ x, ord[i]? = some x := ⟨ord[i]'(by omega), by simp⟩
      have hxm : x ∈ ord := List.mem_of_getElem? hx
      have hxn := hlt x hxm
      have hxd := not_in_take hnd hx
      have hnl : (nl : Nat) ≠ L + 1 + 1 + 1 := news_ne N1 (.tail _ (.head _)) (.tail _ (.tail _ (.head _))) (by rw [dT1]; exact fun e => by cases e)
      have U : UpdF (L + 1 + 1 + 1) oT1 ((I, oI) :: (nl, LCg.lst ys) :: (L + 1 + 1 + 1, oT1) :: (L + 1 + 1, oN) :: (L + 1, oO) :: tl1) _ :=
        UpdF.tail (fun q => off1 _ (.tail _ (.head _)) q.symm) (UpdF.tail hnl (UpdF.head (List.forall_mem_cons.mpr ⟨Nat.ne_of_lt (Nat.lt_succ_self _), List.forall_mem_cons.mpr ⟨Nat.ne_of_lt (Nat.lt_trans (Nat.lt_succ_self _) (Nat.lt_succ_self _)), fun p hp => of1 p hp _ (.tail _ (.head _))⟩⟩)))
      refine wpAny_assign_Name (storeX_C F1 N1 (by rfl) U dT1 ?_)
      intro h2 oT2 F2 N2 dT2
      (try dsimp only at N2)
      refine wpAny_execs_cons ?_
      have of2 : OwnOff tl1 [I, nl, L + 1 + 1 + 1, L + 1 + 1, L + 1] := fun p hp b hb => by
        rcases List.mem_cons.mp hb with rfl | hb
        · exact off1 p (.tail _ (.tail _ (.tail _ (.tail _ hp))))
        · exact of1 p hp b hb
      refine wh_loop (done := ord.take i) Z (show dp + 1 + 10 < _ by omega) ho hi hn h7 hx hxn hys (by passes_own) hnm F2 N2 dT2 dN dO RT1 of2 hk1 hi0 hd1 hxd ?_
      intro h3 tk3 tl3 ls3 ti3 RT3 off3 hks3 F3 N3
      refine rest_body Z (show dp + 1 + 20 < _ by omega) (show un + 3 + 200 < _ by omega) ho hi hn h7 hx hxn hys hnm hok (by omega) hxd F3 N3 dT2 dN dO RT3 off3 hks3 (by omega) ?_
      intro h4 tk4 D yl hyl off4 F4 N4
      have hne : ((List.range (max i0 (x + 1))).filter fun k => decide (k ∉ ord.take i)) ≠ [] := fun q => by
        have : x ∈ ((List.range (max i0 (x + 1))).filter fun k => decide (k ∉ ord.take i)) := by
          rw [List.mem_filter]
          exact ⟨List.mem_range.mpr (by omega), decide_eq_true hxd⟩
        rw [q] at this; cases this
      refine tail_body Z (show dp + 1 + 20 < _ by omega) (show un + 3 + 200 < _ by omega) ho hi hn h7 hx hxn hys F4 N4 dT2 dN dO RT3 off4 hks3 hyl (Nat.le_trans (len_filt (n := n) (by omega)) (by omega)) hne ?_ ?_
      · intro hc h5 tk5 gs5 tl5 ls5 u5 b5 RT5 off5 hcc F5 N5
        obtain ⟨c', hk5, hc'⟩ := hcc
        have of5 : OwnOff tl5 [nl, L + 1 + 1 + 1, L + 1 + 1, L + 1] := fun p hp b hb => off5 p hp b (.tail _ (.tail _ hb))
        refine ⟨h5, tk5, _, _, _, rfl, F5, (fun p hp => N5 p (.tail _ hp)), ?_, ⟨tl5, ls5, ti3, u5, oT2, max i0 (x + 1), _, rfl, rfl, RT5, of5, dT2, ?_, by omega, ?_, outF_step hin hx hout1 hc, (hg1.push (g := .finished) rfl).push b5⟩⟩
        · refine List.forall_mem_cons.mpr ⟨off1 _ (.head _), List.forall_mem_cons.mpr ⟨off1 (L + 1 + 1 + 1, oT1) (.tail _ (.head _)), List.forall_mem_cons.mpr ⟨off1 _ (.tail _ (.tail _ (.head _))), List.forall_mem_cons.mpr ⟨off1 _ (.tail _ (.tail _ (.tail _ (.head _)))), fun p hp => off5 p hp I (.tail _ (.head _))⟩⟩⟩⟩
        · rw [hk5, take_snoc hx, ← filt_step hc']
        · rw [take_snoc hx]
          intro d hd
          rcases List.mem_append.mp hd with hd | hd
          · have := hd1 d hd; omega
          · have : d = x := by simpa using hd
            omega
      · intro hc tk5
        have e := outF_halt hin hx hout1 hc
        have e5 := h h4 tk5 _ t (hg1.push (g := .finished) rfl) (fun b o _ e => F4.keep b o e) (Heap.UpToSlots.of_keeps F4.keep)
        rw [← e] at e5
        exact e5
    · intro h1 tk1 gs1 m1 news1 F1 N1 J1
      obtain ⟨tl1, ls1, ti1, u1, oT1, i0, cv1, rfl, rfl, RT1, of1, dT1, hk1, hi0, hd1, hout1, hg1⟩ := J1
      have hls : ls1 = [] := by
        have e : ls1.map (·.key) = [] := by
          rw [hk1, List.map_eq_nil_iff, List.filter_eq_nil_iff]
          intro a ha
          have := hall a (by have := List.mem_range.mp ha; omega)
          rw [List.take_of_length_le (by omega)]
          simp [this]
        exact List.map_eq_nil_iff.mp e
      subst hls
      have e : n = outR ord := by rw [Nat.sub_self] at hout1; exact hout1
      refine try_body Zb hst hff (show dp + 1 + 20 < _ by omega) (show un + 3 + 200 < _ by omega) ho2 hi hn h7 F1 N1 dO RT1 (fun e => by passes_own) ?_
      intro h2 tk2 t2 kp2 us2
      have e6 := h h2 tk2 gs1 t2 hg1 kp2 us2
      rw [← e] at e6
      exact e6
end Mine

namespace Mine
theorem rsLW {M : Model} {A : Around} {E : Value → Shared → Prop} {env : Env} {Q : Flow → Shared → Prop} {s : Shared} (h : Q .next s) : wpAny M A (execs [] env) Q E s := by
  w_top off
  walk1
  exact h
end Mine
namespace Mine
def whBody0 : List Stmt := Subtype.val (p := fun b => ∃ n a d r tp sc ts bd pos, PG.main.body[5]? = some (Stmt.FunctionDef n a b d r tp sc ts bd pos)) ⟨_, _, _, _, _, _, _, _, _, _, rfl⟩
def whScope : Scope := Subtype.val (p := fun sc => ∃ n a b d r tp ts bd pos, PG.main.body[5]? = some (Stmt.FunctionDef n a b d r tp sc ts bd pos)) ⟨_, _, _, _, _, _, _, _, _, _, rfl⟩
def for1Body : List Stmt := Subtype.val (p := fun b => ∃ t i o p l, whBody0 = Stmt.For t i b o p :: l) ⟨_, _, _, _, _, _, rfl⟩
def for2Body : List Stmt := Subtype.val (p := fun b => ∃ t i o p l, for1Body = Stmt.For t i b o p :: l) ⟨_, _, _, _, _, _, rfl⟩
abbrev whEnv (L : Addr) : Env := envOfC (Str.ofString "_law_whole") whScope L 135 (.ref 134)
def wF1 (ord : List Int) (j : Nat) : List Int := (ord.drop (j + 1)).foldl (fun l k => if k < ord.getD j 0 then l ++ [k] else l) []
def wF2 (ord : List Int) (j i : Nat) : List Int := (ord.drop (j + 1)).foldl (fun l k => if ord.getD j 0 < k then if k < ord.getD i 0 then l ++ [k] else l else l) []
abbrev wBad (ord : List Int) (j i : Nat) : Prop := ord.getD j 0 < ord.getD i 0 ∧ wF1 ord j ≠ [] ∧ wF2 ord j i ≠ []
local macro_rules | `(tactic| walk_at "exec For") => `(tactic| refine stop ?_)
local macro_rules | `(tactic| walk_at "subscriptTail Name Slice ref ref") => `(tactic| refine stop ?_)
local macro_rules | `(tactic| walk_at "CompSrc") => `(tactic| refine stop ?_)
local macro_rules | `(tactic| walk_at "CompSrcT") => `(tactic| refine stop ?_)
section
variable {w : World} {dp un : Nat} {fr : Option (List Env)} {gd : Option (List Code)} {s : Shared} {h₀ : Heap} {L : Addr} {mg mb : Str → Option Value} {loose : List Str} {mean : ExcName → Option Value} {E : Value → Shared → Prop} {o : Addr} {vs : List Value} {ord : List Int} {I1 I2 : Addr} {oI1 oI2 oO oI oJ : Obj} {u : Str → Option Value} {ti tj : Tok} {i j : Nat} {n : Nat}

theorem wh_turn {Q : Flow → Shared → Prop} (Z : Bs w h₀ loose mean mg mb) (hroom : dp + 20 < recursionLimit) (hun : un + 200 < cLine) (ho : h₀.IsList o vs.toArray) (hi : IntsAre vs ord) (hn : ord.length = n) (h7 : n ≤ 7) (hjn : j < n) (hij : i < j)
    (F : Fr h₀ L s.heap u)
    (N : News h₀ L s.heap ((I2, oI2) :: (I1, oI1) :: (L + 1 + 1 + 1, oI) :: (L + 1 + 1, oJ) :: (L + 1, oO) :: []))
    (dI : oI.data = .cell (some (.int (i : Nat) ti))) (dJ : oJ.data = .cell (some (.int (j : Nat) tj))) (dO : oO.data = .cell (some (.ref o)))
    (h1 : ¬ wBad ord j i → ∀ h' tk' (u' : Str → Option Value), Fr h₀ L h' u' → News h₀ L h' ((I2, oI2) :: (I1, oI1) :: (L + 1 + 1 + 1, oI) :: (L + 1 + 1, oJ) :: (L + 1, oO) :: []) → Q .next { s with heap := h', toks := tk' })
    (hbad : wBad ord j i → ∀ h' tk' (u' : Str → Option Value), Fr h₀ L h' u' → Q (.ret (.bool false)) { s with heap := h', toks := tk' }) :
    wpAny (model PG w) ⟨none, dp, fr, gd, un⟩ (execs for2Body (whEnv L)) Q E s := by
  have X := Z.X
  have T := Z.T
  have hj' : j < ord.length := by omega
  have hi' : i < ord.length := by omega
  unfold for2Body whEnv whScope
  (try dsimp only)
  k_steps
  refine kmk_slice_ints (ms := ord.drop (j + 1)) (c := ord.length - (j + 1)) F N (ho.at fun o e => F.keep _ o e) (IsPart.int _ _) IsPart.none hi (by have := kmk_from hi (x := (j : Int) + 1) (by omega); rwa [show ((j : Int) + 1).toNat = j + 1 by omega] at this) (List.length_drop ..) ?_ (by with_unfolding_all rfl) (by intro _; with_unfolding_all rfl) (by rw [List.size_toArray, hi.length, sizeLine_eq]; omega)
  intro D ws h2 F2 N2 l1 hI2 hC2 hL2
  clear F N
  k_lt l1
  k_steps
  · refine LCt.CompSrcT.ledger (its := ws.toArray) (k := 0) (by rfl) (by k_asm) (by k_asm) (by k_mem) (by rw [List.size_toArray, hI2.length, sizeLine_eq]; omega) ?_
    intro g'
    refine' kci_list (fun l k => if k < ord.getD j 0 then l ++ [k] else l) hI2 (fun k' t' I' oI' C' oC' D' m' ys' l' h' tk' E' hk' hI' hC' hx' F' N' off' ne' hM => ?_) ?_ ?_
    · simp only [LCg.Off3, and_true] at off'
      k_fold
      k_steps
    · k_steps
      · rename (decide _ = true) => e1
        rename News _ _ _ _ => N5
        exact h1 (fun q => q.2.1 (of_decide_eq_true e1)) _ _ _ (by assumption) (fun p hp => N5 p (.tail _ (.tail _ (.tail _ hp))))
      · rename (decide _ = false) => e1
        rename (_ ∧ _ ∧ _ ∧ _ ∧ _ ∧ _) => o1
        clear o1
        rename (_ ≠ _ ∧ _) => o2
        clear o2
        rename News _ _ _ _ => N5
        rename Fr _ _ _ _ => F5
        have N6 : News h₀ L _ ((D, listOf ws.toArray 0) :: (I2, oI2) :: (I1, oI1) :: (L + 1 + 1 + 1, oI) :: (L + 1 + 1, oJ) :: (L + 1, oO) :: []) := fun p hp => N5 p (.tail _ (.tail _ hp))
        clear N5
        refine LCt.CompSrcT.ledger (its := ws.toArray) (k := 0) (by rfl) F5 N6 (.head _) (by rw [List.size_toArray, hI2.length, sizeLine_eq]; omega) ?_
        intro g5
        refine' kci_list (fun l k => if ord.getD j 0 < k then if k < ord.getD i 0 then l ++ [k] else l else l) hI2 (fun k' t' I' oI' C' oC' D' m' ys' l' h' tk' E' hk' hI' hC' hx' F' N' off' ne' hM => ?_) ?_ ?_
        · simp only [LCg.Off3, and_true] at off'
          k_fold
          k_steps
        · k_steps
          · rename (decide _ = true) => e2
            rename News _ _ _ _ => N7
            exact h1 (fun q => q.2.2 (of_decide_eq_true e2)) _ _ _ (by assumption) (fun p hp => N7 p (.tail _ (.tail _ (.tail _ hp))))
          · rename (decide _ = false) => e2
            exact hbad ⟨by assumption, of_decide_eq_false e1, of_decide_eq_false e2⟩ _ _ _ (by assumption)
        · intro l k
          dsimp only
          (repeat' split) <;> simp
    · intro l k
      dsimp only
      split <;> simp
  · rename (¬ _ < _) => e1
    rename News _ _ _ _ => N5
    exact h1 (fun q => e1 q.1) _ _ _ (by assumption) (fun p hp => N5 p (.tail _ hp))
end
end Mine

namespace Mine
theorem rsLW2 {M : Model} {A : Around} {E : Value → Shared → Prop} {env : Env} {Q : Flow → Shared → Prop} {s : Shared} (h : Q .next s) : wpAny M A (execs [] env) Q E s := by
  w_top off
  walk1
  exact h
end Mine
namespace Mine
def wWhole (ord : List Int) (n : Nat) : Bool := !((List.range n).any fun j => (List.range j).any fun i => decide (wBad ord j i))
theorem whole_false {ord : List Int} {n j i : Nat} (hj : j < n) (hi : i < j) (h : wBad ord j i) : wWhole ord n = false := by
  unfold wWhole
  rw [Bool.not_eq_false', List.any_eq_true]
  exact ⟨j, List.mem_range.mpr hj, List.any_eq_true.mpr ⟨i, List.mem_range.mpr hi, decide_eq_true h⟩⟩
theorem whole_true {ord : List Int} {n : Nat} (h : ∀ j, j < n → ∀ i, i < j → ¬ wBad ord j i) : wWhole ord n = true := by
  unfold wWhole
  rw [Bool.not_eq_true', List.any_eq_false]
  intro j hj
  rw [Bool.not_eq_true, List.any_eq_false]
  intro i hi
  simp [h j (List.mem_range.mp hj) i (List.mem_range.mp hi)]
local macro_rules | `(tactic| walk_at "exec For") => `(tactic| refine stop ?_)

def WJ2 (L I1 : Addr) (oI1 oJ oO : Obj) (ord : List Int) (gs₀ : Array GenState) (j i : Nat) (m : Str → Option Value) (news : List (Addr × Obj)) (gs : Array GenState) : Prop :=
  ∃ (oI : Obj) (cvI : Option Value), news = (I1, oI1) :: (L + 1 + 1 + 1, oI) :: (L + 1 + 1, oJ) :: (L + 1, oO) :: [] ∧ oI.data = .cell cvI ∧ gs = gs₀ ∧ ∀ i', i' < i → ¬ wBad ord j i'
def WJ1 (L : Addr) (oO : Obj) (ord : List Int) (gs₀ : Array GenState) (j : Nat) (m : Str → Option Value) (news : List (Addr × Obj)) (gs : Array GenState) : Prop :=
  ∃ (oI oJ : Obj) (cvI cvJ : Option Value), news = (L + 1 + 1 + 1, oI) :: (L + 1 + 1, oJ) :: (L + 1, oO) :: [] ∧ oI.data = .cell cvI ∧ oJ.data = .cell cvJ ∧ gs = gs₀ ∧ ∀ j', j' < j → ∀ i', i' < j' → ¬ wBad ord j' i'

theorem law_whole_spec {w : World} {dp un : Nat} {fr : Option (List Env)} {gd : Option (List Code)} {s : Shared} {mg mb : Str → Option Value} {loose : List Str} {mean : ExcName → Option Value} {o : Addr} {vs : List Value} {ord : List Int} {n : Nat} {P : Result → Shared → Prop}
    (Z : Bs w s.heap loose mean mg mb) (hroom : dp + 40 < recursionLimit) (hun : un + 300 < cLine) (ho : s.heap.IsList o vs.toArray) (hi : IntsAre vs ord) (hn : ord.length = n) (h7 : n ≤ 7)
    (h : ∀ h' tk', (∀ b o, s.heap.get? b = some o → h'.get? b = some o) → P (.ok (.ret (.bool (wWhole ord n)))) { s with heap := h', toks := tk' }) :
    codeAny (model PG w) ⟨none, dp, fr, gd, un⟩ (.call (.ref 135) ⟨[.ref o], []⟩) P s := by
  refine callWC (binds := [(Str.ofString "order", .ref o)]) Z (Nat.lt_of_le_of_lt (Nat.le_add_right _ 40) hroom) (by k_is) (by k_is) (BindsTo.of_eq rfl) rfl (by decide +kernel) ?_
  intro L h₁ tk cells hL F N Y
  k_fold
  k_cells Y
  rename_i oI0 oJ0 oO dI0 dJ0 dO
  have X := Z.X
  have T := Z.T
  k_steps
  refine for_range s.heap n (WJ1 L oO ord s.gens) (by passes_own) ?_ (by intro _; rfl)
  k_steps
  rename (Heap.IsList (Shared.heap s) _ _) => ho
  rename Fr _ _ _ _ => F9
  rename News _ _ _ _ => N9
  rename IsRange _ _ _ _ _ _ _ _ => R9
  refine ⟨_, _, _, _, _, _, _, rfl, rfl, R9, (by rw [hn]), by omega, F9, N9, ⟨oI0, oJ0, _, _, rfl, dI0, dJ0, rfl, fun j' hj' => absurd hj' (Nat.not_lt_zero _)⟩, ?_, ?_⟩
  · intro j t I1 oI1 h1 tk1 gs1 m1 news1 hjn F1 N1 off1 J1
    obtain ⟨oI, oJ, cvI, cvJ, rfl, dI, dJ, rfl, hno⟩ := J1
    have U : UpdF (L + 1 + 1) oJ ((I1, oI1) :: (L + 1 + 1 + 1, oI) :: (L + 1 + 1, oJ) :: (L + 1, oO) :: []) _ :=
      UpdF.tail (fun q => off1 (L + 1 + 1, oJ) (.tail _ (.head _)) q.symm) (UpdF.tail (Nat.ne_of_gt (Nat.lt_succ_self _)) (UpdF.head (List.forall_mem_cons.mpr ⟨Nat.ne_of_lt (Nat.lt_succ_self _), List.forall_mem_nil _⟩)))
    refine wpAny_assign_Name (storeX_C F1 N1 (by rfl) U dJ ?_)
    intro h2 oJ2 F2 N2 dJ2
    clear F1 N1 F9 N9
    (try dsimp only at N2)
    refine wpAny_execs_cons ?_
    refine for_range s.heap j (WJ2 L I1 oI1 oJ2 oO ord s.gens j) (by passes_own) ?_ (by intro _; rfl)
    k_steps
    rename Fr _ _ _ _ => F10
    rename News _ _ _ _ => N10
    rename IsRange _ _ _ _ _ _ _ _ => R10
    have offs : ∀ oa ob oc : Obj, ∀ p ∈ ([(L + 1 + 1 + 1, oa), (L + 1 + 1, ob), (L + 1, oc)] : List (Addr × Obj)), p.1 ≠ I1 := fun oa ob oc => List.forall_mem_cons.mpr ⟨off1 (L + 1 + 1 + 1, oI) (.head _), List.forall_mem_cons.mpr ⟨off1 (L + 1 + 1, oJ) (.tail _ (.head _)), List.forall_mem_cons.mpr ⟨off1 (L + 1, oO) (.tail _ (.tail _ (.head _))), List.forall_mem_nil _⟩⟩⟩
    refine ⟨_, _, _, _, _, _, _, rfl, rfl, R10, rfl, by omega, F10, N10, ⟨oI, cvI, rfl, dI, rfl, fun i' hi' => absurd hi' (Nat.not_lt_zero _)⟩, ?_, ?_⟩
    · intro i t2 I2 oI2 h3 tk3 gs3 m3 news3 hij F3 N3 off3 J3
      obtain ⟨oI3, cvI3, rfl, dI3, rfl, hno3⟩ := J3
      have U2 : UpdF (L + 1 + 1 + 1) oI3 ((I2, oI2) :: (I1, oI1) :: (L + 1 + 1 + 1, oI3) :: (L + 1 + 1, oJ2) :: (L + 1, oO) :: []) _ :=
        UpdF.tail (fun q => off3 (L + 1 + 1 + 1, oI3) (.tail _ (.head _)) q.symm) (UpdF.tail (fun q => offs oI oJ oO (L + 1 + 1 + 1, oI) (.head _) q.symm) (UpdF.head (List.forall_mem_cons.mpr ⟨Nat.ne_of_lt (Nat.lt_succ_self _), List.forall_mem_cons.mpr ⟨Nat.ne_of_lt (Nat.lt_trans (Nat.lt_succ_self _) (Nat.lt_succ_self _)), List.forall_mem_nil _⟩⟩)))
      refine wpAny_assign_Name (storeX_C F3 N3 (by rfl) U2 dI3 ?_)
      intro h4 oI4 F4 N4 dI4
      refine wh_turn Z (show dp + 1 + 20 < _ by omega) (show un + 3 + 200 < _ by omega) (by assumption) (by assumption) hn h7 hjn hij F4 N4 dI4 dJ2 dO ?_ ?_
      · intro hb h5 tk5 u5 F5 N5
        refine ⟨h5, tk5, _, _, _, rfl, F5, N5, ?_, ⟨oI4, _, rfl, dI4, rfl, fun i' hi' => ?_⟩⟩
        · refine List.forall_mem_cons.mpr ⟨off3 (I1, oI1) (.head _), List.forall_mem_cons.mpr ⟨off3 (L + 1 + 1 + 1, oI3) (.tail _ (.head _)), List.forall_mem_cons.mpr ⟨off3 (L + 1 + 1, oJ2) (.tail _ (.tail _ (.head _))), List.forall_mem_cons.mpr ⟨off3 (L + 1, oO) (.tail _ (.tail _ (.tail _ (.head _)))), List.forall_mem_nil _⟩⟩⟩⟩
        · by_cases e : i' = i
          · rw [e]; exact hb
          · exact hno3 i' (by omega)
      · intro hb h5 tk5 u5 F5
        have e5 := h h5 tk5 F5.keep
        rw [whole_false hjn hij hb] at e5
        exact e5
    · intro h3 tk3 gs3 m3 news3 F3 N3 J3
      obtain ⟨oI3, cvI3, rfl, dI3, rfl, hno3⟩ := J3
      refine wpAny_execs_nil ?_
      refine ⟨h3, tk3, _, _, _, rfl, F3, N3, offs _ _ _, ⟨oI3, oJ2, _, _, rfl, dI3, dJ2, rfl, fun j' hj' i' hi' => ?_⟩⟩
      by_cases e : j' = j
      · subst e; exact hno3 i' hi'
      · exact hno j' (by omega) i' hi'
  · intro h1 tk1 gs1 m1 news1 F1 N1 J1
    obtain ⟨oI, oJ, cvI, cvJ, rfl, dI, dJ, rfl, hno⟩ := J1
    clear F9 N9
    k_steps
    have e5 := h h1 tk1 F1.keep
    rw [whole_true hno] at e5
    exact e5
end Mine

namespace Mine
theorem rsPl4 {M : Model} {A : Around} {E : Value → Shared → Prop} {env : Env} {Q : Flow → Shared → Prop} {s : Shared} (h : Q .next s) : wpAny M A (execs [] env) Q E s := by
  w_top off
  walk1
  exact h
end Mine
namespace Mine
def insN (o : List Nat) (p t : Nat) : List Nat := o.take p ++ t :: o.drop p
def allB : Nat → List (List Nat)
  | 0 => [[]]
  | t + 1 => (allB t).flatMap fun o => (List.range (t + 1)).map fun p => insN o p t
def anyLt (b : Nat) : List Nat → Bool
  | [] => false
  | k :: l => Nat.ble (k + 1) b || anyLt b l
def anyIn (b m : Nat) : List Nat → Bool
  | [] => false
  | k :: l => (Nat.ble (b + 1) k && Nat.ble (k + 1) m) || anyIn b m l
def wfB (m : Nat) : List Nat → Bool
  | [] => true
  | b :: l => !(anyLt b l && anyIn b m l) && wfB (bif Nat.ble m b then b else m) l
def lastB (x : Nat) : Nat → List Nat → Bool
  | b, [] => Nat.beq b x
  | _, a :: l => lastB x a l
def addUp (f i x : Nat) : List Nat :=
  match f with
  | 0 => []
  | f + 1 => bif Nat.ble i x then i :: addUp f (i + 1) x else []
def step (x i : Nat) (c : List Nat) : List Nat := bif Nat.ble (x + 1) i then c else c ++ addUp 8 i x
def simB (t i : Nat) (c : List Nat) : List Nat → Nat
  | [] => t
  | x :: l =>
    match step x i c with
    | [] => t
    | a :: c' => bif lastB x a c' then simB (t + 1) (bif Nat.ble (x + 1) i then i else x + 1) (a :: c').dropLast l
      else bif Nat.beq a x then simB (t + 1) (bif Nat.ble (x + 1) i then i else x + 1) c' l else t
def good (n : Nat) (o : List Nat) : Bool := (Nat.beq (simB 0 0 [] o) n) == wfB 0 o

theorem addUp_eq : ∀ f i x, x + 1 - i ≤ f → addUp f i x = List.range' i (x + 1 - i)
  | 0, i, x, h => by rw [show x + 1 - i = 0 by omega]; rfl
  | f + 1, i, x, h => by
    unfold addUp
    by_cases c : i ≤ x
    · rw [Nat.ble_eq_true_of_le c, cond_true, addUp_eq f (i + 1) x (by omega), show x + 1 - i = (x + 1 - (i + 1)) + 1 by omega, List.range'_succ]
    · rw [show Nat.ble i x = false by cases q : Nat.ble i x with | false => rfl | true => exact absurd (Nat.le_of_ble_eq_true q) c, cond_false, show x + 1 - i = 0 by omega]; rfl
theorem ble_iff {a b : Nat} : Nat.ble a b = decide (a ≤ b) := by
  cases q : Nat.ble a b with
  | true => exact (decide_eq_true (Nat.le_of_ble_eq_true q)).symm
  | false => exact (decide_eq_false (fun h => by rw [Nat.ble_eq_true_of_le h] at q; cases q)).symm
theorem step_eq {done : List Nat} {x i : Nat} (hd : ∀ d ∈ done, d < i) (hx : x < 8) :
    step x i ((List.range i).filter fun k => decide (k ∉ done)) = (List.range (max i (x + 1))).filter fun k => decide (k ∉ done) := by
  unfold step
  by_cases c : x + 1 ≤ i
  · rw [Nat.ble_eq_true_of_le c, cond_true, Nat.max_eq_left c]
  · rw [ble_iff, decide_eq_false c, cond_false, addUp_eq 8 i x (by omega), Nat.max_eq_right (by omega)]
    have e : List.range (x + 1) = List.range i ++ List.range' i (x + 1 - i) := by
      rw [List.range_eq_range', List.range_eq_range']
      have := @List.range'_append_1 0 i (x + 1 - i)
      rw [Nat.zero_add] at this
      rw [this, show i + (x + 1 - i) = x + 1 by omega]
    rw [e, List.filter_append]
    congr 1
    symm
    apply List.filter_eq_self.mpr
    intro a ha
    have := List.mem_range'_1.mp ha
    exact decide_eq_true (fun q => by have := hd a q; omega)
theorem lastB_eq (x : Nat) : ∀ (l : List Nat) (b : Nat), lastB x b l = decide ((b :: l).getLast? = some x)
  | [], b => by
    unfold lastB
    rw [show Nat.beq b x = decide (b = x) from by cases q : Nat.beq b x with | true => exact (decide_eq_true (Nat.eq_of_beq_eq_true q)).symm | false => exact (decide_eq_false (Nat.ne_of_beq_eq_false q)).symm]
    simp
  | a :: l, b => by
    unfold lastB
    rw [lastB_eq x l a, List.getLast?_cons_cons]
theorem beq_dec (a x : Nat) : Nat.beq a x = decide (a = x) := by
  cases q : Nat.beq a x with | true => exact (decide_eq_true (Nat.eq_of_beq_eq_true q)).symm | false => exact (decide_eq_false (Nat.ne_of_beq_eq_false q)).symm
theorem sim_eq (ord : List Nat) (h8 : ∀ x ∈ ord, x < 8) (nd : ord.Nodup) : ∀ (rest done : List Nat) (i : Nat), ord = done ++ rest → (∀ d ∈ done, d < i) →
    simB done.length i ((List.range i).filter fun k => decide (k ∉ done)) rest = outF ord rest.length done.length i
  | [], done, i, _, _ => by simp [simB, outF]
  | x :: l, done, i, e, hd => by
    have hx : ord[done.length]? = some x := by rw [e]; simp
    have htk : ord.take done.length = done := by rw [e]; simp
    have hxm : x ∈ ord := List.mem_of_getElem? hx
    have hxd : x ∉ done := by have := not_in_take nd hx; rwa [htk] at this
    have hxi : (bif Nat.ble (x + 1) i then i else x + 1) = max i (x + 1) := by
      rw [ble_iff]
      by_cases c : x + 1 ≤ i
      · rw [decide_eq_true c, cond_true]; omega
      · rw [decide_eq_false c, cond_false]; omega
    rw [List.length_cons]
    unfold simB outF
    rw [step_eq hd (h8 x hxm), hx]
    simp only [htk, hxi]
    generalize hc : ((List.range (max i (x + 1))).filter fun k => decide (k ∉ done)) = c
    have next : ∀ c', (c = c' ++ [x] ∨ c = x :: c') → simB (done.length + 1) (max i (x + 1)) c' l = outF ord l.length (done.length + 1) (max i (x + 1)) := fun c' h => by
      have f := filt_step (S := done) (i := max i (x + 1)) (x := x) (c' := c') (by rw [hc]; exact h)
      have ih := sim_eq ord h8 nd l (done ++ [x]) (max i (x + 1)) (by rw [e]; simp) (fun d hd' => by
        rcases List.mem_append.mp hd' with q | q
        · have := hd d q; omega
        · have : d = x := by simpa using q
          omega)
      rw [List.length_append, List.length_singleton, ← f] at ih
      exact ih
    cases c with
    | nil =>
      have : x ∈ ((List.range (max i (x + 1))).filter fun k => decide (k ∉ done)) := List.mem_filter.mpr ⟨List.mem_range.mpr (by omega), decide_eq_true hxd⟩
      rw [hc] at this; cases this
    | cons a c' =>
      simp only [lastB_eq, beq_dec]
      by_cases h1 : (a :: c').getLast? = some x
      · rw [decide_eq_true h1, cond_true, if_pos (.inl h1)]
        refine next _ (.inl ?_)
        obtain ⟨ys, hy⟩ := List.getLast?_eq_some_iff.mp h1
        rw [hy]; simp
      · rw [decide_eq_false h1, cond_false]
        by_cases h2 : a = x
        · rw [decide_eq_true h2, cond_true, if_pos (.inr (by rw [h2]; rfl))]
          exact next _ (.inr (by rw [h2]))
        · rw [decide_eq_false h2, cond_false, if_neg]
          rintro (q | q)
          · exact h1 q
          · simp at q; exact h2 q
theorem sim_out {ord : List Nat} (h8 : ∀ x ∈ ord, x < 8) (nd : ord.Nodup) : simB 0 0 [] ord = outR ord := sim_eq ord h8 nd ord [] 0 rfl (fun _ h => nomatch h)

theorem foldl_if (p : Int → Bool) : ∀ (ks l : List Int), ks.foldl (fun l k => if p k = true then l ++ [k] else l) l = l ++ ks.filter p
  | [], l => by simp
  | k :: ks, l => by
    rw [List.foldl_cons, foldl_if p ks]
    cases h : p k <;> simp [h]
theorem wF1_ne {o : List Nat} {j b : Nat} (hj : o[j]? = some b) : wF1 (o.map fun k : Nat => (k : Int)) j ≠ [] ↔ anyLt b (o.drop (j + 1)) = true := by
  have hb : (o.map fun k : Nat => (k : Int)).getD j 0 = (b : Nat) := by simp [hj]
  unfold wF1
  rw [hb]
  have := foldl_if (fun k => decide (k < (b : Int))) ((o.map fun k : Nat => (k : Int)).drop (j + 1)) []
  simp only [decide_eq_true_eq, List.nil_append] at this
  rw [this, ← List.map_drop]
  generalize o.drop (j + 1) = l
  induction l with
  | nil => simp [anyLt]
  | cons k l ih =>
    unfold anyLt
    rw [ble_iff]
    by_cases c : k < b
    · simp [c]; omega
    · have c' : ¬ k + 1 ≤ b := by omega
      simp only [List.map_cons, List.filter_cons, c', decide_false, Bool.false_or]
      rw [if_neg (by simp; omega)]
      exact ih
theorem wF2_ne {o : List Nat} {j i b a : Nat} (hj : o[j]? = some b) (hi : o[i]? = some a) : wF2 (o.map fun k : Nat => (k : Int)) j i ≠ [] ↔ anyIn b a (o.drop (j + 1)) = true := by
  have hb : (o.map fun k : Nat => (k : Int)).getD j 0 = (b : Nat) := by simp [hj]
  have ha : (o.map fun k : Nat => (k : Int)).getD i 0 = (a : Nat) := by simp [hi]
  unfold wF2
  rw [hb, ha]
  have := foldl_if (fun k => decide ((b : Int) < k) && decide (k < (a : Int))) ((o.map fun k : Nat => (k : Int)).drop (j + 1)) []
  rw [List.nil_append] at this
  have e : (fun (l : List Int) k => if (b : Int) < k then if k < (a : Int) then l ++ [k] else l else l) = fun l k => if (decide ((b : Int) < k) && decide (k < (a : Int))) = true then l ++ [k] else l := by
    funext l k
    by_cases h1 : (b : Int) < k <;> by_cases h2 : k < (a : Int) <;> simp [h1, h2]
  rw [e, this, ← List.map_drop]
  generalize o.drop (j + 1) = l
  induction l with
  | nil => simp [anyIn]
  | cons k l ih =>
    unfold anyIn
    rw [ble_iff, ble_iff]
    by_cases c : b < k ∧ k < a
    · have c1 : b + 1 ≤ k := c.1
      have c2 : k + 1 ≤ a := c.2
      simp [c1, c2]; omega
    · have c' : (decide (b + 1 ≤ k) && decide (k + 1 ≤ a)) = false := by
        rw [Bool.and_eq_false_iff, decide_eq_false_iff_not, decide_eq_false_iff_not]; omega
      rw [c', Bool.false_or, List.map_cons, List.filter_cons, if_neg (by rw [Bool.and_eq_true, decide_eq_true_eq, decide_eq_true_eq]; omega)]
      exact ih
theorem anyIn_mono {b m m' : Nat} (h : m ≤ m') : ∀ {l : List Nat}, anyIn b m l = true → anyIn b m' l = true
  | [], q => by cases q
  | k :: l, q => by
    unfold anyIn at q ⊢
    rw [ble_iff, ble_iff] at q ⊢
    rw [Bool.or_eq_true] at q ⊢
    rcases q with q | q
    · left
      rw [Bool.and_eq_true, decide_eq_true_eq, decide_eq_true_eq] at q ⊢
      omega
    · right; exact anyIn_mono h q
theorem anyIn_lt {b m : Nat} : ∀ {l : List Nat}, anyIn b m l = true → b + 1 < m
  | [], q => by cases q
  | k :: l, q => by
    unfold anyIn at q
    rw [ble_iff, ble_iff, Bool.or_eq_true] at q
    rcases q with q | q
    · rw [Bool.and_eq_true, decide_eq_true_eq, decide_eq_true_eq] at q
      omega
    · exact anyIn_lt q
theorem wBad_iff {o : List Nat} {j i b a : Nat} (hj : o[j]? = some b) (hi : o[i]? = some a) : wBad (o.map fun k : Nat => (k : Int)) j i ↔ anyLt b (o.drop (j + 1)) = true ∧ anyIn b a (o.drop (j + 1)) = true := by
  have hb : (o.map fun k : Nat => (k : Int)).getD j 0 = (b : Nat) := by simp [hj]
  have ha : (o.map fun k : Nat => (k : Int)).getD i 0 = (a : Nat) := by simp [hi]
  unfold wBad
  rw [wF1_ne hj, wF2_ne hj hi, hb, ha]
  constructor
  · rintro ⟨_, h1, h2⟩; exact ⟨h1, h2⟩
  · rintro ⟨h1, h2⟩; exact ⟨by have := anyIn_lt h2; omega, h1, h2⟩
theorem wf_iff (o : List Nat) : ∀ (l pre : List Nat) (m : Nat), o = pre ++ l → (∀ a ∈ pre, a ≤ m) → (m = 0 ∨ m ∈ pre) →
    (wfB m l = true ↔ ∀ j, pre.length ≤ j → j < o.length → ∀ i, i < j → ¬ wBad (o.map fun k : Nat => (k : Int)) j i)
  | [], pre, m, e, _, _ => by
    simp only [wfB, true_iff]
    intro j h1 h2
    rw [e, List.append_nil] at h2; omega
  | b :: l, pre, m, e, hle, hm => by
    have hj : o[pre.length]? = some b := by rw [e]; simp
    have hdrop : o.drop (pre.length + 1) = l := by rw [e]; simp
    have hmx : (bif Nat.ble m b then b else m) = max m b := by
      rw [ble_iff]
      by_cases c : m ≤ b
      · rw [decide_eq_true c, cond_true]; omega
      · rw [decide_eq_false c, cond_false]; omega
    have ih := wf_iff o l (pre ++ [b]) (max m b) (by rw [e]; simp) (fun a ha => by
      rcases List.mem_append.mp ha with q | q
      · have := hle a q; omega
      · have : a = b := by simpa using q
        omega) (by
      by_cases c : m ≤ b
      · right; rw [Nat.max_eq_right c]; simp
      · rw [Nat.max_eq_left (by omega)]
        rcases hm with q | q
        · left; exact q
        · right; exact List.mem_append_left _ q)
    have here : (anyLt b l && anyIn b m l) = false ↔ ∀ i, i < pre.length → ¬ wBad (o.map fun k : Nat => (k : Int)) pre.length i := by
      constructor
      · intro q i hi hb
        obtain ⟨a, ha⟩ : ∃ a, o[i]? = some a := ⟨pre[i], by rw [e, List.getElem?_append_left hi]; simp [hi]⟩
        have ham : a ≤ m := hle a (List.mem_of_getElem? (i := i) (by rw [e, List.getElem?_append_left hi] at ha; exact ha))
        rw [wBad_iff hj ha, hdrop] at hb
        rw [hb.1, anyIn_mono ham hb.2] at q
        cases q
      · intro q
        cases c : (anyLt b l && anyIn b m l) with
        | false => rfl
        | true =>
          rw [Bool.and_eq_true] at c
          have hlt := anyIn_lt c.2
          rcases hm with h0 | h0
          · omega
          · obtain ⟨i, hi, ei⟩ := List.mem_iff_getElem.mp h0
            exact absurd ((wBad_iff hj (a := m) (by rw [e, List.getElem?_append_left hi]; simp [hi, ei])).mpr (by rw [hdrop]; exact c)) (q i hi)
    unfold wfB
    rw [hmx, Bool.and_eq_true, Bool.not_eq_true', here, ih]
    constructor
    · rintro ⟨h1, h2⟩ j hj1 hj2 i hi
      by_cases c : j = pre.length
      · subst c; exact h1 i hi
      · exact h2 j (by rw [List.length_append, List.length_singleton]; omega) hj2 i hi
    · intro h
      refine ⟨fun i hi => h pre.length (Nat.le_refl _) (by rw [e]; simp) i hi, fun j hj1 hj2 i hi => h j (by rw [List.length_append] at hj1; omega) hj2 i hi⟩
theorem whole_wf (o : List Nat) : wWhole (o.map fun k : Nat => (k : Int)) o.length = wfB 0 o := by
  have h := wf_iff o o [] 0 rfl (fun _ q => nomatch q) (.inl rfl)
  cases q : wfB 0 o with
  | true => exact whole_true fun j hj i hi => (h.mp q) j (Nat.zero_le _) hj i hi
  | false =>
    cases c : wWhole (o.map fun k : Nat => (k : Int)) o.length with
    | false => rfl
    | true =>
      exfalso
      have : wfB 0 o = true := h.mpr fun j _ hj i hi hb => by rw [whole_false hj hi hb] at c; cases c
      rw [q] at this; cases this
end Mine

namespace Mine
theorem rsPl5 {M : Model} {A : Around} {E : Value → Shared → Prop} {env : Env} {Q : Flow → Shared → Prop} {s : Shared} (h : Q .next s) : wpAny M A (execs [] env) Q E s := by
  w_top off
  walk1
  exact h
end Mine
namespace Mine
theorem chk4 : (allB 4).all (good 4) = true := by decide +kernel
theorem chk5 : (allB 5).all (good 5) = true := by decide +kernel
theorem chk6 : (allB 6).all (good 6) = true := by decide +kernel
theorem allB_up (t : Nat) (f : List Nat → Bool) : (allB (t + 1)).all f = (allB t).all fun o => (List.range (t + 1)).all fun p => f (insN o p t) := by
  rw [allB, List.all_flatMap]
  congr 1
  funext o
  rw [List.all_map]
  rfl
def g7 (o : List Nat) : Bool := (List.range 5).all fun p => (List.range 6).all fun q => (List.range 7).all fun r => good 7 (insN (insN (insN o p 4) q 5) r 6)
theorem c7n0 : g7 [3, 2, 1, 0] = true := by decide +kernel
theorem c7n1 : g7 [2, 3, 1, 0] = true := by decide +kernel
theorem c7n2 : g7 [2, 1, 3, 0] = true := by decide +kernel
theorem c7n3 : g7 [2, 1, 0, 3] = true := by decide +kernel
theorem c7n4 : g7 [3, 1, 2, 0] = true := by decide +kernel
theorem c7n5 : g7 [1, 3, 2, 0] = true := by decide +kernel
theorem c7n6 : g7 [1, 2, 3, 0] = true := by decide +kernel
theorem c7n7 : g7 [1, 2, 0, 3] = true := by decide +kernel
theorem c7n8 : g7 [3, 1, 0, 2] = true := by decide +kernel
theorem c7n9 : g7 [1, 3, 0, 2] = true := by decide +kernel
theorem c7n10 : g7 [1, 0, 3, 2] = true := by decide +kernel
theorem c7n11 : g7 [1, 0, 2, 3] = true := by decide +kernel
theorem c7n12 : g7 [3, 2, 0, 1] = true := by decide +kernel
theorem c7n13 : g7 [2, 3, 0, 1] = true := by decide +kernel
theorem c7n14 : g7 [2, 0, 3, 1] = true := by decide +kernel
theorem c7n15 : g7 [2, 0, 1, 3] = true := by decide +kernel
theorem c7n16 : g7 [3, 0, 2, 1] = true := by decide +kernel
theorem c7n17 : g7 [0, 3, 2, 1] = true := by decide +kernel
theorem c7n18 : g7 [0, 2, 3, 1] = true := by decide +kernel
theorem c7n19 : g7 [0, 2, 1, 3] = true := by decide +kernel
theorem c7n20 : g7 [3, 0, 1, 2] = true := by decide +kernel
theorem c7n21 : g7 [0, 3, 1, 2] = true := by decide +kernel
theorem c7n22 : g7 [0, 1, 3, 2] = true := by decide +kernel
theorem c7n23 : g7 [0, 1, 2, 3] = true := by decide +kernel
theorem allB4 : allB 4 = [[3, 2, 1, 0], [2, 3, 1, 0], [2, 1, 3, 0], [2, 1, 0, 3], [3, 1, 2, 0], [1, 3, 2, 0], [1, 2, 3, 0], [1, 2, 0, 3], [3, 1, 0, 2], [1, 3, 0, 2], [1, 0, 3, 2], [1, 0, 2, 3], [3, 2, 0, 1], [2, 3, 0, 1], [2, 0, 3, 1], [2, 0, 1, 3], [3, 0, 2, 1], [0, 3, 2, 1], [0, 2, 3, 1], [0, 2, 1, 3], [3, 0, 1, 2], [0, 3, 1, 2], [0, 1, 3, 2], [0, 1, 2, 3]] := by decide +kernel
theorem chk7 : (allB 7).all (good 7) = true := by
  rw [allB_up 6, allB_up 5, allB_up 4]
  show (allB 4).all g7 = true
  rw [allB4]
  simp only [List.all_cons, List.all_nil, Bool.and_true, c7n0, c7n1, c7n2, c7n3, c7n4, c7n5, c7n6, c7n7, c7n8, c7n9, c7n10, c7n11, c7n12, c7n13, c7n14, c7n15, c7n16, c7n17, c7n18, c7n19, c7n20, c7n21, c7n22, c7n23]
theorem mem_allB {t : Nat} {o : List Nat} {p : Nat} (h : o ∈ allB t) (hp : p ≤ t) : insN o p t ∈ allB (t + 1) := by
  unfold allB
  rw [List.mem_flatMap]
  exact ⟨o, h, List.mem_map.mpr ⟨p, List.mem_range.mpr (by omega), rfl⟩⟩
theorem allB_perm : ∀ {n : Nat} {o : List Nat}, o ∈ allB n → o.length = n ∧ o.Nodup ∧ (∀ x ∈ o, x < n) ∧ ∀ k, k < n → k ∈ o
  | 0, o, h => by
    have : o = [] := by simpa [allB] using h
    subst this
    exact ⟨rfl, List.nodup_nil, (fun _ q => nomatch q), fun k q => absurd q (Nat.not_lt_zero _)⟩
  | t + 1, o, h => by
    unfold allB at h
    rw [List.mem_flatMap] at h
    obtain ⟨o', h', q⟩ := h
    obtain ⟨p, hp, rfl⟩ := List.mem_map.mp q
    obtain ⟨h1, h2, h3, h4⟩ := allB_perm h'
    have hmem : ∀ x, x ∈ insN o' p t ↔ x = t ∨ x ∈ o' := fun x => by
      unfold insN
      rw [List.mem_append, List.mem_cons]
      constructor
      · rintro (q | q | q)
        · exact .inr (List.mem_of_mem_take q)
        · exact .inl q
        · exact .inr (List.mem_of_mem_drop q)
      · rintro (q | q)
        · exact .inr (.inl q)
        · rw [← List.take_append_drop p o'] at q
          rcases List.mem_append.mp q with q | q
          · exact .inl q
          · exact .inr (.inr q)
    have nt : t ∉ o' := fun q => by have := h3 t q; omega
    refine ⟨?_, ?_, ?_, ?_⟩
    · unfold insN; rw [List.length_append, List.length_cons, List.length_take, List.length_drop]; omega
    · unfold insN
      have nd := h2
      rw [← List.take_append_drop p o'] at nd
      rw [List.nodup_append] at nd ⊢
      refine ⟨nd.1, List.nodup_cons.mpr ⟨fun q => nt (List.mem_of_mem_drop q), nd.2.1⟩, fun a ha b hb => ?_⟩
      rcases List.mem_cons.mp hb with rfl | hb
      · exact fun e => nt (e ▸ List.mem_of_mem_take ha)
      · exact nd.2.2 a ha b hb
    · intro x hx
      rcases (hmem x).mp hx with rfl | hx
      · exact Nat.lt_succ_self _
      · exact Nat.lt_succ_of_lt (h3 x hx)
    · intro k hk
      rw [hmem]
      by_cases e : k = t
      · exact .inl e
      · exact .inr (h4 k (by omega))
theorem law_plain {n : Nat} {o : List Nat} (h : o ∈ allB n) (h4 : 4 ≤ n) (h7 : n ≤ 7) : (decide (outR o = n)) = wWhole (o.map fun k : Nat => (k : Int)) n := by
  obtain ⟨p1, p2, p3, _⟩ := allB_perm h
  have hg : good n o = true := by
    have e : n = 4 ∨ n = 5 ∨ n = 6 ∨ n = 7 := by omega
    rcases e with rfl | rfl | rfl | rfl
    · exact List.all_eq_true.mp chk4 o h
    · exact List.all_eq_true.mp chk5 o h
    · exact List.all_eq_true.mp chk6 o h
    · exact List.all_eq_true.mp chk7 o h
  unfold good at hg
  rw [beq_iff_eq, sim_out (fun x hx => by have := p3 x hx; omega) p2, beq_dec, ← whole_wf, p1] at hg
  exact hg
def ord24 (n : Nat) : List Nat := insN (insN (insN [0] (n % 2) 1) (n / 2 % 3) 2) (n / 6) 3
theorem ord24_mem {n : Nat} (h : n < 24) : ord24 n ∈ allB 4 :=
  mem_allB (mem_allB (mem_allB (t := 1) (by decide) (by omega)) (by omega)) (by omega)
theorem ord24_out : ∀ n, n < 24 → outR (ord24 n) = if (ord24 n).take 2 = [3, 1] then 1 else 4 := by decide +kernel
theorem nm_inj : ∀ a, a < 7 → ∀ b, b < 7 → nm (a : Nat) = nm (b : Nat) → a = b := by decide +kernel
theorem nm_ok : ∀ a, a < 7 → PyData.strOk (nm (a : Nat)) = true := by decide +kernel
end Mine

namespace Mine
theorem rsLB {M : Model} {A : Around} {E : Value → Shared → Prop} {env : Env} {Q : Flow → Shared → Prop} {s : Shared} (h : Q .next s) : wpAny M A (execs [] env) Q E s := by
  w_top off
  walk1
  exact h
end Mine
namespace Mine
def lawBody : List Stmt := Subtype.val (p := fun b => ∃ n a d r tp sc ts bd pos, PG.main.body[6]? = some (Stmt.FunctionDef n a b d r tp sc ts bd pos)) ⟨_, _, _, _, _, _, _, _, _, _, rfl⟩
def lawScope : Scope := Subtype.val (p := fun sc => ∃ n a b d r tp ts bd pos, PG.main.body[6]? = some (Stmt.FunctionDef n a b d r tp sc ts bd pos)) ⟨_, _, _, _, _, _, _, _, _, _, rfl⟩
def law2 : List Stmt := Subtype.val (p := fun l => ∃ x, lawBody = x :: l) ⟨_, _, rfl⟩
def law3 : List Stmt := Subtype.val (p := fun l => ∃ x, law2 = x :: l) ⟨_, _, rfl⟩
def l24Body : List Stmt := Subtype.val (p := fun b => ∃ t i o p l, law2 = Stmt.For t i b o p :: l) ⟨_, _, _, _, _, _, rfl⟩
def l2Body : List Stmt := Subtype.val (p := fun b => ∃ t i o p l, law3 = Stmt.For t i b o p :: l) ⟨_, _, _, _, _, _, rfl⟩
def lInBody : List Stmt := Subtype.val (p := fun b => ∃ x t i o p l, l2Body = x :: Stmt.For t i b o p :: l) ⟨_, _, _, _, _, _, _, rfl⟩
abbrev lawEnv (L fa : Addr) (cd : Value) : Env := envOfC (Str.ofString "law") lawScope L fa cd

theorem kl_ints {vs : List Value} {o : List Nat} (hi : IntsAre vs (o.map fun k : Nat => (k : Int))) {x : Int} {p t : Nat} {tk : Tok} (hx : x = (p : Nat)) (hp : p ≤ o.length) : IntsAre (kl_ins vs x (.int (t : Nat) tk)) ((insN o p t).map fun k : Nat => (k : Int)) := by
  have hl : vs.length = o.length := by rw [hi.length, List.length_map]
  unfold kl_ins insN
  rw [if_neg (by omega), show min x.toNat vs.length = p by omega, List.map_append, List.map_cons, List.map_take, List.map_drop]
  exact IntsAre.append (hi.take p) (.cons _ tk (hi.drop p))

theorem out_call {w : World} {dp un : Nat} {env : Env} {gd : Option (List Code)} {s : Shared} {h₀ : Heap} {L : Addr} {m : Str → Option Value} {l : List (Addr × Obj)} {mg mb : Str → Option Value} {loose : List Str} {mean : ExcName → Option Value} {D : Addr} {vs : List Value} {c : Nat} {ord : List Nat} {n : Nat} {P : Result → Shared → Prop}
    (Z : Bs w h₀ loose mean mg mb) (henv : env.frame = some L) (hke : env.scope.kind = .function) (hroom : dp + 40 < recursionLimit) (hun : un + 300 < cLine) (F : Fr h₀ L s.heap m) (N : News h₀ L s.heap l) (hD : (D, ({ cls := .type "list", data := .seq vs.toArray c } : Obj)) ∈ l) (hi : IntsAre vs (ord.map fun k : Nat => (k : Int))) (ho : ord ∈ allB n) (h7 : n ≤ 7) (hg : AllBare s.gens)
    (h : ∀ h' tk' gs' t', AllBare gs' → Fr h₀ L h' m → News h₀ L h' l → P (.ok (.ret (.int (outR ord : Nat) t'))) { s with heap := h', toks := tk', gens := gs' }) :
    codeAny (model PG w) ⟨none, dp, some [env], gd, un⟩ (.call (.ref 130) ⟨[.ref D], []⟩) P s := by
  obtain ⟨p1, p2, p3, p4⟩ := allB_perm ho
  have hL0 : h₀.get? L = none := by
    cases q : h₀.get? L with
    | none => rfl
    | some o => exact absurd (Nat.lt_of_lt_of_le (Heap.lt_size q) F.above) (Nat.lt_irrefl _)
  obtain ⟨oL, _, _, eL, dL, _⟩ := id F.ns
  have hfs : fsOf [env] = [L] := by simp [fsOf, henv]
  have nD := N _ hD
  refine law_out_spec Z F.keep ⟨(by rw [hke]; exact fun q => by cases q), ⟨L, oL, henv, hL0, eL, fun vs q => by rw [dL] at q; cases q⟩, trivial⟩ hroom hun ⟨_, nD.1, rfl, _, rfl⟩ ⟨_, hideAll_get _ nD.1 (by rw [hfs]; simpa using nD.2.1), rfl, _, rfl⟩ hi p1 h7 p2 p3 p4 (fun a b ha hb => nm_inj a (by omega) b (by omega)) (fun a ha => nm_ok a (by omega)) hg ?_
  intro h' tk' gs' t' hb kp us
  rw [hfs] at kp
  have kp' : ∀ b o, b ≠ L → s.heap.get? b = some o → h'.get? b = some o := fun b o hb e => kp b o (by simpa using hb) e
  exact h h' tk' gs' t' hb ⟨us.ns F.ns, fun b o e => kp' b o (fun q => by rw [q, hL0] at e; cases e) (F.keep b o e), F.above⟩ (fun p hp => ⟨kp' _ _ (N p hp).2.1 (N p hp).1, (N p hp).2⟩)

theorem ins_call {w : World} {A : Around} {s : Shared} {E Q : Value → Shared → Prop} {h₀ : Heap} {L D : Addr} {m : Str → Option Value} {its : List Value} {c : Nat} {rest : List (Addr × Obj)} {x : Int} {p : Nat} {u : Tok} {y : Value}
    (F : Fr h₀ L s.heap m) (N : News h₀ L s.heap ((D, listOf its.toArray c) :: rest)) (hoff : ∀ q ∈ rest, q.1 ≠ D) (hx : x = (p : Nat)) (hp : p ≤ 100) (hlen : its.length ≤ 100)
    (h : ∀ h', Fr h₀ L h' m → News h₀ L h' ((D, listOf (kl_ins its x y).toArray (c + 1)) :: rest) → Q .none { s with heap := h' }) :
    wpAny (model PG w) A (call (.builtin "list.insert") [.ref D, .int x u, y]) Q E s :=
  kl_insert F N (by unfold Builtin.List.listFitsIndex; rw [Bool.and_eq_true, decide_eq_true_eq, decide_eq_true_eq]; omega) rfl (Upd.head hoff) (by show its.length ≤ _; rw [sizeLine_eq]; omega) h
theorem ins_nat {w : World} {A : Around} {s : Shared} {E Q : Value → Shared → Prop} {h₀ : Heap} {L D : Addr} {m : Str → Option Value} {its : List Value} {c : Nat} {rest : List (Addr × Obj)} {x y : Int} {p t : Nat} {u tk : Tok} {o : List Nat}
    (F : Fr h₀ L s.heap m) (N : News h₀ L s.heap ((D, listOf its.toArray c) :: rest)) (hoff : ∀ q ∈ rest, q.1 ≠ D) (hi : IntsAre its (o.map fun k : Nat => (k : Int))) (ho : o ∈ allB t) (hx : x = (p : Nat)) (hy : y = (t : Nat)) (hp : p ≤ t) (ht : t ≤ 100)
    (h : ∀ h' its', insN o p t ∈ allB (t + 1) → IntsAre its' ((insN o p t).map fun k : Nat => (k : Int)) → Fr h₀ L h' m → News h₀ L h' ((D, listOf its'.toArray (c + 1)) :: rest) → Q .none { s with heap := h' }) :
    wpAny (model PG w) A (call (.builtin "list.insert") [.ref D, .int x u, .int y tk]) Q E s := by
  subst hy
  have hl : o.length = t := (allB_perm ho).1
  have hl2 : its.length = t := by rw [hi.length, List.length_map, hl]
  refine ins_call F N hoff hx (by omega) (by omega) fun h' F' N' => h h' _ (mem_allB ho hp) (kl_ints hi hx (by omega)) F' N'
local macro_rules | `(tactic| walk_at "subscriptTail Name Slice ref ref") => `(tactic| refine stop ?_)
local macro_rules | `(tactic| walk_at "call builtin:list.insert") => `(tactic| refine stop ?_)
local macro_rules | `(tactic| walk_at "exec For") => `(tactic| refine stop ?_)
local macro_rules | `(tactic| walk_at "call ref") => `(tactic| refine stop ?_)
section
variable {w : World} {dp un : Nat} {gd : Option (List Code)} {s : Shared} {h₀ : Heap} {L fa : Addr} {cd : Value} {mg mb : Str → Option Value} {loose : List Str} {mean : ExcName → Option Value} {E : Value → Shared → Prop} {I Dn : Addr} {oI oN oS : Obj} {u : Str → Option Value} {t : Tok} {n : Nat}

theorem turn24 {Q : Flow → Shared → Prop} (Z : Bs w h₀ loose mean mg mb) (hroom : dp + 60 < recursionLimit) (hun : un + 400 < cLine) (hn : n < 24)
    (F : Fr h₀ L s.heap (fun y => if y = Str.ofString "n" then some (.int (n : Nat) t) else u y))
    (N : News h₀ L s.heap ((I, oI) :: (Dn, oN) :: (L + 1, oS) :: [])) (hg : AllBare s.gens)
    (h : ∀ h' tk' gs' (u' : Str → Option Value), AllBare gs' → u' (Str.ofString "numbers") = u (Str.ofString "numbers") → Fr h₀ L h' u' → News h₀ L h' ((I, oI) :: (Dn, oN) :: (L + 1, oS) :: []) → Q .next { s with heap := h', toks := tk', gens := gs' }) :
    wpAny (model PG w) ⟨none, dp, some [lawEnv L fa cd], gd, un⟩ (execs l24Body (lawEnv L fa cd)) Q E s := by
  have X := Z.X
  have T := Z.T
  unfold l24Body lawEnv lawScope
  (try dsimp only)
  k_steps
  rename Fr _ _ _ _ => F1
  rename News _ _ _ _ => N1
  rename (_ < _ ∧ _ < _ ∧ _ < _) => l1
  rename_i D _ _
  have hoff : ∀ q ∈ ([(I, oI), (Dn, oN), (L + 1, oS)] : List (Addr × Obj)), q.1 ≠ D := List.forall_mem_cons.mpr ⟨Nat.ne_of_lt l1.1, List.forall_mem_cons.mpr ⟨Nat.ne_of_lt l1.2.1, List.forall_mem_cons.mpr ⟨Nat.ne_of_lt l1.2.2, List.forall_mem_nil _⟩⟩⟩
  have x1 : (n : Int).fmod 2 = ((n % 2 : Nat) : Int) := by rw [Int.fmod_eq_emod_of_nonneg _ (by decide)]; omega
  have x2 : ((n : Int).fdiv 2).fmod 3 = ((n / 2 % 3 : Nat) : Int) := by rw [Int.fmod_eq_emod_of_nonneg _ (by decide), Int.fdiv_eq_ediv_of_nonneg _ (by decide)]; omega
  have x3 : (n : Int).fdiv 6 = ((n / 6 : Nat) : Int) := by rw [Int.fdiv_eq_ediv_of_nonneg _ (by decide)]; omega
  refine ins_nat (o := [0]) (t := 1) F1 N1 hoff (.cons 0 _ .nil) (by decide) x1 rfl (by omega) (by decide) ?_
  intro h2 its2 b2 i2 F2 N2
  clear F1 N1
  (try dsimp only)
  k_steps
  refine ins_nat (t := 2) F2 N2 hoff (by assumption) b2 x2 rfl (by omega) (by decide) ?_
  intro h3 its3 b3 i3 F3 N3
  clear F2 N2
  (try dsimp only)
  k_steps
  refine ins_nat (t := 3) F3 N3 hoff (by assumption) b3 x3 rfl (by omega) (by decide) ?_
  intro h4 its4 b4 i4 F4 N4
  clear F3 N3
  (try dsimp only)
  k_steps
  refine wpAny_call (out_call (ord := ord24 n) Z rfl rfl (by omega) (by omega) F4 N4 (.head _) (by assumption) b4 (by decide) hg ?_)
  intro h5 tk5 gs5 t5 hb5 F5 N5
  clear F4 N4
  (try dsimp only)
  k_steps
  rename IntsAre _ _ => i6
  refine kmk_slice_ints (ms := ((ord24 n).take 2).map fun k : Nat => (k : Int)) (c := ((ord24 n).take 2).length) F5 N5 (News.isList N5 (.head _)) IsPart.none (IsPart.int _ _) i6 (by have := kmk_upto i6 (y := (2 : Int)) (by decide); rw [List.map_take]; exact this) (by rw [List.length_map]) ?_ (by with_unfolding_all rfl) (by intro _; with_unfolding_all rfl) (by rw [List.size_toArray, i6.length, List.length_map, (allB_perm b4).1, sizeLine_eq]; decide)
  intro D7 ws7 h7 F7 N7 l7 i7 c7 e7
  clear F5 N5
  k_lt l7
  have he := ord24_out n hn
  have hz : (((ord24 n).take 2).map fun k : Nat => (k : Int)) = [3, 1] ↔ (ord24 n).take 2 = [3, 1] := by
    constructor
    · intro q
      have q := congrArg (List.map Int.toNat) q
      rw [List.map_map] at q
      have e : (Int.toNat ∘ fun k : Nat => (k : Int)) = id := by funext k; simp
      rw [e, List.map_id] at q
      exact q
    · intro q; rw [q]; rfl
  k_steps
  · rename (_ = [3, 1]) => a1
    rename (_ ≠ (1 : Int)) => a2
    exact absurd (by rw [he, if_pos (hz.mp a1)]; rfl) a2
  · rename Fr _ _ _ _ => F8
    rename News _ _ _ _ => N8
    exact h _ _ gs5 _ hb5 (by rw [if_neg (by decide), if_neg (by decide)]) F8 (fun p hp => N8 p (.tail _ (.tail _ (.tail _ hp))))
  · rename (¬ _ = [3, 1]) => a1
    rename (_ ≠ (4 : Int)) => a2
    exact absurd (by rw [he, if_neg (fun q => a1 (hz.mpr q))]; rfl) a2
  · rename Fr _ _ _ _ => F8
    rename News _ _ _ _ => N8
    exact h _ _ gs5 _ hb5 (by rw [if_neg (by decide), if_neg (by decide)]) F8 (fun p hp => N8 p (.tail _ (.tail _ (.tail _ hp))))
end
end Mine

namespace Mine
theorem rsLB2 {M : Model} {A : Around} {E : Value → Shared → Prop} {env : Env} {Q : Flow → Shared → Prop} {s : Shared} (h : Q .next s) : wpAny M A (execs [] env) Q E s := by
  w_top off
  walk1
  exact h
end Mine
namespace Mine
theorem upd_under {A B C D : Str} {p q r v : Option Value} {u : Str → Option Value} (h1 : B ≠ A) (h2 : C ≠ A) (h3 : D ≠ A) :
    (fun y => if y = A then p else if y = B then q else if y = C then r else if y = D then v else u y) = fun y => if y = B then q else if y = C then r else if y = D then v else (fun y => if y = A then p else u y) y := by
  funext y
  by_cases hB : y = B
  · subst hB; simp [h1]
  · by_cases hC : y = C
    · subst hC; simp [h2, hB]
    · by_cases hD : y = D
      · subst hD; simp [h3, hB, hC]
      · simp [hB, hC, hD]
theorem upd_last {A B C D : Str} {p q r v : Option Value} {u : Str → Option Value} (h1 : D ≠ A) (h2 : D ≠ B) (h3 : D ≠ C) :
    (fun y => if y = A then p else if y = B then q else if y = C then r else if y = D then v else u y) = fun y => if y = D then v else (fun y => if y = A then p else if y = B then q else if y = C then r else u y) y := by
  funext y
  by_cases hD : y = D
  · subst hD; simp [h1, h2, h3]
  · simp [hD]
theorem int_beq (a b : Nat) : ((a : Int) == (b : Int)) = decide (a = b) := by
  by_cases h : a = b
  · subst h; simp
  · have h' : ¬ (a : Int) = (b : Int) := by omega
    rw [decide_eq_false h]
    exact beq_eq_false_iff_ne.mpr h'
local macro_rules | `(tactic| walk_at "call builtin:list.insert") => `(tactic| refine stop ?_)
local macro_rules | `(tactic| walk_at "subscriptTail Name BinOp ref int") => `(tactic| refine stop ?_)
local macro_rules | `(tactic| walk_at "exec For Name Call cons nil") => `(tactic| refine stop ?_)
local macro_rules | `(tactic| walk_at "exec For") => `(tactic| refine stop ?_)
local macro_rules | `(tactic| walk_at "call ref") => `(tactic| refine stop ?_)
section
variable {w : World} {dp un : Nat} {fr : Option (List Env)} {gd : Option (List Code)} {s : Shared} {h₀ : Heap} {L fa : Addr} {cd : Value} {mg mb : Str → Option Value} {loose : List Str} {mean : ExcName → Option Value} {E : Value → Shared → Prop} {I1 I2 D Dn : Addr} {oI1 oI2 oS : Obj} {u : Str → Option Value} {tt tk0 : Tok} {n t k c : Nat} {its ysn : List Value} {o : List Nat}

theorem turnIn {Q : Flow → Shared → Prop} (Z : Bs w h₀ loose mean mg mb) (hk : k < 2) (ht : t < 7) (hnum : ∀ i : Nat, i < 15 → ∃ z tk, ysn[i]? = some (.int z tk))
    (F : Fr h₀ L s.heap (fun y => if y = Str.ofString "t" then some (.int (t : Nat) tt) else if y = Str.ofString "order" then some (.ref D) else if y = Str.ofString "k" then some (.int (k : Nat) tk0) else if y = Str.ofString "numbers" then some (.ref Dn) else u y))
    (N : News h₀ L s.heap ((I2, oI2) :: (D, listOf its.toArray c) :: (I1, oI1) :: (Dn, LCg.lst ysn) :: (L + 1, oS) :: [])) (hoff : ∀ q ∈ ([(I2, oI2), (I1, oI1), (Dn, LCg.lst ysn), (L + 1, oS)] : List (Addr × Obj)), q.1 ≠ D)
    (hi : IntsAre its (o.map fun k : Nat => (k : Int))) (ho : o ∈ allB t)
    (h : ∀ h' tk' its' o' c', o' ∈ allB (t + 1) → IntsAre its' (o'.map fun k : Nat => (k : Int)) →
      Fr h₀ L h' (fun y => if y = Str.ofString "t" then some (.int (t : Nat) tt) else if y = Str.ofString "order" then some (.ref D) else if y = Str.ofString "k" then some (.int (k : Nat) tk0) else if y = Str.ofString "numbers" then some (.ref Dn) else u y) →
      News h₀ L h' ((I2, oI2) :: (D, listOf its'.toArray c') :: (I1, oI1) :: (Dn, LCg.lst ysn) :: (L + 1, oS) :: []) → Q .next { s with heap := h', toks := tk' }) :
    wpAny (model PG w) ⟨none, dp, fr, gd, un⟩ (execs lInBody (lawEnv L fa cd)) Q E s := by
  have X := Z.X
  have T := Z.T
  unfold lInBody lawEnv lawScope
  (try dsimp only)
  k_steps
  obtain ⟨z, tz, hz⟩ := hnum (7 * k + t + 1) (by omega)
  refine sub_lst N (by k_mem) (by omega) (by omega) (by rw [show (7 * (k : Int) + (t : Int) + 1).toNat = 7 * k + t + 1 by omega]; exact hz) ?_
  (try dsimp only)
  k_steps
  have hp : z.fmod ((t : Int) + 1) = (((z.fmod ((t : Int) + 1)).toNat : Nat) : Int) := by
    have := Int.fmod_nonneg_of_pos z (b := (t : Int) + 1) (by omega)
    omega
  have hpt : (z.fmod ((t : Int) + 1)).toNat ≤ t := by
    have := Int.fmod_lt_of_pos z (b := (t : Int) + 1) (by omega)
    omega
  have N2 : News h₀ L _ ((D, listOf its.toArray c) :: [(I2, oI2), (I1, oI1), (Dn, LCg.lst ysn), (L + 1, oS)]) := fun p hp => N p (by
    simp only [List.mem_cons, List.not_mem_nil, or_false] at hp ⊢
    rcases hp with q | q | q | q | q
    · exact .inr (.inl q)
    · exact .inl q
    · exact .inr (.inr (.inl q))
    · exact .inr (.inr (.inr (.inl q)))
    · exact .inr (.inr (.inr (.inr q))))
  refine ins_nat (t := t) F N2 hoff (by assumption) ho hp rfl hpt (by omega) ?_
  intro h3 its3 b3 i3 F3 N3
  clear F N N2
  (try dsimp only)
  k_steps
  exact h _ _ its3 _ _ b3 (by assumption) F3 (fun p hp => N3 p (by
    simp only [List.mem_cons, List.not_mem_nil, or_false] at hp ⊢
    rcases hp with q | q | q | q | q
    · exact .inr (.inl q)
    · exact .inl q
    · exact .inr (.inr (.inl q))
    · exact .inr (.inr (.inr (.inl q)))
    · exact .inr (.inr (.inr (.inr q)))))

def IntsL (vs : List Value) (ord : List Nat) : Prop := IntsAre vs (ord.map fun k : Nat => (k : Int))
def InJ (h₀ : Heap) (L I1 D Dn : Addr) (oI1 oS : Obj) (ysn : List Value) (k : Nat) (tk0 : Tok) (gs₀ : Array GenState) (t : Nat) (m : Str → Option Value) (news : List (Addr × Obj)) (gs : Array GenState) : Prop :=
  ∃ (its : List Value) (o : List Nat) (c : Nat) (u : Str → Option Value), m = (fun y => if y = Str.ofString "order" then some (.ref D) else if y = Str.ofString "k" then some (.int (k : Nat) tk0) else if y = Str.ofString "numbers" then some (.ref Dn) else u y) ∧
    news = (D, listOf its.toArray c) :: (I1, oI1) :: (Dn, LCg.lst ysn) :: (L + 1, oS) :: [] ∧ o ∈ allB t ∧ IntsAre its (o.map fun k : Nat => (k : Int)) ∧ gs = gs₀

theorem turn2 {outer : List Env} {Q : Flow → Shared → Prop} (Z : Bs w h₀ loose mean mg mb) (hroom : dp + 60 < recursionLimit) (hun : un + 400 < cLine) (hk : k < 2) (hnum : ∀ i : Nat, i < 15 → ∃ z tk, ysn[i]? = some (.int z tk)) (hE : PassesOwn (model PG w) ⟨none, dp, some [lawEnv L fa cd], gd, un⟩ (lawEnv L fa cd) E)
    (F : Fr h₀ L s.heap (fun y => if y = Str.ofString "k" then some (.int (k : Nat) tk0) else if y = Str.ofString "numbers" then some (.ref Dn) else u y))
    (N : News h₀ L s.heap ((I1, oI1) :: (Dn, LCg.lst ysn) :: (L + 1, oS) :: [])) (hg : AllBare s.gens)
    (h : ∀ h' tk' gs' (u' : Str → Option Value), AllBare gs' → Fr h₀ L h' (fun y => if y = Str.ofString "numbers" then some (.ref Dn) else u' y) → News h₀ L h' ((I1, oI1) :: (Dn, LCg.lst ysn) :: (L + 1, oS) :: []) → Q .next { s with heap := h', toks := tk', gens := gs' }) :
    wpAny (model PG w) ⟨none, dp, some [lawEnv L fa cd], gd, un⟩ (execs l2Body (lawEnv L fa cd)) Q E s := by
  have X := Z.X
  have T := Z.T
  have hE2 : PassesOwn (model PG w) ⟨none, dp, some [lawEnv L fa cd], gd, un⟩ (lawEnv L fa cd) E := hE
  unfold l2Body
  (try dsimp only)
  unfold lawEnv lawScope
  (try dsimp only)
  k_steps
  rename Fr _ _ _ _ => F1
  rename News _ _ _ _ => N1
  rename (_ < _ ∧ _ < _ ∧ _ < _) => l1
  obtain ⟨z7, tz7, hz7⟩ := hnum (7 * k) (by omega)
  have hm4 : 4 + z7.fmod 4 = ((4 + (z7.fmod 4).toNat : Nat) : Int) := by
    have := Int.fmod_nonneg_of_pos z7 (b := 4) (by omega)
    omega
  have hm7 : 4 + (z7.fmod 4).toNat ≤ 7 := by
    have := Int.fmod_lt_of_pos z7 (b := 4) (by omega)
    omega
  rename_i D g0 h1
  have hoff : ∀ q ∈ ([(I1, oI1), (Dn, LCg.lst ysn), (L + 1, oS)] : List (Addr × Obj)), q.1 ≠ D := List.forall_mem_cons.mpr ⟨Nat.ne_of_lt l1.1, List.forall_mem_cons.mpr ⟨Nat.ne_of_lt l1.2.1, List.forall_mem_cons.mpr ⟨Nat.ne_of_lt l1.2.2, List.forall_mem_nil _⟩⟩⟩
  refine for_range h₀ (4 + (z7.fmod 4).toNat) (InJ h₀ L I1 D Dn oI1 oS ysn k tk0 s.gens) hE2 ?_ (by intro _; rfl)
  k_steps
  refine sub_lst N1 (by k_mem) (by omega) (by omega) (by rw [show (7 * (k : Int)).toNat = 7 * k by omega]; exact hz7) ?_
  (try dsimp only)
  k_steps
  rename Fr _ _ _ _ => F2
  rename News _ _ _ _ => N2
  rename IsRange _ _ _ _ _ _ _ _ => R2
  refine ⟨_, _, _, _, _, _, _, rfl, rfl, R2, hm4, by omega, F2, N2, ⟨[], [], 0, u, rfl, rfl, by decide, .nil, rfl⟩, ?_, ?_⟩
  · intro t t2 I2 oI2 h3 tk3 gs3 m3 news3 htn F3 N3 off3 J3
    obtain ⟨its, o, c, u3, rfl, rfl, b3, i3, rfl⟩ := J3
    refine wpAny_assign_Name (storeX_L F3 N3 (fun h4 F4 N4 => ?_))
    have hoff2 : ∀ q ∈ ([(I2, oI2), (I1, oI1), (Dn, LCg.lst ysn), (L + 1, oS)] : List (Addr × Obj)), q.1 ≠ D := List.forall_mem_cons.mpr ⟨fun q => off3 (D, listOf its.toArray c) (.head _) q.symm, hoff⟩
    refine turnIn Z hk (by omega) hnum F4 N4 hoff2 i3 b3 ?_
    intro h5 tk5 its5 o5 c5 b5 i5 F5 N5
    refine ⟨h5, tk5, _, _, (D, listOf its5.toArray c5) :: (I1, oI1) :: (Dn, LCg.lst ysn) :: (L + 1, oS) :: [], rfl, F5, N5, ?_, ⟨its5, o5, c5, _, upd_under (A := Str.ofString "t") (B := Str.ofString "order") (C := Str.ofString "k") (D := Str.ofString "numbers") (by decide) (by decide) (by decide), rfl, b5, i5, rfl⟩⟩
    refine List.forall_mem_cons.mpr ⟨off3 (D, listOf its.toArray c) (.head _), List.forall_mem_cons.mpr ⟨off3 (I1, oI1) (.tail _ (.head _)), List.forall_mem_cons.mpr ⟨off3 (Dn, LCg.lst ysn) (.tail _ (.tail _ (.head _))), List.forall_mem_cons.mpr ⟨off3 (L + 1, oS) (.tail _ (.tail _ (.tail _ (.head _)))), List.forall_mem_nil _⟩⟩⟩⟩
  · intro h3 tk3 gs3 m3 news3 F3 N3 J3
    obtain ⟨its, o, c, u3, rfl, rfl, b3, i3, rfl⟩ := J3
    clear F2 N2
    have i3' : IntsL its o := i3
    clear i3
    k_steps
    refine wpAny_call (out_call (ord := o) (n := 4 + (z7.fmod 4).toNat) Z rfl rfl (by omega) (by omega) F3 N3 (.head _) i3' b3 hm7 hg ?_)
    intro h5 tk5 gs5 t5 hb5 F5 N5
    clear F3 N3
    (try dsimp only)
    k_steps
    rename Fr _ _ _ _ => F6
    rename News _ _ _ _ => N6
    have hsz : ((its.toArray.size : Nat) : Int) = ((4 + (z7.fmod 4).toNat : Nat) : Int) := by
      rw [List.size_toArray, (show IntsAre its (o.map fun k : Nat => (k : Int)) from i3').length, List.length_map, (allB_perm b3).1]
    refine len_list (News.isList N6 (.head _)) (by omega) ?_
    rw [hsz]
    (try dsimp only)
    k_steps
    refine wpAny_call (law_whole_spec (n := 4 + (z7.fmod 4).toNat) (Z.keeps F6.keep) (by omega) (by omega) (News.isList N6 (.head _)) i3' (by rw [List.length_map, (allB_perm b3).1]) hm7 ?_)
    intro h8 tk8 kp8
    have F8 := fr_keep F6 kp8
    have N8 := News.grown N6 kp8
    have hlaw := law_plain b3 (by omega) hm7
    clear F6 N6
    (try dsimp only)
    k_steps
    · rename ((_ != _) = true) => e9
      rw [int_beq, hlaw, bne_self_eq_false] at e9
      cases e9
    · exact h _ _ gs5 _ hb5 (Eq.mp (congrArg (fun m => Fr h₀ L _ m) (upd_last (A := Str.ofString "out") (B := Str.ofString "order") (C := Str.ofString "k") (D := Str.ofString "numbers") (by decide) (by decide) (by decide))) F8) (fun p hp => N8 p (.tail _ hp))
end
end Mine

namespace Mine
theorem rsLB3 {M : Model} {A : Around} {E : Value → Shared → Prop} {env : Env} {Q : Flow → Shared → Prop} {s : Shared} (h : Q .next s) : wpAny M A (execs [] env) Q E s := by
  w_top off
  walk1
  exact h
end Mine
namespace Mine
local macro_rules | `(tactic| walk_at "CompSrc") => `(tactic| refine stop ?_)
local macro_rules | `(tactic| walk_at "exec For Name Call cons nil") => `(tactic| refine stop ?_)
local macro_rules | `(tactic| walk_at "exec For") => `(tactic| refine stop ?_)
def numG (xs : List Int) (k : Int) : Int := if k < (xs.length : Int) then xs.getD k.toNat 0 else 3 * k + 5
def LJ (L Dn : Addr) (oS : Obj) (ysn : List Value) (i : Nat) (m : Str → Option Value) (news : List (Addr × Obj)) (gs : Array GenState) : Prop :=
  ∃ u : Str → Option Value, m = (fun y => if y = Str.ofString "numbers" then some (.ref Dn) else u y) ∧ news = (Dn, LCg.lst ysn) :: (L + 1, oS) :: [] ∧ AllBare gs
theorem upd_same {A : Str} {v : Value} {u' : Str → Option Value} (h : u' A = some v) : u' = fun y => if y = A then some v else u' y := by
  funext y
  by_cases q : y = A
  · subst q; simp [h]
  · simp [q]
theorem upd_swap {A B : Str} {p q : Option Value} {u : Str → Option Value} (h1 : B ≠ A) : (fun y => if y = A then p else if y = B then q else u y) = fun y => if y = B then q else (fun y => if y = A then p else u y) y := by
  funext y
  by_cases hB : y = B
  · subst hB; simp [h1]
  · simp [hB]
section
variable {w : World} {dp un : Nat} {gd : Option (List Code)} {s : Shared} {h₀ : Heap} {L fa sc : Addr} {cd : Value} {mg mb : Str → Option Value} {loose : List Str} {mean : ExcName → Option Value} {E : Value → Shared → Prop} {oS : Obj} {u : Str → Option Value} {vs : List Value} {xs : List Int}

theorem law_body {Q : Flow → Shared → Prop} (Z : Bs w h₀ loose mean mg mb) (hroom : dp + 80 < recursionLimit) (hun : un + 500 < cLine) (hl : h₀.IsList sc vs.toArray) (hi : IntsAre vs xs) (h63 : xs.length ≤ 63)
    (F : Fr h₀ L s.heap u) (N : News h₀ L s.heap [(L + 1, oS)]) (dS : oS.data = .cell (some (.ref sc))) (hg : AllBare s.gens) (hE : PassesOwn (model PG w) ⟨none, dp, some [lawEnv L fa cd], gd, un⟩ (lawEnv L fa cd) E)
    (h : ∀ h' tk' gs', AllBare gs' → (∀ b o, h₀.get? b = some o → h'.get? b = some o) → Q (.ret (.bool true)) { s with heap := h', toks := tk', gens := gs' }) :
    wpAny (model PG w) ⟨none, dp, some [lawEnv L fa cd], gd, un⟩ (execs lawBody (lawEnv L fa cd)) Q E s := by
  have X := Z.X
  have T := Z.T
  have hE2 : PassesOwn (model PG w) ⟨none, dp, some [lawEnv L fa cd], gd, un⟩ (lawEnv L fa cd) E := hE
  unfold lawBody
  (try dsimp only)
  unfold lawEnv lawScope
  (try dsimp only)
  k_steps
  refine LCg.CompSrc.range (n := 15) (by rfl) (by k_asm) (by k_asm) (by assumption) (by decide) (by rfl) (by rw [PySem.sizeLine_eq]; decide) ?_
  intro g'
  refine' kcf_range (numG xs) (fun k' t' I' oI' C' oC' D' m' ys' h' tk' E' hlo' hhi' hC' hx' F' N' off' ne' hM => ?_) ?_
  · simp only [LCg.Off3, and_true] at off'
    k_fold
    k_steps
  · k_steps
    rename Fr _ _ _ _ => F8
    rename News _ _ _ _ => N8
    rename (IntsAre _ (List.map (numG xs) _)) => hn8
    rename_i Dn g8 tk8 o8
    have hnum : ∀ i : Nat, i < 15 → ∃ z tk, ys[i]? = some (.int z tk) := fun i hi => ⟨_, ints_at hn8 (i := i) (k := numG xs (0 + (i : Int))) (by simp [rangeKs, hi])⟩
    refine for_range h₀ 24 (LJ L Dn oS ys) hE2 ?_ (by intro _; rfl)
    k_steps
    rename Fr _ _ _ _ => F9
    rename News _ _ _ _ => N9
    rename IsRange _ _ _ _ _ _ _ _ => R9
    refine ⟨_, _, _, _, _, _, _, rfl, rfl, R9, rfl, by decide, F9, N9, ⟨u, rfl, rfl, hg⟩, ?_, ?_⟩
    · intro n t2 I oI h3 tk3 gs3 m3 news3 hn F3 N3 off3 J3
      obtain ⟨u3, rfl, rfl, hg3⟩ := J3
      refine wpAny_assign_Name (storeX_L F3 N3 (fun h4 F4 N4 => ?_))
      refine turn24 Z (by omega) (by omega) hn F4 N4 hg3 ?_
      intro h5 tk5 gs5 u5 hb5 e5 F5 N5
      refine ⟨h5, tk5, _, _, _, rfl, F5, N5, off3, ⟨u5, upd_same (by rw [e5]; simp), rfl, hb5⟩⟩
    · intro h3 tk3 gs3 m3 news3 F3 N3 J3
      obtain ⟨u3, rfl, rfl, hg3⟩ := J3
      clear F9 N9
      k_steps
      refine for_range h₀ 2 (LJ L Dn oS ys) hE2 ?_ (by intro _; rfl)
      k_steps
      rename Fr _ _ _ _ => F9
      rename News _ _ _ _ => N9
      rename IsRange _ _ _ _ _ _ _ _ => R9
      refine ⟨_, _, _, _, _, _, _, rfl, rfl, R9, rfl, by decide, F9, N9, ⟨u3, rfl, rfl, hg3⟩, ?_, ?_⟩
      · intro k t2 I oI h4 tk4 gs4 m4 news4 hk F4 N4 off4 J4
        obtain ⟨u4, rfl, rfl, hg4⟩ := J4
        refine wpAny_assign_Name (storeX_L F4 N4 (fun h5 F5 N5 => ?_))
        refine turn2 (outer := []) Z (by omega) (by omega) hk hnum hE2 F5 N5 hg4 ?_
        intro h6 tk6 gs6 u6 hb6 F6 N6
        exact ⟨h6, tk6, _, _, _, rfl, F6, N6, off4, ⟨u6, rfl, rfl, hb6⟩⟩
      · intro h4 tk4 gs4 m4 news4 F4 N4 J4
        obtain ⟨u4, rfl, rfl, hg4⟩ := J4
        clear F9 N9
        k_steps
        exact h h4 _ gs4 hg4 F4.keep
end
end Mine

namespace Mine
theorem rsT3 {M : Model} {A : Around} {E : Value → Shared → Prop} {env : Env} {Q : Flow → Shared → Prop} {s : Shared} (h : Q .next s) : wpAny M A (execs [] env) Q E s := by
  w_top off
  walk1
  exact h
end Mine
namespace Mine
theorem holds : PySem.Challenge.rw_bd0052_01.Holds := by
  refine hd ?_
  k_fill
  intro w s₀ s₁ mg mb G Y fa o pm cd doc dV kV ho hd1 hcd hD hmg hg args vals as hpre hlay hrd hwl hlo
  have KX := kIn_of Y
  refine Ground.open G ?_
  intro T B D TE TW
  try (refine guard_noD D (by decide +kernel) ?_; clear D)
  obtain ⟨_, _, M⟩ := bmod_of_top T
  have TA := at_of_top T
  try (obtain ⟨_, _, he, B0⟩ := based_of_top T rfl hmg ho hd1; have he' : cd = _ := he; subst he'; clear he)
  clear hmg
  wrow_args hpre hlay hrd hwl hlo
  first | refine callC_kw (enter_call ?_) | refine enter_call ?_ | refine callC_kw (enter_callW ?_) | refine enter_callW ?_ | w_how
  w_top on
  have K0 := below_caller (Top.heap T)
  w_call any ho hd1 hcd hD T F
  rename (Obj.data _ = _) => dS
  rename Fr _ _ _ _ => F9
  rename News _ _ _ _ => N9
  rename (Heap.IsList _ _ _) => hl9
  rename IntsAre _ _ => hi9
  rename (¬ ((63 : Nat) : Int) < _) => h63
  refine law_body ⟨KX, T⟩ ?_ ?_ hl9 hi9 (by omega) F9 N9 dS (AllBare.of_eq hg) (by passes_own) ?_
  · decide
  · decide
  · intro h' tk' gs' hb kp
    refine ⟨.inl ⟨_, _, [], rfl, (fun _ => rfl), ReadsW.bool true, ?_, fun _ => ⟨List.nodup_nil, fun _ hm => (nomatch hm)⟩⟩, OldK.of_keep kp, rfl, hb⟩
    first | rfl | wrow_post
end Mine

theorem PySem.Challenge.cw_bd0052_01_holds : PySem.Challenge.rw_bd0052_01.Holds := by
  exact Mine.holds
