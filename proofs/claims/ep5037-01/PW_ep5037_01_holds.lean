import PyProof.Rows.All
import Wide.All
import OpenK.AllK
import Wide.FinOn
import Lean
import PySem.Challenge.RW_ep5037_01
open PySem PySem.W PySem.W.X PyProof.Rows
set_option Elab.async false
set_option maxRecDepth 100000
set_option maxHeartbeats 8000000
namespace Mine
open_top hd for PySem.Challenge.rw_ep5037_01

def Keep (h h' : Heap) : Prop := ∀ b o, h.get? b = some o → h'.get? b = some o
theorem Keep.trans {a b c : Heap} (h : Keep a b) (h' : Keep b c) : Keep a c := fun x o e => h' x o (h x o e)
theorem Keep.rfl {a : Heap} : Keep a a := fun _ _ e => e
theorem keep_none {h h' : Heap} {a : Addr} (k : Keep h h') (e : h'.get? a = none) : h.get? a = none := by
  cases q : h.get? a with
  | none => rfl
  | some o => rw [k a o q] at e; cases e
theorem keep_of_mem {h h' : Heap} {news} (D : Mem h h' [] news) : Keep h h' := fun b o e => D.keep b o e (by show (hasCls o || true) = true; rw [Bool.or_true])
abbrev tupO (vs : List Value) : Obj := ⟨.type "tuple", none, .seq ⟨vs⟩ 0, #[]⟩
theorem at_mem {h h' : Heap} {chg news} {a : Addr} {o : Obj} (D : Mem h h' chg news) (hm : (a, o) ∈ news) : h'.get? a = some o := (D.nw _ hm).1

abbrev ar (dp un : Nat) (fr : Option (List Env)) (gd : Option (List Code)) : Around := { handled := none, depth := dp, frames := fr, guards := gd, units := un }
theorem code_pure {prog : Program} {w : World} {A : Around} {s : Shared} {K : Frag} {p : Program} {loose : List Str} {mg mb : Str → Option Value} {R : Result → Shared → Prop} {name qual : Str} {params : Arguments} {body : List Stmt} {scope : Scope}
    {dV kV doc pm cdv ct oc : Value} {an od : Option Addr} {osl : Array (Option Value)} {f : Addr} {args : Args} {binds : List (Str × Value)}
    (X : K.In s.heap) (T : TopRead p loose mg mb s.heap) (hroom : A.depth < recursionLimit)
    (ho : K.lookup f = some ⟨oc, od, .func (fnOf name qual params body scope dV kV doc pm an cdv ct), osl⟩) (hcd : codeIn K cdv qual = true)
    (hbind : BindsTo s (fnOf name qual params body scope dV kV doc pm an cdv ct) args binds) (hloc : ∀ y ∈ binds, scope.names.lookup y.1 = some .local)
    (h : ∀ h₁, Fr s.heap s.heap.objs.size h₁ (fun y => binds.reverse.lookup y) → News s.heap s.heap.objs.size h₁ [] →
      wpAny (model prog w) (A.deeper (envOf qual scope s.heap.objs.size f cdv)) (execs body (envOf qual scope s.heap.objs.size f cdv))
        (fun fl s' => R (.ok (.ret (match fl with | .ret v => v | _ => .none))) s') (fun _ _ => False)
        { s with heap := h₁, toks := s.toks + binds.length })
    (hco : scope.isCoroutine = false) (hgen : scope.isGenerator = false) (hk : scope.kind = .function)
    (hcell : ∀ x ∈ scope.names, x.2 ≠ .cell) : codeAny (model prog w) A (.call (.ref f) args) R s := by
  refine codeAny_call_def (fd := fnX name qual params body scope [] dV kV doc pm an cdv ct) (body := body) (binds := binds) hroom (X _ _ ho) rfl T.nolimit (codeRec_of X hcd) rfl hbind hcell hloc (fun h₁ hns hk₁ => ?_) hco hgen hk
  exact wpAny_mono (h h₁ ⟨hns, hk₁, Nat.le_refl _⟩ News.nil) (fun fl s' hl => hl) fun _ _ y => y.elim

/-- v bears the datum d at h: nothing in it can turn -/
def Rd (h : Heap) (v : Value) (d : PyData) : Prop := Reads h v d []
def RdAll (h : Heap) (vs : List Value) (ds : List PyData) : Prop := ReadsAll h vs ds []
theorem Rd.keeps {h h' : Heap} {v d} (k : ∀ b o, h.get? b = some o → h'.get? b = some o) (r : Rd h v d) : Rd h' v d := Reads.keeps k r
theorem RdAll.keeps {h h' : Heap} {vs ds} (k : ∀ b o, h.get? b = some o → h'.get? b = some o) (r : RdAll h vs ds) : RdAll h' vs ds := ReadsAll.keeps k r
theorem Rd.none {h : Heap} : Rd h .none .none := Reads.none
theorem Rd.bool {h : Heap} (b : Bool) : Rd h (.bool b) (.bool b) := Reads.bool b
theorem Rd.int {h : Heap} (i : Int) (t : Tok) : Rd h (.int i t) (.int i) := Reads.int i t
theorem Rd.str {h : Heap} (x : Str) (t : Tok) : Rd h (.str x t) (.str x) := Reads.str x t
theorem Rd.tup {h : Heap} {a : Addr} {o : Obj} {vs : Array Value} {n : Nat} {ds : List PyData} (e : h.get? a = some o) (hc : o.cls = .type "tuple") (hd : o.data = .seq vs n) (r : RdAll h vs.toList ds) : Rd h (.ref a) (.tuple ds) :=
  reads_tuple_at e hc hd r
theorem RdAll.nil {h : Heap} : RdAll h [] [] := ReadsAll.nil
theorem RdAll.cons {h : Heap} {v : Value} {d : PyData} {vs : List Value} {ds : List PyData} (r : Rd h v d) (rs : RdAll h vs ds) : RdAll h (v :: vs) (d :: ds) := ReadsAll.cons (as := []) (bs := []) r rs
theorem IsTup.rd {h : Heap} {a : Addr} {vs : Array Value} {ds : List PyData} (t : IsTup h a vs) (r : RdAll h vs.toList ds) : Rd h (.ref a) (.tuple ds) := let ⟨_, e, c, _, d⟩ := t; Rd.tup e c d r
theorem isTup_at {h : Heap} {a : Addr} {o : Obj} {vs : Array Value} {n : Nat} (e : h.get? a = some o) (hc : o.cls = .type "tuple") (hd : o.data = .seq vs n) : IsTup h a vs := ⟨o, e, hc, n, hd⟩
section
variable {h h' : Heap} {dx : Addr} {od : Obj}
mutual
theorem Rd.same (hs : ∀ b o, b ≠ dx → h.get? b = some o → h'.get? b = some o) (e : h.get? dx = some od) (hc : od.cls ≠ .type "tuple") : ∀ (d : PyData) (v : Value), Rd h v d → Rd h' v d
  | .none, _, r => by cases r; exact Reads.none
  | .bool b, _, r => by cases r; exact Reads.bool b
  | .int i, _, r => by cases r; exact Reads.int i _
  | .str x, _, r => by cases r; exact Reads.str x _
  | .tuple ds, _, r => by
    generalize ha : ([] : List Addr) = as0 at r
    unfold Rd at r
    rw [ha] at r
    cases r with
    | tuple h1 h2 h3 h4 =>
      subst ha
      refine Rd.tup (hs _ _ (fun q => ?_) h1) h2 h3 (RdAll.same hs e hc ds _ h4)
      rw [q, e] at h1; cases h1; exact hc h2
  | .list ds, _, r => by
    generalize ha : ([] : List Addr) = as0 at r
    unfold Rd at r
    rw [ha] at r
    cases r with
    | list h1 h2 h3 h4 => cases ha
  | .dict ds, _, r => by
    generalize ha : ([] : List Addr) = as0 at r
    unfold Rd at r
    rw [ha] at r
    cases r with
    | dict h1 h2 h3 h4 h5 => cases ha
theorem RdAll.same (hs : ∀ b o, b ≠ dx → h.get? b = some o → h'.get? b = some o) (e : h.get? dx = some od) (hc : od.cls ≠ .type "tuple") : ∀ (ds : List PyData) (vs : List Value), RdAll h vs ds → RdAll h' vs ds
  | [], _, r => by cases r; exact ReadsAll.nil
  | d :: ds, _, r => by
    unfold RdAll at r
    generalize ha : ([] : List Addr) = as0 at r
    cases r with
    | cons h1 h2 =>
      obtain ⟨q1, q2⟩ := List.append_eq_nil_iff.mp ha.symm
      subst q1 q2
      exact RdAll.cons (Rd.same hs e hc d _ h1) (RdAll.same hs e hc ds _ h2)
end
end
inductive PreV (h : Heap) : Value → Option (Str × Int) → Prop
  | no : PreV h .none none
  | yes {q : Addr} {x : Str} {t u : Tok} {n : Int} : IsTup h q #[.str x t, .int n u] → PreV h (.ref q) (some (x, n))
theorem PreV.keeps {h h' : Heap} {v d} (k : ∀ b o, h.get? b = some o → h'.get? b = some o) (r : PreV h v d) : PreV h' v d := by
  cases r with
  | no => exact .no
  | yes t => exact .yes (t.keeps k)
inductive OptV : Value → Option Int → Prop
  | no : OptV .none none
  | yes (n : Int) (t : Tok) : OptV (.int n t) (some n)
def preK (pre : Option (Str × Int)) (post dev : Option Int) : PyData := match pre, post, dev with
  | none, none, some _ => .tuple [.int (-1), .str "", .int 0]
  | none, _, _ => .tuple [.int 1, .str "", .int 0]
  | some (x, n), _, _ => .tuple [.int 0, .str x, .int n]
def postK : Option Int → PyData
  | none => .tuple [.int 0, .int 0]
  | some n => .tuple [.int 1, .int n]
def devK : Option Int → PyData
  | none => .tuple [.int 1, .int 0]
  | some n => .tuple [.int 0, .int n]
def keyD (r : PyData) (pre : Option (Str × Int)) (post dev : Option Int) : PyData := .tuple [r, preK pre post dev, postK post, devK dev]

def rankF (i1 i2 i3 i4 : Int) : Int :=
  if i2 = 0 ∧ i3 = 0 ∧ i4 ≠ 0 then i1 * 10000 + (i4 + 2).fmod 3
  else if 0 < i2 then i1 * 10000 + 1000 + i2 * 100 + i3 * 10 + (i4 + 2).fmod 3
  else i1 * 10000 + 2000 + i3 * 10 + (i4 + 2).fmod 3
def presD : List (Option (Str × Int)) := [none, some ("a", 0), some ("a", 1), some ("a", 100000000000000000000), some ("b", 0), some ("rc", 0), some ("rc", 3), some ("zz", 0)]
def relsD : List PyData := [.tuple [], .tuple [.int 1], .tuple [.int 1, .int 0], .tuple [.int 2], .tuple [.int 2, .int 0, .int 0], .tuple [.int 10]]
def postsD : List (Option Int) := [none, some 0, some 1, some 7]
def devsD : List (Option Int) := [none, some 0, some 5]
def keyOf (i1 i2 i3 i4 : Int) : PyData := keyD (relsD.getD i1.toNat .none) (presD.getD i2.toNat none) (postsD.getD i3.toNat none) (devsD.getD i4.toNat none)
/-- the four ints of one made thing, at their address -/
structure MadeAt (h : Heap) (q : Addr) (i1 i2 i3 i4 : Int) : Prop where
  tup : ∃ t1 t2 t3 t4, IsTup h q #[.int i1 t1, .int i2 t2, .int i3 t3, .int i4 t4]
  b1 : 0 ≤ i1
  b1' : i1 < 6
  b2 : 0 ≤ i2
  b2' : i2 < 8
  b3 : 0 ≤ i3
  b3' : i3 < 4
  b4 : 0 ≤ i4
  b4' : i4 < 3
theorem MadeAt.keeps {h h' : Heap} {q : Addr} {i1 i2 i3 i4 : Int} (M : MadeAt h q i1 i2 i3 i4) (k : ∀ b o, h.get? b = some o → h'.get? b = some o) : MadeAt h' q i1 i2 i3 i4 :=
  ⟨let ⟨a, b, c, d, t⟩ := M.tup; ⟨a, b, c, d, t.keeps k⟩, M.b1, M.b1', M.b2, M.b2', M.b3, M.b3', M.b4, M.b4'⟩
/-- the eight pre-releases, as _law_pres() hands them -/
def PresFam (h : Heap) (vs : List Value) : Prop := ∀ j, j < 8 → PreV h (vs.getD j .none) (presD.getD j none)
theorem PresFam.at {h : Heap} {vs : List Value} (f : PresFam h vs) {i : Int} (h0 : 0 ≤ i) (h8 : i < 8) : PreV h (vs.getD i.toNat .none) (presD.getD i.toNat none) := f _ (by omega)
def PresAt (h : Heap) (a : Addr) : Prop := ∃ vs : List Value, IsTup h a vs.toArray ∧ vs.length = 8 ∧ PresFam h vs
section
variable {prog : Program} {w : World} {A : Around} {s : Shared}
theorem item_sym {value slice : Expr} {t : Addr} {vs : List Value} {k : Int} {u : Tok} {Q : Value → Shared → Prop} {E : Value → Shared → Prop} (ht : IsTup s.heap t vs.toArray) (h0 : 0 ≤ k) (hk : k < (vs.length : Int)) (hl : vs.length ≤ 1000)
    (h : Q (vs.getD k.toNat .none) s)
    (hs : subscripted slice false (.ref t) (.int k u) = operate [.ref t, .int k u] (getItem (.ref t) (.int k u)) := by with_unfolding_all rfl) :
    wpAny (model prog w) A (subscriptTail value slice (.ref t) (.int k u)) Q E s := by
  have hn : k.toNat < vs.length := by omega
  refine item_tupleT (j := k.toNat) (x := vs.getD k.toNat .none) ht (by omega) (by omega) ?_ ?_ h hs
  · unfold seqIndex?
    have h1 : ¬ k < 0 := by omega
    simp only [h1, if_false]
    simp [h0, hk]
  · rw [List.getD_eq_getElem?_getD, List.getElem?_eq_getElem hn]; rfl
end

abbrev roomA : Around := { handled := none, depth := 900, frames := none, guards := none, units := 9000 }
theorem wpAny_room {α : Type} {M : Model} {A : Around} {t : Sem α} {Q : α → Shared → Prop} {E : Value → Shared → Prop} {s : Shared} (hh : A.handled = none) (hd : A.depth ≤ 900) (hu : A.units ≤ 9000) (h : wpAny M roomA t Q E s) : wpAny M A t Q E s :=
  fun Γ p hΓ => h Γ p ⟨hΓ.1.trans hh, Nat.le_trans hΓ.2.1 hd, (fun _ e => nomatch e), (fun _ e => nomatch e), Nat.le_trans hΓ.2.2.2.2 hu⟩
abbrev relItems : List (List Value) := [[], [.int 1 497], [.int 1 498, .int 0 499], [.int 2 500], [.int 2 501, .int 0 502, .int 0 503], [.int 10 504]]
abbrev viObj (dx : Addr) (items : List Value) : Obj := ⟨.ref 139, some dx, .seq ⟨items⟩ 0, #[]⟩
def NewPost (s : Shared) (items : List Value) (v : Value) (s' : Shared) : Prop :=
  ∃ x dx h' tk, v = .ref x ∧ s' = ⟨h', s.gens, s.drawn, tk, s.os⟩ ∧ Keep s.heap h' ∧ h'.get? x = some (viObj dx items) ∧ h'.get? dx = some (dictOf [] 0) ∧ s.heap.get? x = none ∧ s.heap.get? dx = none
def TupPost (s : Shared) (items : List Value) (v : Value) (s' : Shared) : Prop :=
  ∃ a h' tk, v = .ref a ∧ s' = ⟨h', s.gens, s.drawn, tk, s.os⟩ ∧ Keep s.heap h' ∧ h'.get? a = some (tupO items)
theorem mem_new {h h' : Heap} {chg news} {a : Addr} {o : Obj} (D : Mem h h' chg news) (hm : (a, o) ∈ news) : h.get? a = none := (D.nw _ hm).2

theorem rdAll_nil {h : Heap} {vs : List Value} (r : RdAll h vs []) : vs = [] := by cases r; rfl
theorem rdAll_cons {h : Heap} {vs : List Value} {d : PyData} {ds : List PyData} (r : RdAll h vs (d :: ds)) : ∃ v r', vs = v :: r' ∧ Rd h v d ∧ RdAll h r' ds := by
  unfold RdAll at r
  generalize ha : ([] : List Addr) = as0 at r
  cases r with
  | cons h1 h2 =>
    obtain ⟨q1, q2⟩ := List.append_eq_nil_iff.mp ha.symm
    subst q1 q2
    exact ⟨_, _, rfl, h1, h2⟩
theorem rd_tup {h : Heap} {v : Value} {ds : List PyData} (r : Rd h v (.tuple ds)) : ∃ a o vs n, v = .ref a ∧ h.get? a = some o ∧ o.cls = .type "tuple" ∧ o.data = .seq vs n ∧ RdAll h vs.toList ds := by
  unfold Rd at r
  generalize ha : ([] : List Addr) = as0 at r
  cases r with
  | tuple h1 h2 h3 h4 => subst ha; exact ⟨_, _, _, _, rfl, h1, h2, h3, h4⟩
/-- a version at x, whose key bears d -/
def VerAt (h : Heap) (x : Addr) (d : PyData) : Prop := ∃ dx items es n k, h.get? x = some (viObj dx items) ∧ h.get? dx = some (dictOf es n) ∧ getL "_sort_key" es = some (some (.ref k)) ∧ Rd h (.ref k) d
theorem VerAt.keeps {h h' : Heap} {x : Addr} {d : PyData} (k : Keep h h') (v : VerAt h x d) : VerAt h' x d := let ⟨dx, it, es, n, q, a, b, c, r⟩ := v; ⟨dx, it, es, n, q, k _ _ a, k _ _ b, c, Rd.keeps k r⟩

example : PySem.Challenge.rw_ep5037_01.Holds ∨ (hd.heap_39 = hd.heap_39) := by
  k_fill
  exact Or.inr rfl
local macro_rules | `(tactic| kqd_in) => `(tactic| first
  | assumption
  | exact Rd.none | exact Rd.int _ _ | exact Rd.str _ _ | exact Rd.bool _
  | exact Rd.keeps (Fr.keep (by k_asm)) (by assumption)
  | exact Rd.tup (News.get (by k_asm) (by k_mem)) rfl rfl (by kqd_all))
local macro_rules | `(tactic| kqd_all) => `(tactic| first
  | exact RdAll.nil
  | exact RdAll.cons (by kqd_in) (by kqd_all))
-- entering a def (k_enter's place)
local macro_rules | `(tactic| ktr_unf) => `(tactic| (
    refine' code_pure (by assumption) (by assumption) (by first | assumption | (dsimp only; omega)) ?k6 ?k7 ?k9 ?kB ?_ ?c2 ?c3 ?c4 ?c5
    case k6 => k_is
    case k7 => k_is
    case k9 => first | exact BindsTo.of_eq rfl | exact binds_K (by k_in) rfl (by k_is) rfl rfl rfl | (refine' kp_binds ?kx ?ke; (case kx => k_in); (case ke => exact fun _ => rfl))
    case kB => exact locs rfl
    case c2 => exact rfl
    case c3 => exact rfl
    case c4 => exact rfl
    case c5 => decide
    intro h1 F N
    try dsimp only
    k_fold))
local macro_rules | `(tactic| walk_at "assign Tuple") => `(tactic| (k_here; (with_reducible show wpAny _ _ (assign (Expr.Tuple _ _ _) _ (Value.ref _)) _ _ _); k_dflt (refine' unpackN_ ?k1 ?k2 ?k3 ?k4 ?k5 ?k6 ?_; (case k1 => k_asm); (case k2 => k_asm); (case k3 => exact IsTup.keeps (by assumption) (Fr.keep (by k_asm))); (case k4 => exact rfl); (case k5 => exact rfl); (case k6 => exact rfl); k_whole); intro h' F' N'; (try k_sweep)))
local macro_rules | `(tactic| tb_rel) => `(tactic| first
  | exact PreV.no
  | exact PreV.yes (isTup_at (News.get (by k_asm) (by k_mem)) rfl rfl)
  | exact PreV.keeps (Fr.keep (by k_asm)) (by assumption)
  | exact PresFam.at (by assumption) (by omega) (by omega))
local macro_rules | `(tactic| tb_start) => `(tactic| (dsimp only [ar, Around.deeper, Around.in1, Around.mark]; omega))

section
set_option maxHeartbeats 8000000 in
theorem c39 (w : World) {dp un fr gd} {p loose mg mb} (hdp : dp + 4 < 800) (hun : un + 100 < 8000) {s : Shared} (X : (hd.heap_39 w.params).In s.heap) (T : TopRead p loose mg mb s.heap) {r pre post dev : Value} {rd : PyData}
   {dpre : Option (Str × Int)} {dpost ddev : Option Int} (hr : Rd s.heap r rd) (hpre : PreV s.heap pre dpre) (hpost : OptV post dpost) (hdev : OptV dev ddev)
   {R : Result → Shared → Prop} (hret : ∀ v h' tk, Keep s.heap h' → Rd h' v (keyD rd dpre dpost ddev) → R (.ok (.ret v)) { s with heap := h', toks := tk }) :
   codeAny (model PySem.Challenge.pw_ep5037_01 w) (ar dp un fr gd) (.call (.ref 39) ⟨[r, pre, post, dev], []⟩) R s := by
  cases hpre <;> cases hpost <;> cases hdev
  all_goals (
    have hA : dp < recursionLimit := by (show dp < 1000); omega
    refine' code_pure X T hA ?k6 ?k7 ?k9 ?kB ?_ ?c2 ?c3 ?c4 ?c5
    case k6 => k_is
    case k7 => k_is
    case k9 => first | exact BindsTo.of_eq rfl | exact binds_K X rfl (by k_is) rfl rfl rfl | (refine' kp_binds ?kx ?ke; (case kx => exact X); (case ke => exact fun _ => rfl))
    case kB => exact locs rfl
    case c2 => exact rfl
    case c3 => exact rfl
    case c4 => exact rfl
    case c5 => decide
    intro h1 F N
    try dsimp only
    k_fold
    k_steps
    (try k_unmd)
    exact hret _ _ _ (Fr.keep (by k_asm)) (by dsimp only [keyD, preK, postK, devK]; kqd_in))

end
section
theorem c157 (w : World) {dp un fr gd} {p loose mg mb} (hdp : dp + 4 < 800) (hun : un + 100 < 8000) {s : Shared} (X : (hd.heap_39 w.params).In s.heap) (T : TopRead p loose mg mb s.heap)
   {R : Result → Shared → Prop} (hret : ∀ a h' tk, Keep s.heap h' → PresAt h' a → R (.ok (.ret (.ref a))) { s with heap := h', toks := tk }) :
   codeAny (model PySem.Challenge.pw_ep5037_01 w) (ar dp un fr gd) (.call (.ref 157) ⟨[], []⟩) R s := by
  have hA : dp < recursionLimit := by (show dp < 1000); omega
  refine' code_pure X T hA ?k6 ?k7 ?k9 ?kB ?_ ?c2 ?c3 ?c4 ?c5
  case k6 => k_is
  case k7 => k_is
  case k9 => first | exact BindsTo.of_eq rfl | exact binds_K X rfl (by k_is) rfl rfl rfl | (refine' kp_binds ?kx ?ke; (case kx => exact X); (case ke => exact fun _ => rfl))
  case kB => exact locs rfl
  case c2 => exact rfl
  case c3 => exact rfl
  case c4 => exact rfl
  case c5 => decide
  intro h1 F N
  try dsimp only
  k_fold
  k_steps
  (try k_unmd)
  refine hret _ _ _ (Fr.keep (by k_asm)) ⟨_, isTup_at (News.get (by k_asm) (by k_mem)) rfl rfl, rfl, ?_⟩
  intro j hj
  have h8 : j = 0 ∨ j = 1 ∨ j = 2 ∨ j = 3 ∨ j = 4 ∨ j = 5 ∨ j = 6 ∨ j = 7 := by omega
  rcases h8 with e | e | e | e | e | e | e | e <;> (subst e; tb_rel)

end
section
theorem c190 (w : World) {dp un fr gd} {p loose mg mb} (hdp : dp + 4 < 800) (hun : un + 100 < 8000) {s : Shared} (X : (hd.heap_39 w.params).In s.heap) (T : TopRead p loose mg mb s.heap) (x : Int) (t : Tok)
   {R : Result → Shared → Prop} (hret : ∀ a h' tk i1 i2 i3 i4, Keep s.heap h' → MadeAt h' a i1 i2 i3 i4 → R (.ok (.ret (.ref a))) { s with heap := h', toks := tk }) :
   codeAny (model PySem.Challenge.pw_ep5037_01 w) (ar dp un fr gd) (.call (.ref 190) ⟨[.int x t], []⟩) R s := by
  have hA : dp < recursionLimit := by (show dp < 1000); omega
  refine' code_pure X T hA ?k6 ?k7 ?k9 ?kB ?_ ?c2 ?c3 ?c4 ?c5
  case k6 => k_is
  case k7 => k_is
  case k9 => first | exact BindsTo.of_eq rfl | exact binds_K X rfl (by k_is) rfl rfl rfl | (refine' kp_binds ?kx ?ke; (case kx => exact X); (case ke => exact fun _ => rfl))
  case kB => exact locs rfl
  case c2 => exact rfl
  case c3 => exact rfl
  case c4 => exact rfl
  case c5 => decide
  intro h1 F N
  try dsimp only
  k_fold
  k_steps
  (try k_unmd)
  have a1 := fdiv_fmod_facts x 6
  have a2 := fdiv_fmod_facts (x.fdiv 6) 8
  have a3 := fdiv_fmod_facts (x.fdiv 48) 4
  have a4 := fdiv_fmod_facts (x.fdiv 192) 3
  refine hret _ _ _ (x.fmod 6) ((x.fdiv 6).fmod 8) ((x.fdiv 48).fmod 4) ((x.fdiv 192).fmod 3) (Fr.keep (by k_asm)) ⟨⟨_, _, _, _, isTup_at (News.get (by k_asm) (by k_mem)) rfl rfl⟩, ?_, ?_, ?_, ?_, ?_, ?_, ?_, ?_⟩ <;> omega

end
section
theorem c197 (w : World) {dp un fr gd} {p loose mg mb} (hdp : dp + 4 < 800) (hun : un + 100 < 8000) {s : Shared} (X : (hd.heap_39 w.params).In s.heap) (T : TopRead p loose mg mb s.heap) {q : Addr} {i1 i2 i3 i4 : Int}
   (M : MadeAt s.heap q i1 i2 i3 i4)
   {R : Result → Shared → Prop} (hret : ∀ r t h' tk, Keep s.heap h' → r = rankF i1 i2 i3 i4 → R (.ok (.ret (.int r t))) { s with heap := h', toks := tk }) :
   codeAny (model PySem.Challenge.pw_ep5037_01 w) (ar dp un fr gd) (.call (.ref 197) ⟨[.ref q], []⟩) R s := by
  obtain ⟨⟨t1, t2, t3, t4, hm⟩, b1, b1', b2, b2', b3, b3', b4, b4'⟩ := M
  have hA : dp < recursionLimit := by (show dp < 1000); omega
  refine' code_pure X T hA ?k6 ?k7 ?k9 ?kB ?_ ?c2 ?c3 ?c4 ?c5
  case k6 => k_is
  case k7 => k_is
  case k9 => first | exact BindsTo.of_eq rfl | exact binds_K X rfl (by k_is) rfl rfl rfl | (refine' kp_binds ?kx ?ke; (case kx => exact X); (case ke => exact fun _ => rfl))
  case kB => exact locs rfl
  case c2 => exact rfl
  case c3 => exact rfl
  case c4 => exact rfl
  case c5 => decide
  intro h1 F N
  try dsimp only
  k_fold
  k_steps
  all_goals (
    (try k_unmd)
    exact hret _ _ _ _ (Fr.keep (by k_asm)) (by unfold rankF; (repeat' split) <;> omega))

end
section

abbrev relsV : List Value := [.ref 144, .ref 145, .ref 146, .ref 147, .ref 148, .ref 149]
abbrev postsV : List Value := [.none, .int 0 512, .int 1 513, .int 7 514]
abbrev devsV : List Value := [.none, .int 0 516, .int 5 517]
theorem rels_tup (w : World) {h : Heap} (X : (hd.heap_39 w.params).In h) : IsTup h 150 relsV.toArray := tupK X (by k_is)
theorem posts_tup (w : World) {h : Heap} (X : (hd.heap_39 w.params).In h) : IsTup h 158 postsV.toArray := tupK X (by k_is)
theorem devs_tup (w : World) {h : Heap} (X : (hd.heap_39 w.params).In h) : IsTup h 159 devsV.toArray := tupK X (by k_is)
theorem rels_rd (w : World) {h : Heap} (X : (hd.heap_39 w.params).In h) {i : Int} (h0 : 0 ≤ i) (h6 : i < 6) : Rd h (relsV.getD i.toNat .none) (relsD.getD i.toNat .none) := by
  have e : i = 0 ∨ i = 1 ∨ i = 2 ∨ i = 3 ∨ i = 4 ∨ i = 5 := by omega
  rcases e with e | e | e | e | e | e <;> subst e
  · exact IsTup.rd (tupK (l := []) X (by k_is)) (RdAll.nil)
  · exact IsTup.rd (tupK (l := [_]) X (by k_is)) ((RdAll.cons (Rd.int _ _) RdAll.nil))
  · exact IsTup.rd (tupK (l := [_, _]) X (by k_is)) ((RdAll.cons (Rd.int _ _) (RdAll.cons (Rd.int _ _) RdAll.nil)))
  · exact IsTup.rd (tupK (l := [_]) X (by k_is)) ((RdAll.cons (Rd.int _ _) RdAll.nil))
  · exact IsTup.rd (tupK (l := [_, _, _]) X (by k_is)) ((RdAll.cons (Rd.int _ _) (RdAll.cons (Rd.int _ _) (RdAll.cons (Rd.int _ _) RdAll.nil))))
  · exact IsTup.rd (tupK (l := [_]) X (by k_is)) ((RdAll.cons (Rd.int _ _) RdAll.nil))
theorem posts_opt {i : Int} (h0 : 0 ≤ i) (h4 : i < 4) : OptV (postsV.getD i.toNat .none) (postsD.getD i.toNat none) := by
  have e : i = 0 ∨ i = 1 ∨ i = 2 ∨ i = 3 := by omega
  rcases e with e | e | e | e <;> subst e
  · exact .no
  · exact .yes _ _
  · exact .yes _ _
  · exact .yes _ _
theorem devs_opt {i : Int} (h0 : 0 ≤ i) (h3 : i < 3) : OptV (devsV.getD i.toNat .none) (devsD.getD i.toNat none) := by
  have e : i = 0 ∨ i = 1 ∨ i = 2 := by omega
  rcases e with e | e | e <;> subst e
  · exact .no
  · exact .yes _ _
  · exact .yes _ _

theorem items_rd {h : Heap} {a : Addr} {i : Int} (h0 : 0 ≤ i) (h6 : i < 6) (e : h.get? a = some (tupO (relItems.getD i.toNat []))) : Rd h (.ref a) (relsD.getD i.toNat .none) := by
  have q : i = 0 ∨ i = 1 ∨ i = 2 ∨ i = 3 ∨ i = 4 ∨ i = 5 := by omega
  rcases q with q | q | q | q | q | q <;> subst q
  · exact Rd.tup e rfl rfl RdAll.nil
  · exact Rd.tup e rfl rfl (RdAll.cons (Rd.int _ _) RdAll.nil)
  · exact Rd.tup e rfl rfl (RdAll.cons (Rd.int _ _) (RdAll.cons (Rd.int _ _) RdAll.nil))
  · exact Rd.tup e rfl rfl (RdAll.cons (Rd.int _ _) RdAll.nil)
  · exact Rd.tup e rfl rfl (RdAll.cons (Rd.int _ _) (RdAll.cons (Rd.int _ _) (RdAll.cons (Rd.int _ _) RdAll.nil)))
  · exact Rd.tup e rfl rfl (RdAll.cons (Rd.int _ _) RdAll.nil)

end
section
open PySem.Calls Builtin Builtin.ObjectAttr
theorem vi_obj (w : World) : ∃ oc od cd sl, (hd.heap_39 w.params).lookup 139 = some ⟨oc, od, .cls cd, sl⟩ ∧ clsIn (hd.heap_39 w.params) 139 = some cd ∧ cd.mro = [.ref 139, .type "tuple", .type "object"] ∧ cd.hasDict = true ∧ (sl.toList[4]?).join = some .none ∧ cd.hasDel = false ∧ cd.abstract = false := by
  refine ⟨_, _, _, _, by k_is, by k_is, rfl, rfl, rfl, rfl, rfl⟩
theorem vi_made (w : World) {M : Model} {h : Heap} (X : (hd.heap_39 w.params).In h) : Looks M h (Bind.madeBy (.ref 139)) none := by
  obtain ⟨oc, od, cd, sl, ho, hc, e1, e2, e3, e4, e5⟩ := vi_obj w
  have hm : Looks M h (mroOf (.ref 139)) cd.mro := (looks_clsIn X hc).andThen .now
  intro A Q E s k q
  unfold Bind.madeBy
  refine wpAny_bind (hm A _ E s k ?_)
  rw [e1, List.forIn_cons]
  refine wpAny_bind (wpAny_bind (wpAny_bind (wpAny_bind (wpAny_loadPart (k _ _ (X _ _ ho)) (wpAny_pure ?_)))))
  dsimp only
  rw [← Array.getElem?_toList, e3]
  exact wpAny_pure (wpAny_pure (wpAny_pure q))

end
section

local macro_rules | `(tactic| x_close) => `(tactic| first
  | exact ⟨_, _, _, _, rfl, rfl, keep_of_mem (by assumption), at_mem (by assumption) (by k_mem), at_mem (by assumption) (by k_mem), mem_new (by assumption) (List.Mem.head _), mem_new (by assumption) (.tail _ (List.Mem.head _))⟩
  | exact ⟨_, _, _, rfl, rfl, keep_of_mem (by assumption), at_mem (by assumption) (List.Mem.head _)⟩)
theorem xn (w : World) {s : Shared} (X : (hd.heap_39 w.params).In s.heap) {i : Int} (h0 : 0 ≤ i) (h6 : i < 6) :
    wpAny (model PySem.Challenge.pw_ep5037_01 w) roomA (call (.builtin "tuple.__new__") [.ref 139, relsV.getD i.toNat .none] []) (NewPost s (relItems.getD i.toNat [])) (fun _ _ => False) s := by
  have e : i = 0 ∨ i = 1 ∨ i = 2 ∨ i = 3 ∨ i = 4 ∨ i = 5 := by omega
  rcases e with e | e | e | e | e | e <;> subst e
  · show wpAny _ _ (call _ [.ref 139, .ref 144] []) (NewPost s []) _ s
    x_run
  · show wpAny _ _ (call _ [.ref 139, .ref 145] []) (NewPost s [.int 1 497]) _ s
    x_run
  · show wpAny _ _ (call _ [.ref 139, .ref 146] []) (NewPost s [.int 1 498, .int 0 499]) _ s
    x_run
  · show wpAny _ _ (call _ [.ref 139, .ref 147] []) (NewPost s [.int 2 500]) _ s
    x_run
  · show wpAny _ _ (call _ [.ref 139, .ref 148] []) (NewPost s [.int 2 501, .int 0 502, .int 0 503]) _ s
    x_run
  · show wpAny _ _ (call _ [.ref 139, .ref 149] []) (NewPost s [.int 10 504]) _ s
    x_run
theorem xt0 (w : World) {s : Shared} (X : (hd.heap_39 w.params).In s.heap) {x dx : Addr} (hx' : s.heap.get? x = some ⟨.ref 139, some dx, .seq ⟨[]⟩ 0, #[]⟩) :
    wpAny (model PySem.Challenge.pw_ep5037_01 w) roomA (call (.type "tuple") [.ref x] []) (TupPost s []) (fun _ _ => False) s := by
  x_run
theorem xt1 (w : World) {s : Shared} (X : (hd.heap_39 w.params).In s.heap) {x dx : Addr} {a : Value} (hx' : s.heap.get? x = some ⟨.ref 139, some dx, .seq ⟨[a]⟩ 0, #[]⟩) :
    wpAny (model PySem.Challenge.pw_ep5037_01 w) roomA (call (.type "tuple") [.ref x] []) (TupPost s [a]) (fun _ _ => False) s := by
  x_run
theorem xt2 (w : World) {s : Shared} (X : (hd.heap_39 w.params).In s.heap) {x dx : Addr} {a b : Value} (hx' : s.heap.get? x = some ⟨.ref 139, some dx, .seq ⟨[a, b]⟩ 0, #[]⟩) :
    wpAny (model PySem.Challenge.pw_ep5037_01 w) roomA (call (.type "tuple") [.ref x] []) (TupPost s [a, b]) (fun _ _ => False) s := by
  x_run
theorem xt3 (w : World) {s : Shared} (X : (hd.heap_39 w.params).In s.heap) {x dx : Addr} {a b c : Value} (hx' : s.heap.get? x = some ⟨.ref 139, some dx, .seq ⟨[a, b, c]⟩ 0, #[]⟩) :
    wpAny (model PySem.Challenge.pw_ep5037_01 w) roomA (call (.type "tuple") [.ref x] []) (TupPost s [a, b, c]) (fun _ _ => False) s := by
  x_run
theorem xt (w : World) {s : Shared} (X : (hd.heap_39 w.params).In s.heap) {x dx : Addr} {i : Int} (h0 : 0 ≤ i) (h6 : i < 6) (hx : s.heap.get? x = some (viObj dx (relItems.getD i.toNat []))) :
    wpAny (model PySem.Challenge.pw_ep5037_01 w) roomA (call (.type "tuple") [.ref x] []) (TupPost s (relItems.getD i.toNat [])) (fun _ _ => False) s := by
  have e : i = 0 ∨ i = 1 ∨ i = 2 ∨ i = 3 ∨ i = 4 ∨ i = 5 := by omega
  rcases e with e | e | e | e | e | e <;> subst e
  · exact xt0 w X hx
  · exact xt1 w X hx
  · exact xt2 w X hx
  · exact xt1 w X hx
  · exact xt3 w X hx
  · exact xt1 w X hx

end
section
local macro_rules | `(tactic| walk_at "getMethod") => `(tactic| (k_here; (with_reducible show wpAny _ _ (getMethod (Value.type "tuple") _ _) _ _ _); k_dflt (refine' method_type ?F ?X ?t ?s ?e ?hh ?_); (case F => k_asm); (case X => assumption); (case e => k_is); (case t => kernel_rfl); (case s => decide +kernel); (case hh => rfl); k_whole))
theorem c63 (w : World) {dp un fr gd} {p loose mg mb} (hdp : dp + 4 < 800) (hun : un + 100 < 8000) {s : Shared} (X : (hd.heap_39 w.params).In s.heap) (T : TopRead p loose mg mb s.heap) {i : Int} (h0 : 0 ≤ i) (h6 : i < 6) {rel : Value} (hrel : rel = relsV.getD i.toNat .none) (pv ov dv : Value)
   {R : Result → Shared → Prop} (hret : ∀ x dx h' tk, Keep s.heap h' → h'.get? x = some (viObj dx (relItems.getD i.toNat [])) → h'.get? dx = some (dictOf [] 0) → s.heap.get? x = none → s.heap.get? dx = none → R (.ok (.ret (.ref x))) ⟨h', s.gens, s.drawn, tk, s.os⟩) :
   codeAny (model PySem.Challenge.pw_ep5037_01 w) (ar dp un fr gd) (.call (.ref 63) ⟨[.ref 139, rel], [(Str.ofString "pre", pv), (Str.ofString "post", ov), (Str.ofString "dev", dv)]⟩) R s := by
  have hA : dp < recursionLimit := by (show dp < 1000); omega
  refine' code_pure X T hA ?k6 ?k7 ?k9 ?kB ?_ ?c2 ?c3 ?c4 ?c5
  case k6 => k_is
  case k7 => k_is
  case k9 => first | exact BindsTo.of_eq rfl | exact binds_K X rfl (by k_is) rfl rfl rfl | (refine' kp_binds ?kx ?ke; (case kx => exact X); (case ke => exact fun _ => rfl))
  case kB => exact locs rfl
  case c2 => exact rfl
  case c3 => exact rfl
  case c4 => exact rfl
  case c5 => decide
  intro h1 F N
  try dsimp only
  k_fold
  k_steps
  subst hrel
  refine wpAny_mono (wpAny_room rfl ?_ ?_ (xn w (Frag.In.keeps X F.keep) h0 h6)) ?_ (fun _ _ e => e.elim)
  · show dp + 1 ≤ 900; omega
  · show un + 3 ≤ 9000; omega
  · rintro v s' ⟨x, dx, h', tk', rfl, rfl, kp, gx, gd', nx, nd⟩
    refine hret x dx h' tk' (Keep.trans F.keep kp) gx gd' (keep_none F.keep nx) (keep_none F.keep nd)

end
section
open PySem.Calls Builtin Builtin.ObjectAttr
section
variable {prog : Program} {E : Value → Shared → Prop}
theorem special_kw {K : Frag} {M : Model} {A : Around} {s : Shared} {x C : Addr} {ox : Obj} {od : Option Obj} {name : Str} {f : Addr} {args : List Value} {kw : List (Str × Value)} {Q : Option Value → Shared → Prop} (X : K.In s.heap) (I : W.InstAt s.heap x ox C od)
    (hs : findIn K (.ref C) name = some (some (.ref f))) (hf : typeIn K (.ref f) = some (.type "function")) (h : wpAny M A (call (.ref f) (.ref x :: args) kw) (fun v => Q (some v)) E s) :
    wpAny M A (callSpecial? (.ref x) name args kw) Q E s :=
  wpAny_bind (wpAny_bind (I.type.here ((looks_findIn X hs).here (wpAny_holding (wpAny_bind ((bind_fn X _ hf).here (wpAny_bind (wpAny_mono h (fun _ _ z => wpAny_pure z) fun _ _ z => z))))))))
theorem class_call (w : World) {A : Around} {s : Shared} {rest : List Value} {kw : List (Str × Value)} {R : Result → Shared → Prop} (X : (hd.heap_39 w.params).In s.heap)
    (hq : ∀ tk, wpAny (model prog w) (A.under (.builtin "type.__call__" ⟨.ref 139 :: rest, kw⟩)) (call (.ref 63) (.ref 139 :: rest) kw)
      (fun obj s1 => ∃ x ox od, obj = .ref x ∧ InstAt s1.heap x ox 139 od ∧ (hd.heap_39 w.params).In s1.heap ∧
        wpAny (model prog w) (A.under (.builtin "type.__call__" ⟨.ref 139 :: rest, kw⟩)) (call (.ref 73) (.ref x :: rest) kw) (fun r s2 => r = .none ∧ R (.ok (.ret (.ref x))) s2) (fun e s2 => R (.error e) s2) s1)
      (fun e s1 => R (.error e) s1) { s with toks := tk }) :
    codeAny (model prog w) A (.call (.ref 139) ⟨rest, kw⟩) R s := by
  obtain ⟨oc, od, cd, sl, ho, hc, e1, e2, e3, e4, e5⟩ := vi_obj w
  have hC := X _ _ ho
  have made := vi_made w (M := model prog w) X
  have call' : Looks (model prog w) s.heap (specialOf (.ref 139) "__call__") (some (.builtin "type.__call__")) := looks_specialIn X (by k_is)
  have typ : Looks (model prog w) s.heap (isInstance (.ref 139) (.type "type")) true := looks_instIn X (by k_is)
  have self : Looks (model prog w) s.heap (isSubtype (.ref 139) (.ref 139)) true := looks_mroIn X (by k_is)
  have hi : Looks (model prog w) s.heap (typeLookup (.ref 139) "__init__") (some (.ref 73)) := looks_findIn X (by k_is)
  have hb : ∀ self', Looks (model prog w) s.heap (bindSpecial (.ref 73) self') (.ref 73, [self']) := fun self' => bind_fn X self' (by k_is)
  have hm : Looks (model prog w) s.heap (mroOf (.ref 139)) cd.mro := (looks_clsIn X hc).andThen .now
  obtain ⟨h, g, d, t, os⟩ := s
  dsimp only at X hC made call' typ self hi hb hm
  refine codeAny_of_tree ?_
  show wpAny _ _ (callAny (.ref 139) _) _ _ _
  refine nd_load hC ?_
  show wpAny _ _ (callAny.viaDunder (.ref 139) _) _ _ _
  unfold callAny.viaDunder
  refine wpAny_bind (call'.at ?_)
  dsimp only
  rw [tc_bind]
  refine wpAny_bind (wpAny_pure (wpAny_bind (wpAny_pure ?_)))
  refine wpAny_pure (a := Fin.again (.call (.builtin "type.__call__") ⟨.ref 139 :: rest, kw⟩)) (And.intro rfl ?_)
  refine codeAny_call_builtin_at (Code.quiet_builtin _ (by decide +kernel)) entry_typeCall (check_slot tc_kind tc_split typ (tc_args _ _ _) ?_)
  unfold Builtin.«type.__call__»
  have e4' : cd.mro.isEmpty = false := by rw [e1]; rfl
  repeat (first | simp only [e4', Bool.false_eq_true, if_false] | ((fail_if_success (with_reducible show wpAny _ _ (getAttr (.ref 139) _ _) _ _ _)); lk))
  refine cls_bind (mc := .type "type") X (by k_is) (by k_is) (wpAny_call (sm_get (s := ⟨h, g, d, t + 1, os⟩) X (f := .ref 63) (by k_is) (handed_on rfl ?_)))
  with_reducible refine wpAny_bind ?_
  with_reducible refine wpAny_holding ?_
  refine wpAny_mono (hq _) (fun obj s1 H => ?_) (fun e s1 H => H)
  obtain ⟨x, ox, od', rfl, I, X1, H⟩ := H
  have inst : Looks (model prog w) s1.heap (isInstance (.ref x) (.ref 139)) true := I.type.andThen (looks_mroIn X1 (by k_is))
  refine wpAny_bind (inst.here ?_)
  simp only [Bool.not_true, Bool.false_eq_true, if_false]
  refine wpAny_bind (wpAny_holding (special_kw (C := 139) (f := 73) X1 I (by k_is) (by k_is) ?_))
  refine wpAny_mono H (fun r s2 Hr => ?_) (fun e s2 He => He)
  obtain ⟨rfl, Hr⟩ := Hr
  dsimp only
  exact wpAny_pure Hr
end

end
section

local macro_rules | `(tactic| walk_at "subscriptTail") => `(tactic| (k_here; (with_reducible show wpAny _ _ (subscriptTail _ _ (Value.ref 150) (Value.int _ _)) _ _ _); k_dflt (refine' item_sym (vs := relsV) (rels_tup _ (Frag.In.keeps (by assumption) (Fr.keep (by k_asm)))) (by omega) (by show _ < ((6 : Nat) : Int); omega) (by decide) ?_ (by with_unfolding_all rfl))))
local macro_rules | `(tactic| walk_at "subscriptTail") => `(tactic| (k_here; (with_reducible show wpAny _ _ (subscriptTail _ _ (Value.ref 158) (Value.int _ _)) _ _ _); k_dflt (refine' item_sym (vs := postsV) (posts_tup _ (Frag.In.keeps (by assumption) (Fr.keep (by k_asm)))) (by omega) (by show _ < ((4 : Nat) : Int); omega) (by decide) ?_ (by with_unfolding_all rfl))))
local macro_rules | `(tactic| walk_at "subscriptTail") => `(tactic| (k_here; (with_reducible show wpAny _ _ (subscriptTail _ _ (Value.ref 159) (Value.int _ _)) _ _ _); k_dflt (refine' item_sym (vs := devsV) (devs_tup _ (Frag.In.keeps (by assumption) (Fr.keep (by k_asm)))) (by omega) (by show _ < ((3 : Nat) : Int); omega) (by decide) ?_ (by with_unfolding_all rfl))))
local macro_rules | `(tactic| walk_at "subscriptTail Call") => `(tactic| (k_here; (with_reducible show wpAny _ _ (subscriptTail _ _ (Value.ref _) (Value.int _ _)) _ _ _); (rename (_ : List Value).length = 8 => hlen9); k_dflt (refine' item_sym (by assumption) (by omega) (by omega) (by omega) ?_ (by with_unfolding_all rfl)); k_whole))
local macro_rules | `(tactic| walk_at "call ref") => `(tactic| (k_here; (with_reducible show wpAny _ _ (call (Value.ref 157) _) _ _ _); k_dflt (refine' wpAny_call (c157 _ ?d ?u ?X ?T ?_)); (case d => tb_start); (case u => tb_start); (case X => exact Frag.In.keeps (by assumption) (Fr.keep (by k_asm))); (case T => exact TopRead.keeps (by assumption) (Fr.keep (by k_asm))); (intro a' h' tk' kp' P'); (obtain ⟨vs', hvs', hlen', hP'⟩ := P'); (have F' := Fr.kept (by k_asm) kp'); (have N' := News.grown (by k_asm) kp'); (try dsimp only); (try k_sweep)))
local macro_rules | `(tactic| walk_at "call ref") => `(tactic| (k_here; (with_reducible show wpAny _ _ (call (Value.ref 39) _) _ _ _); k_dflt (refine' wpAny_call (c39 _ ?d ?u ?X ?T ?r ?pre ?post ?dev ?_)); (case d => tb_start); (case u => tb_start); (case X => exact Frag.In.keeps (by assumption) (Fr.keep (by k_asm))); (case T => exact TopRead.keeps (by assumption) (Fr.keep (by k_asm))); (case r => first | kqd_in | exact rels_rd _ (Frag.In.keeps (by assumption) (Fr.keep (by k_asm))) (by omega) (by omega)); (case pre => tb_rel); (case post => first | exact OptV.no | exact posts_opt (by omega) (by omega) | assumption); (case dev => first | exact OptV.no | exact devs_opt (by omega) (by omega) | assumption); (intro v' h' tk' kp' rd'); (have F' := Fr.kept (by k_asm) kp'); (have N' := News.grown (by k_asm) kp'); (try dsimp only); (try k_sweep)))

theorem c204 (w : World) {dp un fr gd} {p loose mg mb} (hdp : dp + 20 < 800) (hun : un + 200 < 8000) {s : Shared} (X : (hd.heap_39 w.params).In s.heap) (T : TopRead p loose mg mb s.heap) {q : Addr} {i1 i2 i3 i4 : Int}
   (M : MadeAt s.heap q i1 i2 i3 i4)
   {R : Result → Shared → Prop} (hret : ∀ v h' tk, Keep s.heap h' → Rd h' v (keyOf i1 i2 i3 i4) → R (.ok (.ret v)) { s with heap := h', toks := tk }) :
   codeAny (model PySem.Challenge.pw_ep5037_01 w) (ar dp un fr gd) (.call (.ref 204) ⟨[.ref q], []⟩) R s := by
  obtain ⟨⟨t1, t2, t3, t4, hm⟩, b1, b1', b2, b2', b3, b3', b4, b4'⟩ := M
  have hA : dp < recursionLimit := by (show dp < 1000); omega
  refine' code_pure X T hA ?k6 ?k7 ?k9 ?kB ?_ ?c2 ?c3 ?c4 ?c5
  case k6 => k_is
  case k7 => k_is
  case k9 => first | exact BindsTo.of_eq rfl | exact binds_K X rfl (by k_is) rfl rfl rfl | (refine' kp_binds ?kx ?ke; (case kx => exact X); (case ke => exact fun _ => rfl))
  case kB => exact locs rfl
  case c2 => exact rfl
  case c3 => exact rfl
  case c4 => exact rfl
  case c5 => decide
  intro h1 F N
  try dsimp only
  k_fold
  k_steps
  (try k_unmd)
  exact hret _ _ _ (Fr.keep (by k_asm)) (by assumption)

end
section

open PySem.Calls Builtin Builtin.ObjectAttr
theorem keep_hide {h₀ h : Heap} {dx : Addr} (k : Keep h₀ h) (hn : h₀.get? dx = none) : Keep h₀ (hideAll h [dx]) := fun b o e => hideAll_get _ (k b o e) (by
  intro hm
  rw [List.mem_singleton.mp hm] at e
  rw [hn] at e; cases e)
theorem refuse_vi (self : Value) : refuseLoop self "__setattr__" [.ref 139, .type "tuple", .type "object"] = pure () := by
  rw [refuseLoop_ref]
  kernel_rfl
section
variable {prog : Program} {E : Value → Shared → Prop} {R : Result → Shared → Prop}
theorem osa_vi (w : World) {A : Around} {s : Shared} {h₀ : Heap} {L : Addr} {m : Str → Option Value} {x dx : Addr} {od od' : Obj} {items : List Value} {name : Str} {tk : Tok} {v : Value} {pre post : List (Addr × Obj)} {es : List DictEntry} {n : Nat}
    (F : Fr h₀ L s.heap m) (N : News h₀ L s.heap (pre ++ (dx, od) :: post)) (X : (hd.heap_39 w.params).In s.heap) (hx : s.heap.get? x = some (viObj dx items))
    (ht : findIn (hd.heap_39 w.params) (.ref 139) name = some none)
    (hl : (lookIn name od).isSome = true) (h1 : ∀ p ∈ pre, p.1 ≠ dx) (h2 : ∀ p ∈ post, p.1 ≠ dx)
    (e : Obj.putName name (PyData.keyHash w.params name) (.str name s.toks) v od = od') (e' : od'.data = .dict es.toArray n) (hz : es.length ≤ 1000)
    (h : ∀ h', Fr h₀ L h' m → News h₀ L h' (pre ++ (dx, od') :: post) → Heap.SameBut dx s.heap h' → R (.ok (.ret .none)) { s with heap := h', toks := s.toks + 1 }) :
    codeAny (model prog w) A (.call (.builtin "object.__setattr__") ⟨[.ref x, .str name tk, v], []⟩) R s := by
  have SF := PySem.F.store_object
  obtain ⟨oc, odc, cd, sl, ho, hc, e1, e2, e3, e4, e5⟩ := vi_obj w
  obtain ⟨U1, U2⟩ := news_upd (f := Obj.putName name (PyData.keyHash w.params name) (.str name s.toks) v) F N h1 h2 e (by obtain ⟨_, _, dd, _⟩ := od'; cases e'; rfl)
  have D := (N (dx, od) (by simp)).1
  have D' := (U2 (dx, od') (by simp)).1
  have ty : Looks (model prog w) s.heap (typeOf (.ref x)) (.ref 139) := (Looks.ld hx).andThen .now
  have sub : Looks (model prog w) s.heap (isInstance (.ref x) (.type "object")) true := ty.andThen (looks_mroIn X (by unfold mroIn; rw [hc, Option.bind_some, e1]; rfl))
  have hm : Looks (model prog w) s.heap (mroOf (.ref 139)) cd.mro := (looks_clsIn X hc).andThen .now
  refine codeAny_call_builtin SF.slot.plain SF.entry (@check_slot (model prog w) _ _ s "object.__setattr__" "object" "__setattr__" (.ref x) [.str name tk, v] [] _ SF.kind SF.split sub (SF.args (.ref x) (.str name tk) v) ?_)
  have L3 : Looks (model prog w) s.heap (storeTaker? none) none := .now
  rw [osa_eq, refuse_eq]
  refine wpAny_bind (wpAny_bind (ty.here (wpAny_bind (hm.here ?_))))
  rw [e1, refuse_vi]
  refine wpAny_pure (wpAny_bind (ty.here (wpAny_bind ((looks_findIn X ht).here (wpAny_bind (L3.here ?_))))))
  refine wpAny_bind (wpAny_pure (wpAny_bind (wpAny_bind (wpAny_loadPart hx (wpAny_bind ((looks_clsIn X hc).here ?_))))))
  rw [e2]
  refine wpAny_pure (a := some dx) (wpAny_bind (wpAny_pure (wpAny_bind ?_)))
  unfold nsSet
  refine wpAny_bind (wpAny_bind (wpAny_askSetting (wpAny_pure (wpAny_bind (wpAny_mkText (wpAny_bind (wpAny_loadPart D ?_)))))))
  unfold lookIn at hl
  split at hl
  · rename_i es₀ n₀ q
    rw [q]
    dsimp only
    have c : (!es₀.any (·.key.isStr name) && es₀.any (·.refKey)) = false := by
      rw [← Array.any_toList, ← Array.any_toList]
      split at hl
      · rename_i en he
        rw [List.any_eq_true.mpr ⟨en, List.mem_of_find?_eq_some he, List.find?_some he⟩]; rfl
      · split at hl
        · cases hl
        · rename_i z; rw [Bool.not_eq_true] at z; rw [z, Bool.and_false]
    rw [aRefKeyMayBeTheName_at, c]
    refine wpAny_updatePart D ?_
    refine wpAny_bind (wpAny_lookBehind D' (by rw [e']; exact pastItsLine_dict (by rw [List.size_toArray, sizeLine_eq]; omega)) ?_)
    exact wpAny_pure (h _ U1 U2 (Heap.SameBut.update ..))
  · cases hl
theorem set_vi (w : World) {A : Around} {s : Shared} {h₀ : Heap} {L : Addr} {m : Str → Option Value} {x dx : Addr} {items : List Value} {name : Str} {v : Value} {news news' : List (Addr × Obj)} {es es' : List DictEntry} {n n' : Nat} {Q : Unit → Shared → Prop}
    (F : Fr h₀ L s.heap m) (X₀ : (hd.heap_39 w.params).In h₀) (N : News h₀ L s.heap news) (hx : s.heap.get? x = some (viObj dx items))
    (hmem : (dx, dictOf es n) ∈ news) (ht : findIn (hd.heap_39 w.params) (.ref 139) name = some none) (hl : (getL name es).isSome = true)
    (e : (putL name (PyData.keyHash w.params name) (.str name (s.toks + 1)) v es, putN name es n) = (es', n')) (U : Upd dx (dictOf es n) (dictOf es' n') news news') (hz : es'.length ≤ 1000)
    (h : ∀ h', Fr h₀ L h' m → News h₀ L h' news' → Heap.SameBut dx s.heap h' → s.heap.get? dx = some (dictOf es n) → Q () { s with heap := h', toks := s.toks + 2 }) :
    wpAny (model prog w) A (setAttr (.ref x) name v) Q E s := by
  obtain ⟨pre, post, rfl, rfl, a, b⟩ := U.split
  obtain ⟨e1, e2⟩ := Prod.mk.inj e
  have D := (N (dx, dictOf es n) (by simp)).1
  have X := X₀.keeps F.keep
  exact set_plain X (C := 139) (od := some (dictOf es n)) ⟨hx, rfl, rfl, D⟩ (by k_is) (osa_vi w (s := { s with toks := s.toks + 1 }) F N X hx ht hl a b (by rw [putName_dict, e1, e2]) rfl hz fun h' F' N' hs' => h h' F' N' hs' D)
end

end
section

theorem code_mut {prog : Program} {w : World} {A : Around} {s : Shared} {K : Frag} {p : Program} {loose : List Str} {mg mb : Str → Option Value} {R : Result → Shared → Prop} {name qual : Str} {params : Arguments} {body : List Stmt} {scope : Scope}
    {dV kV doc pm cdv ct oc : Value} {an od : Option Addr} {osl : Array (Option Value)} {f : Addr} {args : Args} {binds : List (Str × Value)} {dx : Addr} {o : Obj}
    (hdx : s.heap.get? dx = some o) (X : K.In (hideAll s.heap [dx])) (T : TopRead p loose mg mb (hideAll s.heap [dx])) (hroom : A.depth < recursionLimit)
    (ho : K.lookup f = some ⟨oc, od, .func (fnOf name qual params body scope dV kV doc pm an cdv ct), osl⟩) (hcd : codeIn K cdv qual = true)
    (hbind : BindsTo s (fnOf name qual params body scope dV kV doc pm an cdv ct) args binds) (hloc : ∀ y ∈ binds, scope.names.lookup y.1 = some .local)
    (h : ∀ h₁, Fr (hideAll s.heap [dx]) s.heap.objs.size h₁ (fun y => binds.reverse.lookup y) → News (hideAll s.heap [dx]) s.heap.objs.size h₁ [(dx, o)] → Keep s.heap h₁ →
      wpAny (model prog w) (A.deeper (envOf qual scope s.heap.objs.size f cdv)) (execs body (envOf qual scope s.heap.objs.size f cdv))
        (fun fl s' => R (.ok (.ret (match fl with | .ret v => v | _ => .none))) s') (fun _ _ => False)
        { s with heap := h₁, toks := s.toks + binds.length })
    (hco : scope.isCoroutine = false) (hgen : scope.isGenerator = false) (hk : scope.kind = .function)
    (hcell : ∀ x ∈ scope.names, x.2 ≠ .cell) : codeAny (model prog w) A (.call (.ref f) args) R s := by
  have un : ∀ b o', (hideAll s.heap [dx]).get? b = some o' → s.heap.get? b = some o' := fun b o' e => of_hideAll _ e
  refine codeAny_call_def (fd := fnX name qual params body scope [] dV kV doc pm an cdv ct) (body := body) (binds := binds) hroom (un _ _ (X _ _ ho)) rfl (T.nolimit.keeps un) ((codeRec_of X hcd).keeps un) rfl hbind hcell hloc (fun h₁ hns hk₁ => ?_) hco hgen hk
  refine wpAny_mono (h h₁ ⟨hns, fun b o' e => hk₁ b o' (un b o' e), Nat.le_of_eq (hideAll_size _ _)⟩ (fun q hq => ?_) hk₁) (fun fl s' hl => hl) fun _ _ y => y.elim
  rw [List.mem_singleton.mp hq]
  exact ⟨hk₁ _ _ hdx, Nat.ne_of_lt (Heap.lt_size hdx), hideAll_none _ (List.mem_singleton.mpr rfl)⟩
local macro_rules | `(tactic| walk_at "setAttr") => `(tactic| (k_here; (with_reducible show wpAny _ _ (setAttr (Value.ref _) _ _) _ _ _); k_dflt (refine' set_vi _ ?k1 ?k2 ?k3 ?k4 ?kd ?k6 ?k10 ?k11 ?k12 ?k13 ?_; (case k1 => k_asm); (case k2 => k_asm); (case k3 => k_asm); (case k4 => exact Fr.keep (by k_asm) _ _ (by assumption)); (case kd => k_mem); (case k6 => k_is); (case k10 => k_get); (case k11 => k_put); (case k12 => k_upd); (case k13 => exact Nat.le_of_ble_eq_true rfl); k_whole); intro h' F' N' hs' D'; (try dsimp only at hs'); (try dsimp only at D')))
local macro_rules | `(tactic| walk_at "call type:tuple") => `(tactic| (k_here; (with_reducible show wpAny _ _ (call (Value.type "tuple") _) _ _ _); k_dflt (refine' wpAny_mono (wpAny_room rfl ?d ?u (xt _ ?X ?h0 ?h6 ?hx)) ?_ (fun _ _ e => e.elim)); (case d => tb_start); (case u => tb_start); (case X => exact Frag.In.keeps (by assumption) (Fr.keep (by k_asm))); (case hx => exact Fr.keep (by k_asm) _ _ (by assumption)); (case h0 => omega); (case h6 => omega); (intro v' s' H'); (obtain ⟨a', h', tk', e1', e2', kp', ga'⟩ := H'); (subst e1'); (subst e2'); (have rd' := items_rd (by assumption) (by assumption) ga'); (have F' := Fr.kept (by k_asm) kp'); (have N' := News.grown (by k_asm) kp'); (try dsimp only); (try k_sweep)))
local macro_rules | `(tactic| walk_at "call ref") => `(tactic| (k_here; (with_reducible show wpAny _ _ (call (Value.ref 39) _) _ _ _); k_dflt (refine' wpAny_call (c39 _ ?d ?u ?X ?T ?r ?pre ?post ?dev ?_)); (case d => tb_start); (case u => tb_start); (case X => exact Frag.In.keeps (by assumption) (Fr.keep (by k_asm))); (case T => exact TopRead.keeps (by assumption) (Fr.keep (by k_asm))); (case r => kqd_in); (case pre => tb_rel); (case post => first | exact OptV.no | assumption); (case dev => first | exact OptV.no | assumption); (intro v' h' tk' kp' rd'); (have F' := Fr.kept (by k_asm) kp'); (have N' := News.grown (by k_asm) kp'); (try dsimp only)))
theorem c73 (w : World) {dp un fr gd} {p loose mg mb} (hdp : dp + 20 < 800) (hun : un + 200 < 8000) {s : Shared} (X : (hd.heap_39 w.params).In s.heap) (T : TopRead p loose mg mb s.heap) {h₀ : Heap} (k₀ : Keep h₀ s.heap) (X₀ : (hd.heap_39 w.params).In h₀) (T₀ : TopRead p loose mg mb h₀) {x dx : Addr} {i : Int} (h0 : 0 ≤ i) (h6 : i < 6)
   (hx : s.heap.get? x = some (viObj dx (relItems.getD i.toNat []))) (hdx : s.heap.get? dx = some (dictOf [] 0)) (nx : h₀.get? x = none) (nd : h₀.get? dx = none)
   {rel pre post dev : Value} {dpre : Option (Str × Int)} {dpost ddev : Option Int} (hpre : PreV h₀ pre dpre) (hpost : OptV post dpost) (hdev : OptV dev ddev)
   {R : Result → Shared → Prop} (hret : ∀ es n v h' tk, (∀ b o, b ≠ dx → s.heap.get? b = some o → h'.get? b = some o) → h'.get? dx = some (dictOf es n) → getL "_sort_key" es = some (some v) →
     Rd h' v (keyD (relsD.getD i.toNat .none) dpre dpost ddev) → R (.ok (.ret .none)) { s with heap := h', toks := tk }) :
   codeAny (model PySem.Challenge.pw_ep5037_01 w) (ar dp un fr gd) (.call (.ref 73) ⟨[.ref x, rel], [(Str.ofString "pre", pre), (Str.ofString "post", post), (Str.ofString "dev", dev)]⟩) R s := by
  have hA : dp < recursionLimit := by (show dp < 1000); omega
  have XS := X
  have hdx' := hdx
  have XG : (hd.heap_39 w.params).In (hideAll s.heap [dx]) := X₀.keeps (keep_hide k₀ nd)
  have TG : TopRead p loose mg mb (hideAll s.heap [dx]) := T₀.keeps (keep_hide k₀ nd)
  have hxg : (hideAll s.heap [dx]).get? x = some (viObj dx (relItems.getD i.toNat [])) := hideAll_get _ hx (fun hm => by rw [List.mem_singleton.mp hm, hdx] at hx; cases hx)
  have hpreG : PreV (hideAll s.heap [dx]) pre dpre := hpre.keeps (keep_hide k₀ nd)
  clear hx hdx hpre X T k₀ X₀ T₀ nx nd
  refine' code_mut hdx' XG TG hA ?k6 ?k7 ?k9 ?kB ?_ ?c2 ?c3 ?c4 ?c5
  case k6 => k_is
  case k7 => k_is
  case k9 => first | exact BindsTo.of_eq rfl | exact binds_K XS rfl (by k_is) rfl rfl rfl | (refine' kp_binds ?kx ?ke; (case kx => exact XS); (case ke => exact fun _ => rfl))
  case kB => exact locs rfl
  case c2 => exact rfl
  case c3 => exact rfl
  case c4 => exact rfl
  case c5 => decide
  clear XS
  intro h1 F N kh
  try dsimp only
  k_fold
  k_steps
  (rename Heap.SameBut dx _ _ => hs9)
  (rename Heap.get? _ dx = some (dictOf _ _) => D9)
  (rename Rd _ _ (keyD _ _ _ _) => rd9)
  exact hret _ _ _ _ _ (fun b o hb e => Fr.keep (by k_asm) b o (hideAll_get _ e (fun hm => hb (List.mem_singleton.mp hm)))) (News.get (by k_asm) (List.Mem.head _)) (by k_get) (Rd.same (fun b o hb e => (hs9.2 b hb).trans e) D9 (by simp) _ _ rd9)

end
section
/-- a version made since h0 -/
def VerNew (h0 h : Heap) (x : Addr) (d : PyData) : Prop := ∃ dx items es n k, h0.get? dx = none ∧ h.get? x = some (viObj dx items) ∧ h.get? dx = some (dictOf es n) ∧ getL "_sort_key" es = some (some (.ref k)) ∧ Rd h (.ref k) d
theorem VerNew.at {h0 h : Heap} {x : Addr} {d : PyData} (v : VerNew h0 h x d) : VerAt h x d := let ⟨dx, it, es, n, k, _, r⟩ := v; ⟨dx, it, es, n, k, r⟩
theorem VerNew.back {h0 h1 h : Heap} {x : Addr} {d : PyData} (k : Keep h0 h1) (v : VerNew h1 h x d) : VerNew h0 h x d := let ⟨dx, it, es, n, kk, e, r⟩ := v; ⟨dx, it, es, n, kk, keep_none k e, r⟩

theorem under_vi (dp un : Nat) (fr : Option (List Env)) (gd : Option (List Code)) (rest : List Value) (kw : List (Str × Value)) :
    (ar dp un fr gd).under (.builtin "type.__call__" ⟨.ref 139 :: rest, kw⟩) = ar (dp + 1) (un + (Code.builtin "type.__call__" ⟨.ref 139 :: rest, kw⟩).cUnits) fr gd := by
  have hg : (Code.builtin "type.__call__" ⟨.ref 139 :: rest, kw⟩).guards = [] := by
    have : (Code.builtin "type.__call__" ⟨.ref 139 :: rest, kw⟩).isGuard = false := by
      show guardIds.contains "type.__call__" = false
      decide +kernel
    simp [Code.guards, this]
  unfold Around.under
  rw [hg]
  rfl
theorem units_vi (rest : List Value) (kw : List (Str × Value)) : (Code.builtin "type.__call__" ⟨.ref 139 :: rest, kw⟩).cUnits ≤ 4 := by
  exact Nat.le_of_ble_eq_true (by kernel_rfl)
theorem c139 (w : World) {dp un fr gd} {p loose mg mb} (hdp : dp + 30 < 800) (hun : un + 300 < 8000) {s : Shared} (X : (hd.heap_39 w.params).In s.heap) (T : TopRead p loose mg mb s.heap) {i : Int} (h0 : 0 ≤ i) (h6 : i < 6) {rel : Value} (hrel : rel = relsV.getD i.toNat .none) {pre post dev : Value} {dpre : Option (Str × Int)} {dpost ddev : Option Int} (hpre : PreV s.heap pre dpre) (hpost : OptV post dpost) (hdev : OptV dev ddev)
   {R : Result → Shared → Prop} (hret : ∀ x h' tk, Keep s.heap h' → VerNew s.heap h' x (keyD (relsD.getD i.toNat .none) dpre dpost ddev) → R (.ok (.ret (.ref x))) { s with heap := h', toks := tk }) :
   codeAny (model PySem.Challenge.pw_ep5037_01 w) (ar dp un fr gd) (.call (.ref 139) ⟨[rel], [(Str.ofString "pre", pre), (Str.ofString "post", post), (Str.ofString "dev", dev)]⟩) R s := by
  have hu := units_vi [rel] [(Str.ofString "pre", pre), (Str.ofString "post", post), (Str.ofString "dev", dev)]
  refine class_call w X fun tk => ?_
  rw [under_vi]
  refine wpAny_call (c63 w (by omega) (by omega) (s := { s with toks := tk }) X T h0 h6 hrel pre post dev fun x dx h1 tk1 k1 gx gd' nx nd => ?_)
  dsimp only at k1 nx nd
  refine ⟨x, _, some (dictOf [] 0), rfl, ⟨gx, rfl, rfl, gd'⟩, X.keeps k1, ?_⟩
  refine wpAny_call (c73 w (s := ⟨h1, s.gens, s.drawn, tk1, s.os⟩) (by omega) (by omega) (X.keeps k1) (T.keeps k1) (h₀ := s.heap) k1 X T h0 h6 gx gd' nx nd hpre hpost hdev fun es n v h' tk2 k2 gd2 gl rd => ⟨rfl, ?_⟩)
  obtain ⟨ka, _, _, _, e1, _⟩ := rd_tup (show Rd h' v (.tuple [_, _, _, _]) from rd)
  subst e1
  have ne : x ≠ dx := fun e => by rw [e, gd'] at gx; cases gx
  refine hret x h' tk2 (fun b o e => k2 b o (fun q => by rw [q, nd] at e; cases e) (k1 b o e)) ⟨dx, _, es, n, ka, nd, k2 _ _ ne gx, gd2, gl, rd⟩

end
section

local macro_rules | `(tactic| walk_at "subscriptTail") => `(tactic| (k_here; (with_reducible show wpAny _ _ (subscriptTail _ _ (Value.ref 150) (Value.int _ _)) _ _ _); k_dflt (refine' item_sym (vs := relsV) (rels_tup _ (Frag.In.keeps (by assumption) (Fr.keep (by k_asm)))) (by omega) (by show _ < ((6 : Nat) : Int); omega) (by decide) ?_ (by with_unfolding_all rfl))))
local macro_rules | `(tactic| walk_at "subscriptTail") => `(tactic| (k_here; (with_reducible show wpAny _ _ (subscriptTail _ _ (Value.ref 158) (Value.int _ _)) _ _ _); k_dflt (refine' item_sym (vs := postsV) (posts_tup _ (Frag.In.keeps (by assumption) (Fr.keep (by k_asm)))) (by omega) (by show _ < ((4 : Nat) : Int); omega) (by decide) ?_ (by with_unfolding_all rfl))))
local macro_rules | `(tactic| walk_at "subscriptTail") => `(tactic| (k_here; (with_reducible show wpAny _ _ (subscriptTail _ _ (Value.ref 159) (Value.int _ _)) _ _ _); k_dflt (refine' item_sym (vs := devsV) (devs_tup _ (Frag.In.keeps (by assumption) (Fr.keep (by k_asm)))) (by omega) (by show _ < ((3 : Nat) : Int); omega) (by decide) ?_ (by with_unfolding_all rfl))))
local macro_rules | `(tactic| walk_at "subscriptTail Call") => `(tactic| (k_here; (with_reducible show wpAny _ _ (subscriptTail _ _ (Value.ref _) (Value.int _ _)) _ _ _); (rename (_ : List Value).length = 8 => hlen9); k_dflt (refine' item_sym (by assumption) (by omega) (by omega) (by omega) ?_ (by with_unfolding_all rfl)); k_whole))
local macro_rules | `(tactic| walk_at "call ref") => `(tactic| (k_here; (with_reducible show wpAny _ _ (call (Value.ref 157) _) _ _ _); k_dflt (refine' wpAny_call (c157 _ ?d ?u ?X ?T ?_)); (case d => tb_start); (case u => tb_start); (case X => exact Frag.In.keeps (by assumption) (Fr.keep (by k_asm))); (case T => exact TopRead.keeps (by assumption) (Fr.keep (by k_asm))); (intro a' h' tk' kp' P'); (obtain ⟨vs', hvs', hlen', hP'⟩ := P'); (have F' := Fr.kept (by k_asm) kp'); (have N' := News.grown (by k_asm) kp'); (try dsimp only); (try k_sweep)))
local macro_rules | `(tactic| walk_at "call ref") => `(tactic| (k_here; (with_reducible show wpAny _ _ (call (Value.ref 39) _) _ _ _); k_dflt (refine' wpAny_call (c39 _ ?d ?u ?X ?T ?r ?pre ?post ?dev ?_)); (case d => tb_start); (case u => tb_start); (case X => exact Frag.In.keeps (by assumption) (Fr.keep (by k_asm))); (case T => exact TopRead.keeps (by assumption) (Fr.keep (by k_asm))); (case r => first | kqd_in | exact rels_rd _ (Frag.In.keeps (by assumption) (Fr.keep (by k_asm))) (by omega) (by omega)); (case pre => tb_rel); (case post => first | exact OptV.no | exact posts_opt (by omega) (by omega) | assumption); (case dev => first | exact OptV.no | exact devs_opt (by omega) (by omega) | assumption); (intro v' h' tk' kp' rd'); (have F' := Fr.kept (by k_asm) kp'); (have N' := News.grown (by k_asm) kp'); (try dsimp only); (try k_sweep)))


local macro_rules | `(tactic| walk_at "call ref") => `(tactic| (k_here; (with_reducible show wpAny _ _ (call (Value.ref 139) _ _) _ _ _); k_dflt (refine' wpAny_call (c139 _ ?d ?u ?X ?T ?h0 ?h6 ?hrel ?pre ?post ?dev ?_)); (case d => tb_start); (case u => tb_start); (case X => exact Frag.In.keeps (by assumption) (Fr.keep (by k_asm))); (case T => exact TopRead.keeps (by assumption) (Fr.keep (by k_asm))); (case hrel => exact rfl); (case h0 => omega); (case h6 => omega); (case pre => tb_rel); (case post => first | exact OptV.no | exact posts_opt (by omega) (by omega) | assumption); (case dev => first | exact OptV.no | exact devs_opt (by omega) (by omega) | assumption); (intro v' h' tk' kp' rdx); (have rd' := VerNew.back (Fr.keep (by k_asm)) rdx); (clear rdx); (have F' := Fr.kept (by k_asm) kp'); (have N' := News.grown (by k_asm) kp'); (try dsimp only)))
theorem c211 (w : World) {dp un fr gd} {p loose mg mb} (hdp : dp + 40 < 800) (hun : un + 400 < 8000) {s : Shared} (X : (hd.heap_39 w.params).In s.heap) (T : TopRead p loose mg mb s.heap) {q : Addr} {i1 i2 i3 i4 : Int}
   (M : MadeAt s.heap q i1 i2 i3 i4)
   {R : Result → Shared → Prop} (hret : ∀ x h' tk, Keep s.heap h' → VerNew s.heap h' x (keyOf i1 i2 i3 i4) → R (.ok (.ret (.ref x))) { s with heap := h', toks := tk }) :
   codeAny (model PySem.Challenge.pw_ep5037_01 w) (ar dp un fr gd) (.call (.ref 211) ⟨[.ref q], []⟩) R s := by
  obtain ⟨⟨t1, t2, t3, t4, hm⟩, b1, b1', b2, b2', b3, b3', b4, b4'⟩ := M
  have hA : dp < recursionLimit := by (show dp < 1000); omega
  refine' code_pure X T hA ?k6 ?k7 ?k9 ?kB ?_ ?c2 ?c3 ?c4 ?c5
  case k6 => k_is
  case k7 => k_is
  case k9 => first | exact BindsTo.of_eq rfl | exact binds_K X rfl (by k_is) rfl rfl rfl | (refine' kp_binds ?kx ?ke; (case kx => exact X); (case ke => exact fun _ => rfl))
  case kB => exact locs rfl
  case c2 => exact rfl
  case c3 => exact rfl
  case c4 => exact rfl
  case c5 => decide
  intro h1 F N
  try dsimp only
  k_fold
  k_steps
  (try k_unmd)
  exact hret _ _ _ (Fr.keep (by k_asm)) (by assumption)

end
section

open PySem.Calls
def opI : CmpOp → Int → Int → Bool
  | .Lt, i, j => decide (i < j)
  | .LtE, i, j => decide (i ≤ j)
  | .Gt, i, j => decide (j < i)
  | .GtE, i, j => decide (j ≤ i)
  | .Eq, i, j => i == j
  | .NotEq, i, j => !(i == j)
  | _, _, _ => false
def opS : CmpOp → Str → Str → Bool
  | .Lt, x, y => decide (x.cps.toList < y.cps.toList)
  | .LtE, x, y => !decide (y.cps.toList < x.cps.toList)
  | .Gt, x, y => decide (y.cps.toList < x.cps.toList)
  | .GtE, x, y => !decide (x.cps.toList < y.cps.toList)
  | _, _, _ => false
def opN : CmpOp → Nat → Nat → Bool
  | .Lt, m, n => decide (m < n)
  | .LtE, m, n => decide (m ≤ n)
  | .Gt, m, n => decide (n < m)
  | .GtE, m, n => decide (n ≤ m)
  | _, _, _ => false
mutual
def cmpD (op : CmpOp) : PyData → PyData → Bool
  | .int i, .int j => opI op i j
  | .str x, .str y => opS op x y
  | .tuple xs, .tuple ys => cmpL op xs ys
  | _, _ => false
def cmpL (op : CmpOp) : List PyData → List PyData → Bool
  | x :: xs, y :: ys => if PyData.eqv x y then cmpL op xs ys else cmpD op x y
  | xs, ys => opN op xs.length ys.length
end
mutual
def ordD : PyData → PyData → Bool
  | .int _, .int _ => true
  | .str _, .str _ => true
  | .tuple xs, .tuple ys => ordL xs ys
  | _, _ => false
def ordL : List PyData → List PyData → Bool
  | x :: xs, y :: ys => if PyData.eqv x y then ordL xs ys else ordD x y
  | _, _ => true
end
def isOrd : CmpOp → Bool
  | .Lt | .LtE | .Gt | .GtE => true
  | _ => false
section
variable {prog : Program} {w : World} {E : Value → Shared → Prop}
def CmpBelow (prog : Program) (w : World) (op : CmpOp) (n : Nat) : Prop := ∀ (da db : PyData) (A : Around) (E : Value → Shared → Prop) (s : Shared) (a b : Value) (Q : Value → Shared → Prop),
  da.depth < n → Rd s.heap a da → Rd s.heap b db → da.canLay0 = true → db.canLay0 = true → A.units + 2 * n + 2 < cLine → ordD da db = true → (∀ v : Bool, v = cmpD op da db → Q (.bool v) s) → wpAny (model prog w) A (richCompare op a b) Q E s

theorem tree_lt {A : Around} {s : Shared} {ds es : List PyData} {a b : Addr} {oa ob : Obj} {xs ys : Array Value} {na nb n : Nat} {P : Fin → Shared → Prop} (ih : CmpBelow prog w .Lt n)
    (ga : s.heap.get? a = some oa) (da : oa.data = .seq xs na) (gb : s.heap.get? b = some ob) (cb : ob.cls = .type "tuple") (db : ob.data = .seq ys nb)
    (ra : RdAll s.heap xs.toList ds) (rb : RdAll s.heap ys.toList es) (la : PyData.canLayAll0 ds = true) (lb : PyData.canLayAll0 es = true) (dp : PyData.depthAll ds < n) (hu : A.units + 2 * n + 2 < cLine) (ho : ordL ds es = true)
    (h : P (.done (.ret (.bool (cmpL .Lt ds es)))) s) :
    wpAny (model prog w) A (Builtin.«tuple.__lt__» ⟨[.ref a, .ref b], []⟩) P E s := by
  have hTb : s.TypeIs (.ref b) "tuple" := ⟨ob, gb, cb⟩
  show wpAny _ _ (isInstance (.ref b) (.type "tuple") >>= _) _ _ s
  refine wpAny_bind (wpAny_isInstance hTb isSubtype_tuple_tuple ?_)
  simp only [Bool.not_true, Bool.false_eq_true, if_false]
  refine wpAny_bind (wpAny_tupleItemsOf ga da ?_)
  refine wpAny_bind (wpAny_tupleItemsOf gb db ?_)
  refine wpAny_bind ?_
  refine wpAny_forIn_list _
    (fun rest r s' => r.1 = none ∧ s' = s ∧ ∃ d' e' xs' ys', rest = List.zip xs' ys' ∧ RdAll s.heap xs' d' ∧ RdAll s.heap ys' e' ∧ PyData.canLayAll0 d' = true ∧ PyData.canLayAll0 e' = true ∧ PyData.depthAll d' < n ∧ ordL d' e' = true ∧ cmpL .Lt d' e' = cmpL .Lt ds es ∧ opN .Lt xs'.length ys'.length = opN .Lt xs.size ys.size)
    _ ?_ ?_ _ _ ⟨rfl, rfl, ds, es, xs.toList, ys.toList, rfl, ra, rb, la, lb, dp, ho, rfl, by simp⟩
  · rintro ⟨u, v⟩ rest r s' ⟨hr, rfl, d', e', xs', ys', hz, hx, hy, hl1, hl2, hd, hor, hc, hn⟩
    cases d' with
    | nil => rw [rdAll_nil hx] at hz; simp at hz
    | cons d1 d2 =>
      cases e' with
      | nil => rw [rdAll_nil hy] at hz; simp at hz
      | cons e1 e2 =>
        obtain ⟨u', xr, rfl, hu1, hx2⟩ := rdAll_cons hx
        obtain ⟨v', yr, rfl, hv1, hy2⟩ := rdAll_cons hy
        simp only [List.zip_cons_cons, List.cons.injEq, Prod.mk.injEq] at hz
        obtain ⟨⟨rfl, rfl⟩, rfl⟩ := hz
        simp only [PyData.canLayAll0, Bool.and_eq_true] at hl1 hl2
        simp only [PyData.depthAll] at hd
        have hd1 : d1.depth < n := Nat.lt_of_le_of_lt (Nat.le_max_left _ _) hd
        have hd2 : PyData.depthAll d2 < n := Nat.lt_of_le_of_lt (Nat.le_max_right _ _) hd
        have hmin : min d1.depth e1.depth ≤ d1.depth := Nat.min_le_left _ _
        refine wpAny_bind (SeqAt.eqBoolOverData prog w _ _ _ _ _ d1 e1 _ _ _ hu1 hv1 hl1.1 hl2.1 (by omega) ?_)
        cases hq : PyData.eqv d1 e1 with
        | true =>
          simp only [Bool.not_true, Bool.false_eq_true, if_false]
          refine wpAny_pure ⟨rfl, rfl, d2, e2, xr, yr, rfl, hx2, hy2, hl1.2, hl2.2, hd2, ?_, ?_, ?_⟩
          · rw [ordL, hq] at hor; exact hor
          · rw [← hc, cmpL, hq]; rfl
          · rw [← hn]; simp [opN]
        | false =>
          simp only [Bool.not_false, if_true]
          refine wpAny_bind (wpAny_rule (wpAny_bind ?_))
          refine ih d1 e1 _ _ _ _ _ _ hd1 hu1 hv1 hl1.1 hl2.1 hu ?_ ?_
          · rw [ordL, hq] at hor; exact hor
          · intro v hv
            have : cmpL .Lt ds es = v := by rw [← hc, cmpL, hq, hv]; rfl
            rw [this] at h
            exact wpAny_bind (wpAny_pure (wpAny_pure (wpAny_pure h)))
  · rintro ⟨r1, r2⟩ s' ⟨hr, rfl, d', e', xs', ys', hz, hx, hy, hl1, hl2, hd, hor, hc, hn⟩
    simp only at hr
    subst hr
    refine wpAny_pure ?_
    have hfin : opN .Lt xs.size ys.size = cmpL .Lt ds es := by
      rw [← hc, ← hn]
      cases d' with
      | nil =>
        rw [rdAll_nil hx]
        rw [cmpL]
        · rw [show ys'.length = e'.length from SeqAt.ReadsAll.length _ _ _ hy]; rfl
        · intro x xs y ys h1; cases h1
      | cons d1 d2 =>
        cases e' with
        | nil =>
          rw [rdAll_nil hy]
          rw [cmpL]
          · rw [show xs'.length = (d1 :: d2).length from SeqAt.ReadsAll.length _ _ _ hx]; rfl
          · intro x xs y ys h1 h2; cases h2
        | cons e1 e2 =>
          obtain ⟨u', xr, rfl, _, _⟩ := rdAll_cons hx
          obtain ⟨v', yr, rfl, _, _⟩ := rdAll_cons hy
          simp at hz
    show P (.done (.ret (.bool (opN .Lt xs.size ys.size)))) s'
    rw [hfin]; exact h

theorem tree_le {A : Around} {s : Shared} {ds es : List PyData} {a b : Addr} {oa ob : Obj} {xs ys : Array Value} {na nb n : Nat} {P : Fin → Shared → Prop} (ih : CmpBelow prog w .LtE n)
    (ga : s.heap.get? a = some oa) (da : oa.data = .seq xs na) (gb : s.heap.get? b = some ob) (cb : ob.cls = .type "tuple") (db : ob.data = .seq ys nb)
    (ra : RdAll s.heap xs.toList ds) (rb : RdAll s.heap ys.toList es) (la : PyData.canLayAll0 ds = true) (lb : PyData.canLayAll0 es = true) (dp : PyData.depthAll ds < n) (hu : A.units + 2 * n + 2 < cLine) (ho : ordL ds es = true)
    (h : P (.done (.ret (.bool (cmpL .LtE ds es)))) s) :
    wpAny (model prog w) A (Builtin.«tuple.__le__» ⟨[.ref a, .ref b], []⟩) P E s := by
  have hTb : s.TypeIs (.ref b) "tuple" := ⟨ob, gb, cb⟩
  show wpAny _ _ (isInstance (.ref b) (.type "tuple") >>= _) _ _ s
  refine wpAny_bind (wpAny_isInstance hTb isSubtype_tuple_tuple ?_)
  simp only [Bool.not_true, Bool.false_eq_true, if_false]
  refine wpAny_bind (wpAny_tupleItemsOf ga da ?_)
  refine wpAny_bind (wpAny_tupleItemsOf gb db ?_)
  refine wpAny_bind ?_
  refine wpAny_forIn_list _
    (fun rest r s' => r.1 = none ∧ s' = s ∧ ∃ d' e' xs' ys', rest = List.zip xs' ys' ∧ RdAll s.heap xs' d' ∧ RdAll s.heap ys' e' ∧ PyData.canLayAll0 d' = true ∧ PyData.canLayAll0 e' = true ∧ PyData.depthAll d' < n ∧ ordL d' e' = true ∧ cmpL .LtE d' e' = cmpL .LtE ds es ∧ opN .LtE xs'.length ys'.length = opN .LtE xs.size ys.size)
    _ ?_ ?_ _ _ ⟨rfl, rfl, ds, es, xs.toList, ys.toList, rfl, ra, rb, la, lb, dp, ho, rfl, by simp⟩
  · rintro ⟨u, v⟩ rest r s' ⟨hr, rfl, d', e', xs', ys', hz, hx, hy, hl1, hl2, hd, hor, hc, hn⟩
    cases d' with
    | nil => rw [rdAll_nil hx] at hz; simp at hz
    | cons d1 d2 =>
      cases e' with
      | nil => rw [rdAll_nil hy] at hz; simp at hz
      | cons e1 e2 =>
        obtain ⟨u', xr, rfl, hu1, hx2⟩ := rdAll_cons hx
        obtain ⟨v', yr, rfl, hv1, hy2⟩ := rdAll_cons hy
        simp only [List.zip_cons_cons, List.cons.injEq, Prod.mk.injEq] at hz
        obtain ⟨⟨rfl, rfl⟩, rfl⟩ := hz
        simp only [PyData.canLayAll0, Bool.and_eq_true] at hl1 hl2
        simp only [PyData.depthAll] at hd
        have hd1 : d1.depth < n := Nat.lt_of_le_of_lt (Nat.le_max_left _ _) hd
        have hd2 : PyData.depthAll d2 < n := Nat.lt_of_le_of_lt (Nat.le_max_right _ _) hd
        have hmin : min d1.depth e1.depth ≤ d1.depth := Nat.min_le_left _ _
        refine wpAny_bind (SeqAt.eqBoolOverData prog w _ _ _ _ _ d1 e1 _ _ _ hu1 hv1 hl1.1 hl2.1 (by omega) ?_)
        cases hq : PyData.eqv d1 e1 with
        | true =>
          simp only [Bool.not_true, Bool.false_eq_true, if_false]
          refine wpAny_pure ⟨rfl, rfl, d2, e2, xr, yr, rfl, hx2, hy2, hl1.2, hl2.2, hd2, ?_, ?_, ?_⟩
          · rw [ordL, hq] at hor; exact hor
          · rw [← hc, cmpL, hq]; rfl
          · rw [← hn]; simp [opN]
        | false =>
          simp only [Bool.not_false, if_true]
          refine wpAny_bind (wpAny_rule (wpAny_bind ?_))
          refine ih d1 e1 _ _ _ _ _ _ hd1 hu1 hv1 hl1.1 hl2.1 hu ?_ ?_
          · rw [ordL, hq] at hor; exact hor
          · intro v hv
            have : cmpL .LtE ds es = v := by rw [← hc, cmpL, hq, hv]; rfl
            rw [this] at h
            exact wpAny_bind (wpAny_pure (wpAny_pure (wpAny_pure h)))
  · rintro ⟨r1, r2⟩ s' ⟨hr, rfl, d', e', xs', ys', hz, hx, hy, hl1, hl2, hd, hor, hc, hn⟩
    simp only at hr
    subst hr
    refine wpAny_pure ?_
    have hfin : opN .LtE xs.size ys.size = cmpL .LtE ds es := by
      rw [← hc, ← hn]
      cases d' with
      | nil =>
        rw [rdAll_nil hx]
        rw [cmpL]
        · rw [show ys'.length = e'.length from SeqAt.ReadsAll.length _ _ _ hy]; rfl
        · intro x xs y ys h1; cases h1
      | cons d1 d2 =>
        cases e' with
        | nil =>
          rw [rdAll_nil hy]
          rw [cmpL]
          · rw [show xs'.length = (d1 :: d2).length from SeqAt.ReadsAll.length _ _ _ hx]; rfl
          · intro x xs y ys h1 h2; cases h2
        | cons e1 e2 =>
          obtain ⟨u', xr, rfl, _, _⟩ := rdAll_cons hx
          obtain ⟨v', yr, rfl, _, _⟩ := rdAll_cons hy
          simp at hz
    show P (.done (.ret (.bool (opN .LtE xs.size ys.size)))) s'
    rw [hfin]; exact h

theorem tree_gt {A : Around} {s : Shared} {ds es : List PyData} {a b : Addr} {oa ob : Obj} {xs ys : Array Value} {na nb n : Nat} {P : Fin → Shared → Prop} (ih : CmpBelow prog w .Gt n)
    (ga : s.heap.get? a = some oa) (da : oa.data = .seq xs na) (gb : s.heap.get? b = some ob) (cb : ob.cls = .type "tuple") (db : ob.data = .seq ys nb)
    (ra : RdAll s.heap xs.toList ds) (rb : RdAll s.heap ys.toList es) (la : PyData.canLayAll0 ds = true) (lb : PyData.canLayAll0 es = true) (dp : PyData.depthAll ds < n) (hu : A.units + 2 * n + 2 < cLine) (ho : ordL ds es = true)
    (h : P (.done (.ret (.bool (cmpL .Gt ds es)))) s) :
    wpAny (model prog w) A (Builtin.«tuple.__gt__» ⟨[.ref a, .ref b], []⟩) P E s := by
  have hTb : s.TypeIs (.ref b) "tuple" := ⟨ob, gb, cb⟩
  show wpAny _ _ (isInstance (.ref b) (.type "tuple") >>= _) _ _ s
  refine wpAny_bind (wpAny_isInstance hTb isSubtype_tuple_tuple ?_)
  simp only [Bool.not_true, Bool.false_eq_true, if_false]
  refine wpAny_bind (wpAny_tupleItemsOf ga da ?_)
  refine wpAny_bind (wpAny_tupleItemsOf gb db ?_)
  refine wpAny_bind ?_
  refine wpAny_forIn_list _
    (fun rest r s' => r.1 = none ∧ s' = s ∧ ∃ d' e' xs' ys', rest = List.zip xs' ys' ∧ RdAll s.heap xs' d' ∧ RdAll s.heap ys' e' ∧ PyData.canLayAll0 d' = true ∧ PyData.canLayAll0 e' = true ∧ PyData.depthAll d' < n ∧ ordL d' e' = true ∧ cmpL .Gt d' e' = cmpL .Gt ds es ∧ opN .Gt xs'.length ys'.length = opN .Gt xs.size ys.size)
    _ ?_ ?_ _ _ ⟨rfl, rfl, ds, es, xs.toList, ys.toList, rfl, ra, rb, la, lb, dp, ho, rfl, by simp⟩
  · rintro ⟨u, v⟩ rest r s' ⟨hr, rfl, d', e', xs', ys', hz, hx, hy, hl1, hl2, hd, hor, hc, hn⟩
    cases d' with
    | nil => rw [rdAll_nil hx] at hz; simp at hz
    | cons d1 d2 =>
      cases e' with
      | nil => rw [rdAll_nil hy] at hz; simp at hz
      | cons e1 e2 =>
        obtain ⟨u', xr, rfl, hu1, hx2⟩ := rdAll_cons hx
        obtain ⟨v', yr, rfl, hv1, hy2⟩ := rdAll_cons hy
        simp only [List.zip_cons_cons, List.cons.injEq, Prod.mk.injEq] at hz
        obtain ⟨⟨rfl, rfl⟩, rfl⟩ := hz
        simp only [PyData.canLayAll0, Bool.and_eq_true] at hl1 hl2
        simp only [PyData.depthAll] at hd
        have hd1 : d1.depth < n := Nat.lt_of_le_of_lt (Nat.le_max_left _ _) hd
        have hd2 : PyData.depthAll d2 < n := Nat.lt_of_le_of_lt (Nat.le_max_right _ _) hd
        have hmin : min d1.depth e1.depth ≤ d1.depth := Nat.min_le_left _ _
        refine wpAny_bind (SeqAt.eqBoolOverData prog w _ _ _ _ _ d1 e1 _ _ _ hu1 hv1 hl1.1 hl2.1 (by omega) ?_)
        cases hq : PyData.eqv d1 e1 with
        | true =>
          simp only [Bool.not_true, Bool.false_eq_true, if_false]
          refine wpAny_pure ⟨rfl, rfl, d2, e2, xr, yr, rfl, hx2, hy2, hl1.2, hl2.2, hd2, ?_, ?_, ?_⟩
          · rw [ordL, hq] at hor; exact hor
          · rw [← hc, cmpL, hq]; rfl
          · rw [← hn]; simp [opN]
        | false =>
          simp only [Bool.not_false, if_true]
          refine wpAny_bind (wpAny_rule (wpAny_bind ?_))
          refine ih d1 e1 _ _ _ _ _ _ hd1 hu1 hv1 hl1.1 hl2.1 hu ?_ ?_
          · rw [ordL, hq] at hor; exact hor
          · intro v hv
            have : cmpL .Gt ds es = v := by rw [← hc, cmpL, hq, hv]; rfl
            rw [this] at h
            exact wpAny_bind (wpAny_pure (wpAny_pure (wpAny_pure h)))
  · rintro ⟨r1, r2⟩ s' ⟨hr, rfl, d', e', xs', ys', hz, hx, hy, hl1, hl2, hd, hor, hc, hn⟩
    simp only at hr
    subst hr
    refine wpAny_pure ?_
    have hfin : opN .Gt xs.size ys.size = cmpL .Gt ds es := by
      rw [← hc, ← hn]
      cases d' with
      | nil =>
        rw [rdAll_nil hx]
        rw [cmpL]
        · rw [show ys'.length = e'.length from SeqAt.ReadsAll.length _ _ _ hy]; rfl
        · intro x xs y ys h1; cases h1
      | cons d1 d2 =>
        cases e' with
        | nil =>
          rw [rdAll_nil hy]
          rw [cmpL]
          · rw [show xs'.length = (d1 :: d2).length from SeqAt.ReadsAll.length _ _ _ hx]; rfl
          · intro x xs y ys h1 h2; cases h2
        | cons e1 e2 =>
          obtain ⟨u', xr, rfl, _, _⟩ := rdAll_cons hx
          obtain ⟨v', yr, rfl, _, _⟩ := rdAll_cons hy
          simp at hz
    show P (.done (.ret (.bool (opN .Gt xs.size ys.size)))) s'
    rw [hfin]; exact h

theorem tree_ge {A : Around} {s : Shared} {ds es : List PyData} {a b : Addr} {oa ob : Obj} {xs ys : Array Value} {na nb n : Nat} {P : Fin → Shared → Prop} (ih : CmpBelow prog w .GtE n)
    (ga : s.heap.get? a = some oa) (da : oa.data = .seq xs na) (gb : s.heap.get? b = some ob) (cb : ob.cls = .type "tuple") (db : ob.data = .seq ys nb)
    (ra : RdAll s.heap xs.toList ds) (rb : RdAll s.heap ys.toList es) (la : PyData.canLayAll0 ds = true) (lb : PyData.canLayAll0 es = true) (dp : PyData.depthAll ds < n) (hu : A.units + 2 * n + 2 < cLine) (ho : ordL ds es = true)
    (h : P (.done (.ret (.bool (cmpL .GtE ds es)))) s) :
    wpAny (model prog w) A (Builtin.«tuple.__ge__» ⟨[.ref a, .ref b], []⟩) P E s := by
  have hTb : s.TypeIs (.ref b) "tuple" := ⟨ob, gb, cb⟩
  show wpAny _ _ (isInstance (.ref b) (.type "tuple") >>= _) _ _ s
  refine wpAny_bind (wpAny_isInstance hTb isSubtype_tuple_tuple ?_)
  simp only [Bool.not_true, Bool.false_eq_true, if_false]
  refine wpAny_bind (wpAny_tupleItemsOf ga da ?_)
  refine wpAny_bind (wpAny_tupleItemsOf gb db ?_)
  refine wpAny_bind ?_
  refine wpAny_forIn_list _
    (fun rest r s' => r.1 = none ∧ s' = s ∧ ∃ d' e' xs' ys', rest = List.zip xs' ys' ∧ RdAll s.heap xs' d' ∧ RdAll s.heap ys' e' ∧ PyData.canLayAll0 d' = true ∧ PyData.canLayAll0 e' = true ∧ PyData.depthAll d' < n ∧ ordL d' e' = true ∧ cmpL .GtE d' e' = cmpL .GtE ds es ∧ opN .GtE xs'.length ys'.length = opN .GtE xs.size ys.size)
    _ ?_ ?_ _ _ ⟨rfl, rfl, ds, es, xs.toList, ys.toList, rfl, ra, rb, la, lb, dp, ho, rfl, by simp⟩
  · rintro ⟨u, v⟩ rest r s' ⟨hr, rfl, d', e', xs', ys', hz, hx, hy, hl1, hl2, hd, hor, hc, hn⟩
    cases d' with
    | nil => rw [rdAll_nil hx] at hz; simp at hz
    | cons d1 d2 =>
      cases e' with
      | nil => rw [rdAll_nil hy] at hz; simp at hz
      | cons e1 e2 =>
        obtain ⟨u', xr, rfl, hu1, hx2⟩ := rdAll_cons hx
        obtain ⟨v', yr, rfl, hv1, hy2⟩ := rdAll_cons hy
        simp only [List.zip_cons_cons, List.cons.injEq, Prod.mk.injEq] at hz
        obtain ⟨⟨rfl, rfl⟩, rfl⟩ := hz
        simp only [PyData.canLayAll0, Bool.and_eq_true] at hl1 hl2
        simp only [PyData.depthAll] at hd
        have hd1 : d1.depth < n := Nat.lt_of_le_of_lt (Nat.le_max_left _ _) hd
        have hd2 : PyData.depthAll d2 < n := Nat.lt_of_le_of_lt (Nat.le_max_right _ _) hd
        have hmin : min d1.depth e1.depth ≤ d1.depth := Nat.min_le_left _ _
        refine wpAny_bind (SeqAt.eqBoolOverData prog w _ _ _ _ _ d1 e1 _ _ _ hu1 hv1 hl1.1 hl2.1 (by omega) ?_)
        cases hq : PyData.eqv d1 e1 with
        | true =>
          simp only [Bool.not_true, Bool.false_eq_true, if_false]
          refine wpAny_pure ⟨rfl, rfl, d2, e2, xr, yr, rfl, hx2, hy2, hl1.2, hl2.2, hd2, ?_, ?_, ?_⟩
          · rw [ordL, hq] at hor; exact hor
          · rw [← hc, cmpL, hq]; rfl
          · rw [← hn]; simp [opN]
        | false =>
          simp only [Bool.not_false, if_true]
          refine wpAny_bind (wpAny_rule (wpAny_bind ?_))
          refine ih d1 e1 _ _ _ _ _ _ hd1 hu1 hv1 hl1.1 hl2.1 hu ?_ ?_
          · rw [ordL, hq] at hor; exact hor
          · intro v hv
            have : cmpL .GtE ds es = v := by rw [← hc, cmpL, hq, hv]; rfl
            rw [this] at h
            exact wpAny_bind (wpAny_pure (wpAny_pure (wpAny_pure h)))
  · rintro ⟨r1, r2⟩ s' ⟨hr, rfl, d', e', xs', ys', hz, hx, hy, hl1, hl2, hd, hor, hc, hn⟩
    simp only at hr
    subst hr
    refine wpAny_pure ?_
    have hfin : opN .GtE xs.size ys.size = cmpL .GtE ds es := by
      rw [← hc, ← hn]
      cases d' with
      | nil =>
        rw [rdAll_nil hx]
        rw [cmpL]
        · rw [show ys'.length = e'.length from SeqAt.ReadsAll.length _ _ _ hy]; rfl
        · intro x xs y ys h1; cases h1
      | cons d1 d2 =>
        cases e' with
        | nil =>
          rw [rdAll_nil hy]
          rw [cmpL]
          · rw [show xs'.length = (d1 :: d2).length from SeqAt.ReadsAll.length _ _ _ hx]; rfl
          · intro x xs y ys h1 h2; cases h2
        | cons e1 e2 =>
          obtain ⟨u', xr, rfl, _, _⟩ := rdAll_cons hx
          obtain ⟨v', yr, rfl, _, _⟩ := rdAll_cons hy
          simp at hz
    show P (.done (.ret (.bool (opN .GtE xs.size ys.size)))) s'
    rw [hfin]; exact h

theorem cmpBelow_zero (op : CmpOp) : CmpBelow prog w op 0 := fun _ _ _ _ _ _ _ _ h => absurd h (Nat.not_lt_zero _)

theorem step_lt (n : Nat) (ih : CmpBelow prog w .Lt n) : CmpBelow prog w .Lt (n + 1) := by
  intro da db A E s a b Q hd ra rb la lb hu ho h
  cases da with
  | int i =>
    cases db with
    | int j => cases ra; cases rb; exact lt_int (E := E) (h _ rfl)
    | _ => simp [ordD] at ho
  | str x =>
    cases db with
    | str y => cases ra; cases rb; exact PyProof.Rows.lt_str (E := E) (h _ rfl)
    | _ => simp [ordD] at ho
  | tuple ds =>
    cases db with
    | tuple es =>
      obtain ⟨x, oa, xs, na, rfl, ga, ca, ea, ra'⟩ := rd_tup ra
      obtain ⟨y, ob, ys, nb, rfl, gb, cb, eb, rb'⟩ := rd_tup rb
      have hdep : PyData.depthAll ds < n := by simp only [PyData.depth] at hd; omega
      exact wpAny_richCompare_same_room (op := .Lt) ⟨oa, ga, ca⟩ ⟨ob, gb, cb⟩ PySem.F.slot_tuple_lt
        (wpAny_call_entry PySem.F.slot_tuple_lt ⟨oa, ga, ca⟩ PySem.F.entry_tuple_lt (tree_lt ih ga ea gb cb eb ra' rb' la lb hdep (by show A.units + 1 + 2 * n + 2 < cLine; omega) ho
          ⟨_, rfl, (fun e => nomatch e), h _ (by rw [cmpD])⟩) (PySem.F.args_tuple_lt_2 _ _)) (by omega)
    | _ => simp [ordD] at ho
  | _ => cases db <;> simp [ordD] at ho
theorem all_lt : ∀ n, CmpBelow prog w .Lt n
  | 0 => cmpBelow_zero _
  | n + 1 => step_lt n (all_lt n)

theorem step_le (n : Nat) (ih : CmpBelow prog w .LtE n) : CmpBelow prog w .LtE (n + 1) := by
  intro da db A E s a b Q hd ra rb la lb hu ho h
  cases da with
  | int i =>
    cases db with
    | int j => cases ra; cases rb; exact le_int (E := E) (h _ rfl)
    | _ => simp [ordD] at ho
  | str x =>
    cases db with
    | str y => cases ra; cases rb; exact PySem.P.le_str (E := E) (h _ rfl)
    | _ => simp [ordD] at ho
  | tuple ds =>
    cases db with
    | tuple es =>
      obtain ⟨x, oa, xs, na, rfl, ga, ca, ea, ra'⟩ := rd_tup ra
      obtain ⟨y, ob, ys, nb, rfl, gb, cb, eb, rb'⟩ := rd_tup rb
      have hdep : PyData.depthAll ds < n := by simp only [PyData.depth] at hd; omega
      exact wpAny_richCompare_same_room (op := .LtE) ⟨oa, ga, ca⟩ ⟨ob, gb, cb⟩ PySem.F.slot_tuple_le
        (wpAny_call_entry PySem.F.slot_tuple_le ⟨oa, ga, ca⟩ PySem.F.entry_tuple_le (tree_le ih ga ea gb cb eb ra' rb' la lb hdep (by show A.units + 1 + 2 * n + 2 < cLine; omega) ho
          ⟨_, rfl, (fun e => nomatch e), h _ (by rw [cmpD])⟩) (PySem.F.args_tuple_le_2 _ _)) (by omega)
    | _ => simp [ordD] at ho
  | _ => cases db <;> simp [ordD] at ho
theorem all_le : ∀ n, CmpBelow prog w .LtE n
  | 0 => cmpBelow_zero _
  | n + 1 => step_le n (all_le n)

theorem step_gt (n : Nat) (ih : CmpBelow prog w .Gt n) : CmpBelow prog w .Gt (n + 1) := by
  intro da db A E s a b Q hd ra rb la lb hu ho h
  cases da with
  | int i =>
    cases db with
    | int j => cases ra; cases rb; exact gt_int (E := E) (h _ rfl)
    | _ => simp [ordD] at ho
  | str x =>
    cases db with
    | str y => cases ra; cases rb; exact PySem.P.gt_str (E := E) (h _ rfl)
    | _ => simp [ordD] at ho
  | tuple ds =>
    cases db with
    | tuple es =>
      obtain ⟨x, oa, xs, na, rfl, ga, ca, ea, ra'⟩ := rd_tup ra
      obtain ⟨y, ob, ys, nb, rfl, gb, cb, eb, rb'⟩ := rd_tup rb
      have hdep : PyData.depthAll ds < n := by simp only [PyData.depth] at hd; omega
      exact wpAny_richCompare_same_room (op := .Gt) ⟨oa, ga, ca⟩ ⟨ob, gb, cb⟩ PySem.F.slot_tuple_gt
        (wpAny_call_entry PySem.F.slot_tuple_gt ⟨oa, ga, ca⟩ PySem.F.entry_tuple_gt (tree_gt ih ga ea gb cb eb ra' rb' la lb hdep (by show A.units + 1 + 2 * n + 2 < cLine; omega) ho
          ⟨_, rfl, (fun e => nomatch e), h _ (by rw [cmpD])⟩) (PySem.F.args_tuple_gt_2 _ _)) (by omega)
    | _ => simp [ordD] at ho
  | _ => cases db <;> simp [ordD] at ho
theorem all_gt : ∀ n, CmpBelow prog w .Gt n
  | 0 => cmpBelow_zero _
  | n + 1 => step_gt n (all_gt n)

theorem step_ge (n : Nat) (ih : CmpBelow prog w .GtE n) : CmpBelow prog w .GtE (n + 1) := by
  intro da db A E s a b Q hd ra rb la lb hu ho h
  cases da with
  | int i =>
    cases db with
    | int j => cases ra; cases rb; exact ge_int (E := E) (h _ rfl)
    | _ => simp [ordD] at ho
  | str x =>
    cases db with
    | str y => cases ra; cases rb; exact PySem.P.ge_str (E := E) (h _ rfl)
    | _ => simp [ordD] at ho
  | tuple ds =>
    cases db with
    | tuple es =>
      obtain ⟨x, oa, xs, na, rfl, ga, ca, ea, ra'⟩ := rd_tup ra
      obtain ⟨y, ob, ys, nb, rfl, gb, cb, eb, rb'⟩ := rd_tup rb
      have hdep : PyData.depthAll ds < n := by simp only [PyData.depth] at hd; omega
      exact wpAny_richCompare_same_room (op := .GtE) ⟨oa, ga, ca⟩ ⟨ob, gb, cb⟩ PySem.F.slot_tuple_ge
        (wpAny_call_entry PySem.F.slot_tuple_ge ⟨oa, ga, ca⟩ PySem.F.entry_tuple_ge (tree_ge ih ga ea gb cb eb ra' rb' la lb hdep (by show A.units + 1 + 2 * n + 2 < cLine; omega) ho
          ⟨_, rfl, (fun e => nomatch e), h _ (by rw [cmpD])⟩) (PySem.F.args_tuple_ge_2 _ _)) (by omega)
    | _ => simp [ordD] at ho
  | _ => cases db <;> simp [ordD] at ho
theorem all_ge : ∀ n, CmpBelow prog w .GtE n
  | 0 => cmpBelow_zero _
  | n + 1 => step_ge n (all_ge n)

end

end
section
open PySem.Calls Builtin Builtin.ObjectAttr
section
variable {prog : Program} {E : Value → Shared → Prop}
theorem vi_findIn (w : World) : findIn (hd.heap_39 w.params) (.ref 139) "__getattribute__" = some (some (.builtin "tuple.__getattribute__")) := by k_is
theorem tga_plain : plainId "tuple.__getattribute__" = true := by decide +kernel
theorem tga_kind : builtinKind "tuple.__getattribute__" = some .slot := by decide +kernel
theorem tga_split : splitId "tuple.__getattribute__" = some ("tuple", "__getattribute__") := by decide +kernel
theorem get_vi (w : World) {A : Around} {s : Shared} {x dx : Addr} {items : List Value} {es : List DictEntry} {n : Nat} {name : Str} {v : Value} {expr : Bool} {Q : Value → Shared → Prop}
    (X : (hd.heap_39 w.params).In s.heap) (hx : s.heap.get? x = some (viObj dx items)) (hdx : s.heap.get? dx = some (dictOf es n))
    (hl : getL name es = some (some v)) (ha : findIn (hd.heap_39 w.params) (.ref 139) name = some none) (hv : handedIn v = true) (h : Q v { s with toks := s.toks + 1 }) :
    wpAny (model prog w) A (getAttr (.ref x) name expr) Q E s := by
  have I : W.InstAt s.heap x (viObj dx items) 139 (some (dictOf es n)) := ⟨hx, rfl, rfl, hdx⟩
  have hf : findObj (hd.heap_39 w.params) 139 (some (dictOf es n)) name = some (.value v) := findObj_own (by k_is) ha rfl hl
  obtain ⟨hh, g, d, t, os⟩ := s
  have L0 := I.type (M := model prog w)
  have L1 := looks_findIn (M := model prog w) X (vi_findIn w)
  have L2 := looks_find (M := model prog w) X I hf
  have Lh : Looks (model prog w) hh (hookBefore (.ref 139)) none := looks_findIn X (by k_is)
  have Li : Looks (model prog w) hh (isInstance (.ref x) (.type "tuple")) true := L0.andThen (looks_mroIn X (by k_is))
  unfold getAttr getAttrBy
  refine wpAny_bind (wpAny_mkText (wpAny_holding (wpAny_bind (L0.at (wpAny_bind (L1.at ?_))))))
  show wpAny _ _ (getAttrByItsOwn (.ref x) (.str name t) (.ref 139) (.builtin "tuple.__getattribute__") true expr) _ _ _
  unfold getAttrByItsOwn
  refine wpAny_bind (Lh.at ?_)
  refine wpAny_bind (wpAny_attempt (wpAny_holding ?_))
  have hc : callGetattribute (.ref x) (.str name t) (.builtin "tuple.__getattribute__") expr = boundAndCalled (.builtin "tuple.__getattribute__") (.ref x) (.str name t) := by
    unfold callGetattribute
    cases expr <;> rfl
  rw [hc]
  unfold boundAndCalled
  rw [PySem.F.slot_tuple_getattribute.bind]
  refine wpAny_bind (wpAny_pure ?_)
  show wpAny _ _ (call (.builtin "tuple.__getattribute__") [.ref x, .str name t]) _ _ _
  refine wpAny_call ?_
  refine codeAny_call_builtin tga_plain am_entry_tuple_getattribute (@check_slot (model prog w) _ _ ⟨hh, g, d, t + 1, os⟩ "tuple.__getattribute__" "tuple" "__getattribute__" (.ref x) [.str name t] [] _ tga_kind tga_split Li (PySem.F.args_tuple_getattribute_2 _ _) ?_)
  unfold Builtin.«object.__getattribute__»
  refine wpAny_bind (wpAny_pure (wpAny_bind (wpAny_pure (wpAny_bind (L0.at (wpAny_bind (L2.at ?_)))))))
  refine wpAny_pure ?_
  show wpAny _ _ (handedOut v) _ _ _
  rw [handedOut_of hv]
  exact wpAny_pure h
end

end
section
theorem code_cells {prog : Program} {w : World} {A : Around} {s : Shared} {K : Frag} {p : Program} {loose : List Str} {mean : ExcName → Option Value} {mg mb : Str → Option Value} {R : Result → Shared → Prop} {name qual : Str} {params : Arguments} {body : List Stmt} {scope : Scope}
    {dV kV doc pm cdv ct oc : Value} {an od : Option Addr} {osl : Array (Option Value)} {f : Addr} {args : Args} {binds : List (Str × Value)} {news : List (Addr × Obj)} {ms : List Addr} (hms : news.map (·.1) = ms)
    (N₀ : ∀ q ∈ news, s.heap.get? q.1 = some q.2) (X : K.In (hideAll s.heap ms)) (T : Top p loose mean mg mb (hideAll s.heap ms)) (hroom : A.depth < recursionLimit)
    (ho : K.lookup f = some ⟨oc, od, .func (fnOf name qual params body scope dV kV doc pm an cdv ct), osl⟩) (hcd : codeIn K cdv qual = true)
    (hbind : BindsTo s (fnOf name qual params body scope dV kV doc pm an cdv ct) args binds) (hkind : (binds.all fun y => scope.names.lookup y.1 == some .local || scope.names.lookup y.1 == some .cell) = true)
    (hnd : ((cellsFrom 0 scope.names []).map (·.1)).Nodup)
    (h : ∀ h₁ tk cells, Fr (hideAll s.heap ms) s.heap.objs.size h₁ (bindL (envOfC qual scope s.heap.objs.size f cdv).kindOf binds fun _ => none) → News (hideAll s.heap ms) s.heap.objs.size h₁ (cells ++ news) →
      CellsAre (bindC (envOfC qual scope s.heap.objs.size f cdv).kindOf binds fun _ => none) (cellsFrom (s.heap.objs.size + 1) scope.names []) cells → Keep s.heap h₁ →
      wpAny (model prog w) (A.deeper (envOfC qual scope s.heap.objs.size f cdv)) (execs body (envOfC qual scope s.heap.objs.size f cdv))
        (fun fl s' => R (.ok (.ret (match fl with | .ret v => v | _ => .none))) s') (fun _ _ => False)
        { s with heap := h₁, toks := tk })
    (hco : scope.isCoroutine = false) (hgen : scope.isGenerator = false) (hk : scope.kind = .function) : codeAny (model prog w) A (.call (.ref f) args) R s := by
  have un : ∀ b o', (hideAll s.heap ms).get? b = some o' → s.heap.get? b = some o' := fun b o' e => of_hideAll _ e
  subst hms
  refine codeAny_call_function hroom (un _ _ (X _ _ ho)) rfl hco hgen rfl ((codeRec_of X hcd).keeps un) (hbind _ _ _ _ ?_)
  refine wpAny_newFunctionEnv_cells hk (kindsX hkind _) fun env' he s' x => ?_
  subst he
  refine ⟨(T.nolimit.keeps un).keeps x.toInCall.keep, codeAny_func ?_⟩
  obtain ⟨h₁, tk, rfl, _⟩ := x.done
  have hk₁ := x.toInCall.keep
  obtain ⟨cells, NC, Y⟩ := Cl.news (h₀ := s.heap) (Nat.le_refl _) fun n c hm => ⟨x.cell n c (lookup_of_mem_nodup (cellsFrom_names scope.names 0 (s.heap.objs.size + 1) [] [] rfl ▸ hnd) hm), x.above n c hm⟩
  refine wpAny_mono (h h₁ tk cells ⟨x.toInCall.ns, fun b o e => hk₁ b o (of_hideAll _ e), Nat.le_of_eq (hideAll_size _ _)⟩ (fun q hq => ?_) Y hk₁) (fun fl s' hl => hl) fun _ _ y => y.elim
  rcases List.mem_append.mp hq with hq | hq
  · refine ⟨(NC q hq).1, (NC q hq).2.1, ?_⟩
    cases e : (hideAll s.heap (news.map (·.1))).get? q.1 with
    | none => rfl
    | some o => have := of_hideAll _ e; rw [(NC q hq).2.2] at this; cases this
  · exact ⟨hk₁ _ _ (N₀ q hq), Nat.ne_of_lt (Heap.lt_size (N₀ q hq)), hideAll_none _ (List.mem_map_of_mem hq)⟩

def IsCmp (w : World) (params : Arguments) (body : List Stmt) (scope : Scope) : Prop := ∃ oc od name qual ps sc dV kV doc pm an cdv ct osl nm pos rest,
  (hd.heap_39 w.params).lookup 46 = some ⟨oc, od, .func (fnOf name qual ps (Stmt.FunctionDef nm params body [] none [] scope none nm pos :: rest) sc dV kV doc pm an cdv ct), osl⟩
def CompAt (w : World) (h : Heap) (c : Addr) (f : Value) : Prop := ∃ params body scope qual cell o c' doc pm ctv, IsCmp w params body scope ∧
  h.get? c = some (fnMade (Str.ofString "compare") qual params body scope [(Str.ofString "op", cell)] doc pm c' ctv) ∧ h.get? cell = some o ∧ o.data = .cell (some f) ∧ h.CodeRec (.ref c') qual
def cmpQual : Str := Str.ofString "_version_comparison.<locals>.compare"
def TabAt (h : Heap) : Prop := ∃ c', h.get? 41 = some (tabObj #[rawInt 13, rawInt 4, .ref c']) ∧ h.CodeRec (.ref c') cmpQual
theorem CompAt.keeps {w : World} {h h' : Heap} {c : Addr} {f : Value} (k : Keep h h') (x : CompAt w h c f) : CompAt w h' c f :=
  let ⟨a1, a2, a3, a4, a5, a6, a7, a8, a9, a10, b1, b2, b3, b4, b5⟩ := x; ⟨a1, a2, a3, a4, a5, a6, a7, a8, a9, a10, b1, k _ _ b2, k _ _ b3, b4, b5.keeps k⟩
theorem TabAt.keeps {h h' : Heap} (k : Keep h h') (x : TabAt h) : TabAt h' := let ⟨a, b, c⟩ := x; ⟨a, k _ _ b, c.keeps k⟩
theorem c46a (w : World) {dp un fr gd} {p loose mean mg mb} (hdp : dp + 4 < 800) (hun : un + 100 < 8000) {s : Shared} (h41 : s.heap.get? 41 = some (tabObj #[]))
    (X : (hd.heap_39 w.params).In (hideAll s.heap [41])) (T : Top p loose mean mg mb (hideAll s.heap [41])) (C : CodeHd (hideAll s.heap [41]) 45 41) (f : Value)
   {R : Result → Shared → Prop} (hret : ∀ c h' tk, (∀ b o, b ≠ 41 → s.heap.get? b = some o → h'.get? b = some o) → TabAt h' → CompAt w h' c f → R (.ok (.ret (.ref c))) { s with heap := h', toks := tk }) :
   codeAny (model PySem.Challenge.pw_ep5037_01 w) (ar dp un fr gd) (.call (.ref 46) ⟨[f], []⟩) R s := by
  have hA : dp < recursionLimit := by (show dp < 1000); omega
  refine' code_cells (news := [(41, tabObj #[])]) (ms := [41]) rfl (fun q hq => by rw [List.mem_singleton.mp hq]; exact h41) X T hA ?k6 ?k7 ?k9 ?kB ?kD ?_ ?c2 ?c3 ?c4
  case k6 => k_is
  case k7 => k_is
  case k9 => exact BindsTo.of_eq rfl
  case kB => exact rfl
  case kD => decide +kernel
  case c2 => exact rfl
  case c3 => exact rfl
  case c4 => exact rfl
  intro h1 tk cells F N Y kh
  k_cells Y
  try simp only [List.cons_append, List.nil_append] at N
  try dsimp only
  have l41 : (41 : Nat) < s.heap.objs.size := Heap.lt_size h41
  k_unmd
  k_fold
  k_steps
  (rename News _ _ _ _ => N9)
  refine hret _ _ _ (fun b o hb e => Fr.keep (by k_asm) b o (hideAll_get _ e (fun hm => hb (List.mem_singleton.mp hm)))) ⟨_, N9.get (by k_mem), codeRec_news N9 (by k_mem) (by assumption) (by assumption)⟩
    ⟨_, _, _, _, _, _, _, _, _, _, ⟨_, _, _, _, _, _, _, _, _, _, _, _, _, _, _, _, _, by k_is⟩, N9.get (List.Mem.head _), N9.get (by k_mem), by assumption, codeRec_news N9 (by k_mem) (by assumption) (by assumption)⟩

end
section
theorem c46b (w : World) {dp un fr gd} {p loose mean mg mb} (hdp : dp + 4 < 800) (hun : un + 100 < 8000) {s : Shared} (TB : TabAt s.heap)
    (X : (hd.heap_39 w.params).In (hideAll s.heap [41])) (T : Top p loose mean mg mb (hideAll s.heap [41])) (C : CodeHd (hideAll s.heap [41]) 45 41) (f : Value)
   {R : Result → Shared → Prop} (hret : ∀ c h' tk, Keep s.heap h' → CompAt w h' c f → R (.ok (.ret (.ref c))) { s with heap := h', toks := tk }) :
   codeAny (model PySem.Challenge.pw_ep5037_01 w) (ar dp un fr gd) (.call (.ref 46) ⟨[f], []⟩) R s := by
  obtain ⟨c0, h41, hcr⟩ := TB
  have hA : dp < recursionLimit := by (show dp < 1000); omega
  refine' code_cells (news := [(41, tabObj #[rawInt 13, rawInt 4, .ref c0])]) (ms := [41]) rfl (fun q hq => by rw [List.mem_singleton.mp hq]; exact h41) X T hA ?k6 ?k7 ?k9 ?kB ?kD ?_ ?c2 ?c3 ?c4
  case k6 => k_is
  case k7 => k_is
  case k9 => exact BindsTo.of_eq rfl
  case kB => exact rfl
  case kD => decide +kernel
  case c2 => exact rfl
  case c3 => exact rfl
  case c4 => exact rfl
  intro h1 tk cells F N Y kh
  k_cells Y
  try simp only [List.cons_append, List.nil_append] at N
  try dsimp only
  have l41 : (41 : Nat) < s.heap.objs.size := Heap.lt_size h41
  k_unmd
  k_fold
  k_steps
  (rename News _ _ _ _ => N9)
  refine hret _ _ _ (fun b o e => ?_)
    ⟨_, _, _, _, _, _, _, _, _, _, ⟨_, _, _, _, _, _, _, _, _, _, _, _, _, _, _, _, _, by k_is⟩, N9.get (List.Mem.head _), N9.get (by k_mem), by assumption, ?_⟩
  · by_cases hb : b = 41
    · subst hb; rw [h41] at e; cases e; exact N9.get (by k_mem)
    · exact Fr.keep (by k_asm) b o (hideAll_get _ e (fun hm => hb (List.mem_singleton.mp hm)))
  · refine Heap.CodeRec.keeps hcr (fun b o e => ?_)
    by_cases hb : b = 41
    · subst hb; rw [h41] at e; cases e; exact N9.get (by k_mem)
    · exact Fr.keep (by k_asm) b o (hideAll_get _ e (fun hm => hb (List.mem_singleton.mp hm)))

end
section
section
variable {prog : Program} {w : World} {A : Around} {s : Shared} {R : Result → Shared → Prop}
theorem code_clo {p : Program} {loose : List Str} {mg mb : Str → Option Value} {name qual : Str} {params : Arguments} {body : List Stmt} {scope : Scope} {cl : List (Str × Addr)}
    {doc pm cdv ctv : Value} {f : Addr} {args : Args} {binds : List (Str × Value)} (T : TopRead p loose mg mb s.heap) (hroom : A.depth < recursionLimit)
    {oc : Value} {od : Option Addr} {sl : Array (Option Value)} (ho : s.heap.get? f = some ⟨oc, od, .func (fnX name qual params body scope cl .none .none doc pm none cdv ctv), sl⟩) (hcd : s.heap.CodeRec cdv qual)
    (hbind : BindsTo s (fnX name qual params body scope cl .none .none doc pm none cdv ctv) args binds) (hloc : ∀ y ∈ binds, scope.names.lookup y.1 = some .local)
    (h : ∀ h₁, Fr s.heap s.heap.objs.size h₁ (fun y => binds.reverse.lookup y) → News s.heap s.heap.objs.size h₁ [] →
      wpAny (model prog w) (A.deeper (envX qual scope s.heap.objs.size f cdv cl)) (execs body (envX qual scope s.heap.objs.size f cdv cl))
        (fun fl s' => R (.ok (.ret (match fl with | .ret v => v | _ => .none))) s') (fun _ _ => False)
        { s with heap := h₁, toks := s.toks + binds.length })
    (hco : scope.isCoroutine = false) (hgen : scope.isGenerator = false) (hk : scope.kind = .function)
    (hcell : ∀ x ∈ scope.names, x.2 ≠ .cell) : codeAny (model prog w) A (.call (.ref f) args) R s := by
  refine codeAny_call_def (fd := fnX name qual params body scope cl .none .none doc pm none cdv ctv) (body := body) (binds := binds) hroom ho rfl T.nolimit hcd rfl hbind hcell hloc (fun h₁ hns hk₁ => ?_) hco hgen hk
  exact wpAny_mono (h h₁ ⟨hns, hk₁, Nat.le_refl _⟩ News.nil) (fun fl s' hl => hl) fun _ _ y => y.elim
theorem nameX_base {h₀ : Heap} {L a : Addr} {m : Str → Option Value} {cn : Str} {cs : Scope} {ccd : Value} {cl : List (Str × Addr)} {x : Str} {pos : Pos} {v : Value} {Q : Value → Shared → Prop} {E : Value → Shared → Prop} {c : Addr} {o : Obj}
    (F : Fr h₀ L s.heap m) (ho : h₀.get? c = some o) (hd : o.data = .cell (some v)) (hc : cl.lookup x = some c) (h : Q v s)
    (hk : cs.kind = .function) (hx : (envX cn cs L a ccd cl).kindOf x = some .free) (hb : (x == ("__debug__" : Str)) = false) (hn : (x == ("__classdict__" : Str)) = false) :
    wpAny (model prog w) A (eval (.Name x pos) (envX cn cs L a ccd cl)) Q E s := wpAny_Name (wpAny_loadName_free hk hx hc ⟨_, F.keep _ _ ho, hd⟩ h hn) hb
end
def KeepOk (K : Frag) (f : Value) : Prop := ∀ (M : Model) (h : Heap), K.In h → ∃ k, (k = Keeper.frame ∨ k = Keeper.machine ∨ k = Keeper.boundFrame) ∧ Looks M h (keeperOf f) k
theorem KeepOk.builtin {K : Frag} (i : String) : KeepOk K (.builtin i) := fun _ _ _ => ⟨.machine, .inr (.inl rfl), .now⟩
theorem KeepOk.fn {K : Frag} {f : Value} (e : keepIn K f = true) : KeepOk K f := fun _ _ X => let ⟨k, hk, L⟩ := looks_keep e X; ⟨k, hk.elim .inl (fun q => .inr (.inl q)), L⟩
theorem callWith_G {K : Frag} {M : Model} {A : Around} {s : Shared} {f : Value} {pos : Pos} {first : List Value} {env : Env} {Q : Value → Shared → Prop} {E : Value → Shared → Prop} {e : Expr} {rest : List Expr} (hf : KeepOk K f)
    (h : wpAny M A (spliced (backTo pos (starEach (e :: rest) env))) (fun vs s₁ => K.In s₁.heap ∧ wpAny M A (call f (first ++ vs)) Q E s₁) E s)
    (he : starEach (e :: rest) env = (false, eval e env) :: starEach rest env) (hplain : (backTo pos (starEach rest env)).any (·.1) = false) :
    wpAny M A (callWith pos f first (backTo pos (starEach (e :: rest) env)) []) Q E s := by
  rw [he] at h ⊢
  exact callWith_of (by show ((false || (backTo pos (starEach rest env)).any (·.1)) || false) = false; rw [hplain]; rfl) (hf M) (PySem.Calls.evalArgs_plain h)
local macro_rules | `(tactic| walk_at "callWith") => `(tactic| (k_here; k_dflt (refine' callWith_G ?hf ?_ ?he ?hp; (case hf => assumption); (case he => exact rfl); (case hp => exact rfl); k_whole)))
local macro_rules | `(tactic| walk_at "eval Name") => `(tactic| (k_here; k_dflt (refine' nameX_base ?F ?ho ?hd ?hc ?_ ?hk ?hx ?hb ?hn; (case hc => exact rfl); (case hk => exact rfl); (case hx => exact rfl); (case hb => decide); (case hn => decide); (case F => k_asm); (case ho => assumption); (case hd => assumption); k_whole)))
local macro_rules | `(tactic| walk_at "getAttr") => `(tactic| (k_here; (with_reducible show wpAny _ _ (getAttr (Value.ref _) _ _) _ _ _); k_dflt (refine' get_vi _ ?X ?hx ?hd ?hl ?ha ?hv ?_); (case X => exact Frag.In.keeps (by assumption) (Fr.keep (by k_asm))); (case hx => exact Fr.keep (by k_asm) _ _ (by assumption)); (case hd => exact Fr.keep (by k_asm) _ _ (by assumption)); (case hl => assumption); (case ha => k_is); (case hv => exact rfl); k_whole))
local macro_rules | `(tactic| walk_at "call builtin:isinstance") => `(tactic| (k_here; k_dflt (refine' isi_call ?k1 ?k2 ?k3 ?k4 ?_; (case k1 => exact Frag.In.keeps (by assumption) (Fr.keep (by k_asm))); (case k2 => (intro M; exact (Looks.ld (Fr.keep (by k_asm) _ _ (by assumption))).andThen .now)); (case k3 => k_is); (case k4 => intro e; cases e); k_whole)))
theorem ccmp_a (w : World) {dp un fr gd} {p loose mg mb} (hdp : dp + 30 < 800) (hun : un + 300 < 8000) {s : Shared} (X : (hd.heap_39 w.params).In s.heap) (T : TopRead p loose mg mb s.heap) {c x y : Addr} {f : Value} {dk dl : PyData} (hkf : KeepOk (hd.heap_39 w.params) f) (hc : CompAt w s.heap c f) (hx : VerAt s.heap x dk) (hy : VerAt s.heap y dl)
   {R : Result → Shared → Prop} (hcall : ∀ kx ky h' tk fr', Keep s.heap h' → Rd h' (.ref kx) dk → Rd h' (.ref ky) dl → wpAny (model PySem.Challenge.pw_ep5037_01 w) (ar (dp + 1) (un + 3) fr' gd) (call f [.ref kx, .ref ky]) (fun v s' => R (.ok (.ret v)) s') (fun _ _ => False) { s with heap := h', toks := tk }) :
   codeAny (model PySem.Challenge.pw_ep5037_01 w) (ar dp un fr gd) (.call (.ref c) ⟨[.ref x, .ref y], []⟩) R s := by
  obtain ⟨params, body, scope, qual, cell, o, c', doc, pm, ctv, hI, hcg, hcell, hcd, hrec⟩ := hc
  obtain ⟨oc, od, name, qualn, ps, sc, dV, kV, docn, pmn, an, cdv, ct, osl, nm, pos, rest, hlk⟩ := hI
  have e := hlk.symm.trans (by k_is)
  cases e
  clear hlk
  obtain ⟨dx, itx, esx, nx, kx, x1, x2, x3, x4⟩ := hx
  obtain ⟨dy, ity, esy, ny, ky, y1, y2, y3, y4⟩ := hy
  have hA : dp < recursionLimit := by (show dp < 1000); omega
  refine' code_clo T hA hcg hrec ?k9 ?kB ?_ ?c2 ?c3 ?c4 ?c5
  case k9 => exact BindsTo.of_eq rfl
  case kB => exact locs rfl
  case c2 => exact rfl
  case c3 => exact rfl
  case c4 => exact rfl
  case c5 => decide
  intro h1 F N
  try dsimp only
  try k_unmd
  k_fold
  k_steps
  exact hcall _ _ _ _ _ (Fr.keep (by k_asm)) (Rd.keeps (Fr.keep (by k_asm)) x4) (Rd.keeps (Fr.keep (by k_asm)) y4)

end
section
def BoolPost (s : Shared) (b : Bool) (v : Value) (s' : Shared) : Prop := ∃ h' tk, v = .bool b ∧ s' = ⟨h', s.gens, s.drawn, tk, s.os⟩ ∧ Keep s.heap h'
local macro_rules | `(tactic| x_close) => `(tactic| exact ⟨_, _, rfl, rfl, by first | exact Keep.rfl | exact keep_of_mem (by assumption)⟩)
section
variable (w : World) {s : Shared} (X : (hd.heap_39 w.params).In s.heap)
include X
theorem isi1 {y : Addr} {d : Option Addr} {it : Array Value} {n : Nat} {sl : Array (Option Value)} (hy : s.heap.get? y = some ⟨.type "tuple", d, .seq it n, sl⟩) :
    wpAny (model PySem.Challenge.pw_ep5037_01 w) roomA (call (.builtin "isinstance") [.ref y, .ref 139] []) (BoolPost s false) (fun _ _ => False) s := by
  x_run
theorem isi2 {y : Addr} {d : Option Addr} {it : Array Value} {n : Nat} {sl : Array (Option Value)} (hy : s.heap.get? y = some ⟨.type "tuple", d, .seq it n, sl⟩) :
    wpAny (model PySem.Challenge.pw_ep5037_01 w) roomA (call (.builtin "isinstance") [.ref y, .type "tuple"] []) (BoolPost s true) (fun _ _ => False) s := by
  x_run
theorem isiA : wpAny (model PySem.Challenge.pw_ep5037_01 w) roomA (call (.builtin "isinstance") [.ref 160, .ref 139] []) (BoolPost s false) (fun _ _ => False) s := by
  x_run
theorem isiA' : wpAny (model PySem.Challenge.pw_ep5037_01 w) roomA (call (.builtin "isinstance") [.ref 160, .type "tuple"] []) (BoolPost s false) (fun _ _ => False) s := by
  x_run
theorem isiB : wpAny (model PySem.Challenge.pw_ep5037_01 w) roomA (call (.builtin "isinstance") [.ref 161, .ref 139] []) (BoolPost s false) (fun _ _ => False) s := by
  x_run
theorem isiB' : wpAny (model PySem.Challenge.pw_ep5037_01 w) roomA (call (.builtin "isinstance") [.ref 161, .type "tuple"] []) (BoolPost s false) (fun _ _ => False) s := by
  x_run
end

end
section
local macro_rules | `(tactic| walk_at "callWith") => `(tactic| (k_here; k_dflt (refine' callWith_G ?hf ?_ ?he ?hp; (case hf => assumption); (case he => exact rfl); (case hp => exact rfl); k_whole)))
local macro_rules | `(tactic| walk_at "eval Name") => `(tactic| (k_here; k_dflt (refine' nameX_base ?F ?ho ?hd ?hc ?_ ?hk ?hx ?hb ?hn; (case hc => exact rfl); (case hk => exact rfl); (case hx => exact rfl); (case hb => decide); (case hn => decide); (case F => k_asm); (case ho => assumption); (case hd => assumption); k_whole)))
local macro_rules | `(tactic| walk_at "getAttr") => `(tactic| (k_here; (with_reducible show wpAny _ _ (getAttr (Value.ref _) _ _) _ _ _); k_dflt (refine' get_vi _ ?X ?hx ?hd ?hl ?ha ?hv ?_); (case X => exact Frag.In.keeps (by assumption) (Fr.keep (by k_asm))); (case hx => exact Fr.keep (by k_asm) _ _ (by assumption)); (case hd => exact Fr.keep (by k_asm) _ _ (by assumption)); (case hl => assumption); (case ha => k_is); (case hv => exact rfl); k_whole))
local macro_rules | `(tactic| walk_at "call builtin:isinstance") => `(tactic| (k_here; k_dflt (refine' isi_call ?k1 ?k2 ?k3 ?k4 ?_; (case k1 => exact Frag.In.keeps (by assumption) (Fr.keep (by k_asm))); (case k2 => (intro M; exact (Looks.ld (Fr.keep (by k_asm) _ _ (by assumption))).andThen .now)); (case k3 => k_is); (case k4 => intro e; cases e); k_whole)))

local macro_rules | `(tactic| walk_at "call builtin:isinstance") => `(tactic| (k_here; (with_reducible show wpAny _ _ (call _ [Value.ref _, Value.ref 139]) _ _ _); k_dflt (refine' wpAny_mono (wpAny_room rfl ?d ?u (isi1 _ ?X ?hy)) ?_ (fun _ _ e => e.elim)); (case d => tb_start); (case u => tb_start); (case X => exact Frag.In.keeps (by assumption) (Fr.keep (by k_asm))); (case hy => exact Fr.keep (by k_asm) _ _ (by assumption)); (intro v' s' H'); (obtain ⟨h', tk', e1', e2', kp'⟩ := H'); (subst e1'); (subst e2'); (have F' := Fr.kept (by k_asm) kp'); (have N' := News.grown (by k_asm) kp'); (try dsimp only); (try k_sweep)))
local macro_rules | `(tactic| walk_at "call builtin:isinstance") => `(tactic| (k_here; (with_reducible show wpAny _ _ (call _ [Value.ref _, Value.type _]) _ _ _); k_dflt (refine' wpAny_mono (wpAny_room rfl ?d ?u (isi2 _ ?X ?hy)) ?_ (fun _ _ e => e.elim)); (case d => tb_start); (case u => tb_start); (case X => exact Frag.In.keeps (by assumption) (Fr.keep (by k_asm))); (case hy => exact Fr.keep (by k_asm) _ _ (by assumption)); (intro v' s' H'); (obtain ⟨h', tk', e1', e2', kp'⟩ := H'); (subst e1'); (subst e2'); (have F' := Fr.kept (by k_asm) kp'); (have N' := News.grown (by k_asm) kp'); (try dsimp only); (try k_sweep)))
local macro_rules | `(tactic| walk_at "call builtin:isinstance") => `(tactic| (k_here; (with_reducible show wpAny _ _ (call _ [Value.ref 160, Value.ref 139]) _ _ _); k_dflt (refine' wpAny_mono (wpAny_room rfl ?d ?u (isiA _ ?X)) ?_ (fun _ _ e => e.elim)); (case d => tb_start); (case u => tb_start); (case X => exact Frag.In.keeps (by assumption) (Fr.keep (by k_asm))); (intro v' s' H'); (obtain ⟨h', tk', e1', e2', kp'⟩ := H'); (subst e1'); (subst e2'); (have F' := Fr.kept (by k_asm) kp'); (have N' := News.grown (by k_asm) kp'); (try dsimp only); (try k_sweep)))
local macro_rules | `(tactic| walk_at "call builtin:isinstance") => `(tactic| (k_here; (with_reducible show wpAny _ _ (call _ [Value.ref 160, Value.type _]) _ _ _); k_dflt (refine' wpAny_mono (wpAny_room rfl ?d ?u (isiA' _ ?X)) ?_ (fun _ _ e => e.elim)); (case d => tb_start); (case u => tb_start); (case X => exact Frag.In.keeps (by assumption) (Fr.keep (by k_asm))); (intro v' s' H'); (obtain ⟨h', tk', e1', e2', kp'⟩ := H'); (subst e1'); (subst e2'); (have F' := Fr.kept (by k_asm) kp'); (have N' := News.grown (by k_asm) kp'); (try dsimp only); (try k_sweep)))
local macro_rules | `(tactic| walk_at "call builtin:isinstance") => `(tactic| (k_here; (with_reducible show wpAny _ _ (call _ [Value.ref 161, Value.ref 139]) _ _ _); k_dflt (refine' wpAny_mono (wpAny_room rfl ?d ?u (isiB _ ?X)) ?_ (fun _ _ e => e.elim)); (case d => tb_start); (case u => tb_start); (case X => exact Frag.In.keeps (by assumption) (Fr.keep (by k_asm))); (intro v' s' H'); (obtain ⟨h', tk', e1', e2', kp'⟩ := H'); (subst e1'); (subst e2'); (have F' := Fr.kept (by k_asm) kp'); (have N' := News.grown (by k_asm) kp'); (try dsimp only); (try k_sweep)))
local macro_rules | `(tactic| walk_at "call builtin:isinstance") => `(tactic| (k_here; (with_reducible show wpAny _ _ (call _ [Value.ref 161, Value.type _]) _ _ _); k_dflt (refine' wpAny_mono (wpAny_room rfl ?d ?u (isiB' _ ?X)) ?_ (fun _ _ e => e.elim)); (case d => tb_start); (case u => tb_start); (case X => exact Frag.In.keeps (by assumption) (Fr.keep (by k_asm))); (intro v' s' H'); (obtain ⟨h', tk', e1', e2', kp'⟩ := H'); (subst e1'); (subst e2'); (have F' := Fr.kept (by k_asm) kp'); (have N' := News.grown (by k_asm) kp'); (try dsimp only); (try k_sweep)))

local macro_rules | `(tactic| walk_at "call ref") => `(tactic| (k_here; (with_reducible show wpAny _ _ (call (Value.ref 39) _) _ _ _); k_dflt (refine' wpAny_call (c39 _ ?d ?u ?X ?T ?r ?pre ?post ?dev ?_)); (case d => tb_start); (case u => tb_start); (case X => exact Frag.In.keeps (by assumption) (Fr.keep (by k_asm))); (case T => exact TopRead.keeps (by assumption) (Fr.keep (by k_asm))); (case r => kqd_in); (case pre => tb_rel); (case post => first | exact OptV.no | assumption); (case dev => first | exact OptV.no | assumption); (intro v' h' tk' kp' rd'); (have F' := Fr.kept (by k_asm) kp'); (have N' := News.grown (by k_asm) kp'); (try dsimp only)))

/-- all that is no dict stays -/
def KeepN (h h' : Heap) : Prop := ∀ b o, (∀ es n, o.data ≠ .dict es n) → h.get? b = some o → h'.get? b = some o
section
variable {h h' : Heap}
mutual
theorem Rd.keepN (hs : KeepN h h') : ∀ (d : PyData) (v : Value), Rd h v d → Rd h' v d
  | .none, _, r => by cases r; exact Reads.none
  | .bool b, _, r => by cases r; exact Reads.bool b
  | .int i, _, r => by cases r; exact Reads.int i _
  | .str x, _, r => by cases r; exact Reads.str x _
  | .tuple ds, _, r => by
    generalize ha : ([] : List Addr) = as0 at r
    unfold Rd at r
    rw [ha] at r
    cases r with
    | tuple h1 h2 h3 h4 =>
      subst ha
      exact Rd.tup (hs _ _ (fun es n q => by rw [h3] at q; cases q) h1) h2 h3 (RdAll.keepN hs ds _ h4)
  | .list ds, _, r => by
    generalize ha : ([] : List Addr) = as0 at r
    unfold Rd at r
    rw [ha] at r
    cases r with
    | list h1 h2 h3 h4 => cases ha
  | .dict ds, _, r => by
    generalize ha : ([] : List Addr) = as0 at r
    unfold Rd at r
    rw [ha] at r
    cases r with
    | dict h1 h2 h3 h4 h5 => cases ha
theorem RdAll.keepN (hs : KeepN h h') : ∀ (ds : List PyData) (vs : List Value), RdAll h vs ds → RdAll h' vs ds
  | [], _, r => by cases r; exact ReadsAll.nil
  | d :: ds, _, r => by
    unfold RdAll at r
    generalize ha : ([] : List Addr) = as0 at r
    cases r with
    | cons h1 h2 =>
      obtain ⟨q1, q2⟩ := List.append_eq_nil_iff.mp ha.symm
      subst q1 q2
      exact RdAll.cons (Rd.keepN hs d _ h1) (RdAll.keepN hs ds _ h2)
end
end
theorem storeX_N {M : Model} {A : Around} {E : Value → Shared → Prop} {s : Shared} {h₀ : Heap} {L a : Addr} {m : Str → Option Value} {cn : Str} {cs : Scope} {ccd : Value} {cl : List (Str × Addr)}
  {x : Str} {v : Value} {Q : Unit → Shared → Prop} {news : List (Addr × Obj)} (F : Fr h₀ L s.heap m) (N : News h₀ L s.heap news)
    (h : ∀ h', Fr h₀ L h' (fun y => if y = x then some v else m y) → News h₀ L h' news → KeepN s.heap h' → Q () { s with heap := h', toks := s.toks + 1 })
    (hk : cs.kind = .function := by rfl) (hx : (envX cn cs L a ccd cl).kindOf x = some .local := by rfl) : wpAny M A (storeName (envX cn cs L a ccd cl) x v) Q E s :=
  wpAny_storeName_local hx F.ns (fun h' hn hs => h h' (F.set hn hs) (N.set hs) (fun b o ho e => (hs.2 b (fun q => by obtain ⟨oL, es, ep, e1, e2, _⟩ := F.ns; rw [q, e1] at e; cases e; exact ho _ _ e2)).trans e)) (by show (cs.kind == .class || (cs.kind == .module && L != mainGlobals)) = false; rw [hk]; rfl)

local macro_rules | `(tactic| walk_at "storeName") => `(tactic| (k_here; k_dflt (refine' storeX_N ?F ?N ?_ ?a ?b; (case F => k_asm); (case N => k_asm); (case a => rfl); (case b => rfl); k_whole; intro h' F' N' kn'; (have rd' := Rd.keepN kn' _ _ (by assumption)); (try k_sweep))))

theorem ccmp_b (w : World) {dp un fr gd} {p loose mg mb} (hdp : dp + 30 < 800) (hun : un + 300 < 8000) {s : Shared} (X : (hd.heap_39 w.params).In s.heap) (T : TopRead p loose mg mb s.heap) {c x y : Addr} {f : Value} {dk dl : PyData} {ity : Array Value} (hkf : KeepOk (hd.heap_39 w.params) f) (hc : CompAt w s.heap c f) (hx : VerAt s.heap x dk) (hy : IsTup s.heap y ity) (hyd : Rd s.heap (.ref y) dl)
   {R : Result → Shared → Prop} (hcall : ∀ kx ky h' tk fr', Keep s.heap h' → Rd h' (.ref kx) dk → Rd h' (.ref ky) (keyD dl none none none) → wpAny (model PySem.Challenge.pw_ep5037_01 w) (ar (dp + 1) (un + 3) fr' gd) (call f [.ref kx, .ref ky]) (fun v s' => R (.ok (.ret v)) s') (fun _ _ => False) { s with heap := h', toks := tk }) :
   codeAny (model PySem.Challenge.pw_ep5037_01 w) (ar dp un fr gd) (.call (.ref c) ⟨[.ref x, .ref y], []⟩) R s := by
  obtain ⟨params, body, scope, qual, cell, o, c', doc, pm, ctv, hI, hcg, hcell, hcd, hrec⟩ := hc
  obtain ⟨oc, od, name, qualn, ps, sc, dV, kV, docn, pmn, an, cdv, ct, osl, nm, pos, rest, hlk⟩ := hI
  have e := hlk.symm.trans (by k_is)
  cases e
  clear hlk
  obtain ⟨dx, itx, esx, nx, kx, x1, x2, x3, x4⟩ := hx
  obtain ⟨⟨ycls, ydict, ydata, ysl⟩, y1, y2, ny, y3⟩ := hy
  dsimp only at y2 y3
  subst y2 y3
  have hA : dp < recursionLimit := by (show dp < 1000); omega
  refine' code_clo T hA hcg hrec ?k9 ?kB ?_ ?c2 ?c3 ?c4 ?c5
  case k9 => exact BindsTo.of_eq rfl
  case kB => exact locs rfl
  case c2 => exact rfl
  case c3 => exact rfl
  case c4 => exact rfl
  case c5 => decide
  intro h1 F N
  try dsimp only
  try k_unmd
  k_fold
  k_steps
  obtain ⟨ky, ok, vsk, nk, rfl, hky⟩ := rd_tup (by assumption)
  exact hcall _ _ _ _ _ (Fr.keep (by k_asm)) (Rd.keeps (Fr.keep (by k_asm)) x4) (by assumption)

end
section
local macro_rules | `(tactic| walk_at "callWith") => `(tactic| (k_here; k_dflt (refine' callWith_G ?hf ?_ ?he ?hp; (case hf => assumption); (case he => exact rfl); (case hp => exact rfl); k_whole)))
local macro_rules | `(tactic| walk_at "eval Name") => `(tactic| (k_here; k_dflt (refine' nameX_base ?F ?ho ?hd ?hc ?_ ?hk ?hx ?hb ?hn; (case hc => exact rfl); (case hk => exact rfl); (case hx => exact rfl); (case hb => decide); (case hn => decide); (case F => k_asm); (case ho => assumption); (case hd => assumption); k_whole)))
local macro_rules | `(tactic| walk_at "getAttr") => `(tactic| (k_here; (with_reducible show wpAny _ _ (getAttr (Value.ref _) _ _) _ _ _); k_dflt (refine' get_vi _ ?X ?hx ?hd ?hl ?ha ?hv ?_); (case X => exact Frag.In.keeps (by assumption) (Fr.keep (by k_asm))); (case hx => exact Fr.keep (by k_asm) _ _ (by assumption)); (case hd => exact Fr.keep (by k_asm) _ _ (by assumption)); (case hl => assumption); (case ha => k_is); (case hv => exact rfl); k_whole))
local macro_rules | `(tactic| walk_at "call builtin:isinstance") => `(tactic| (k_here; k_dflt (refine' isi_call ?k1 ?k2 ?k3 ?k4 ?_; (case k1 => exact Frag.In.keeps (by assumption) (Fr.keep (by k_asm))); (case k2 => (intro M; exact (Looks.ld (Fr.keep (by k_asm) _ _ (by assumption))).andThen .now)); (case k3 => k_is); (case k4 => intro e; cases e); k_whole)))

local macro_rules | `(tactic| walk_at "call builtin:isinstance") => `(tactic| (k_here; (with_reducible show wpAny _ _ (call _ [Value.ref _, Value.ref 139]) _ _ _); k_dflt (refine' wpAny_mono (wpAny_room rfl ?d ?u (isi1 _ ?X ?hy)) ?_ (fun _ _ e => e.elim)); (case d => tb_start); (case u => tb_start); (case X => exact Frag.In.keeps (by assumption) (Fr.keep (by k_asm))); (case hy => exact Fr.keep (by k_asm) _ _ (by assumption)); (intro v' s' H'); (obtain ⟨h', tk', e1', e2', kp'⟩ := H'); (subst e1'); (subst e2'); (have F' := Fr.kept (by k_asm) kp'); (have N' := News.grown (by k_asm) kp'); (try dsimp only); (try k_sweep)))
local macro_rules | `(tactic| walk_at "call builtin:isinstance") => `(tactic| (k_here; (with_reducible show wpAny _ _ (call _ [Value.ref _, Value.type _]) _ _ _); k_dflt (refine' wpAny_mono (wpAny_room rfl ?d ?u (isi2 _ ?X ?hy)) ?_ (fun _ _ e => e.elim)); (case d => tb_start); (case u => tb_start); (case X => exact Frag.In.keeps (by assumption) (Fr.keep (by k_asm))); (case hy => exact Fr.keep (by k_asm) _ _ (by assumption)); (intro v' s' H'); (obtain ⟨h', tk', e1', e2', kp'⟩ := H'); (subst e1'); (subst e2'); (have F' := Fr.kept (by k_asm) kp'); (have N' := News.grown (by k_asm) kp'); (try dsimp only); (try k_sweep)))
local macro_rules | `(tactic| walk_at "call builtin:isinstance") => `(tactic| (k_here; (with_reducible show wpAny _ _ (call _ [Value.ref 160, Value.ref 139]) _ _ _); k_dflt (refine' wpAny_mono (wpAny_room rfl ?d ?u (isiA _ ?X)) ?_ (fun _ _ e => e.elim)); (case d => tb_start); (case u => tb_start); (case X => exact Frag.In.keeps (by assumption) (Fr.keep (by k_asm))); (intro v' s' H'); (obtain ⟨h', tk', e1', e2', kp'⟩ := H'); (subst e1'); (subst e2'); (have F' := Fr.kept (by k_asm) kp'); (have N' := News.grown (by k_asm) kp'); (try dsimp only); (try k_sweep)))
local macro_rules | `(tactic| walk_at "call builtin:isinstance") => `(tactic| (k_here; (with_reducible show wpAny _ _ (call _ [Value.ref 160, Value.type _]) _ _ _); k_dflt (refine' wpAny_mono (wpAny_room rfl ?d ?u (isiA' _ ?X)) ?_ (fun _ _ e => e.elim)); (case d => tb_start); (case u => tb_start); (case X => exact Frag.In.keeps (by assumption) (Fr.keep (by k_asm))); (intro v' s' H'); (obtain ⟨h', tk', e1', e2', kp'⟩ := H'); (subst e1'); (subst e2'); (have F' := Fr.kept (by k_asm) kp'); (have N' := News.grown (by k_asm) kp'); (try dsimp only); (try k_sweep)))
local macro_rules | `(tactic| walk_at "call builtin:isinstance") => `(tactic| (k_here; (with_reducible show wpAny _ _ (call _ [Value.ref 161, Value.ref 139]) _ _ _); k_dflt (refine' wpAny_mono (wpAny_room rfl ?d ?u (isiB _ ?X)) ?_ (fun _ _ e => e.elim)); (case d => tb_start); (case u => tb_start); (case X => exact Frag.In.keeps (by assumption) (Fr.keep (by k_asm))); (intro v' s' H'); (obtain ⟨h', tk', e1', e2', kp'⟩ := H'); (subst e1'); (subst e2'); (have F' := Fr.kept (by k_asm) kp'); (have N' := News.grown (by k_asm) kp'); (try dsimp only); (try k_sweep)))
local macro_rules | `(tactic| walk_at "call builtin:isinstance") => `(tactic| (k_here; (with_reducible show wpAny _ _ (call _ [Value.ref 161, Value.type _]) _ _ _); k_dflt (refine' wpAny_mono (wpAny_room rfl ?d ?u (isiB' _ ?X)) ?_ (fun _ _ e => e.elim)); (case d => tb_start); (case u => tb_start); (case X => exact Frag.In.keeps (by assumption) (Fr.keep (by k_asm))); (intro v' s' H'); (obtain ⟨h', tk', e1', e2', kp'⟩ := H'); (subst e1'); (subst e2'); (have F' := Fr.kept (by k_asm) kp'); (have N' := News.grown (by k_asm) kp'); (try dsimp only); (try k_sweep)))

theorem boot_ni : bootBuiltins "NotImplemented" = some .notImplemented := by decide +kernel
local macro_rules | `(tactic| boot_fact) => `(tactic| with_reducible exact boot_ni)
inductive Junk : Value → Prop
  | l : Junk (.ref 160)
  | s (x : Str) (t : Tok) : Junk (.str x t)
  | n : Junk .none
  | i (k : Int) (t : Tok) : Junk (.int k t)
  | d : Junk (.ref 161)
  | b (b : Bool) : Junk (.bool b)
theorem ccmp_c (w : World) {dp un fr gd} {p loose mg mb} (hdp : dp + 30 < 800) (hun : un + 300 < 8000) {s : Shared} (X : (hd.heap_39 w.params).In s.heap) (T : TopRead p loose mg mb s.heap) {c x : Addr} {f v : Value} {dk : PyData} (hc : CompAt w s.heap c f) (hx : VerAt s.heap x dk) (hj : Junk v)
   {R : Result → Shared → Prop} (hret : ∀ h' tk, Keep s.heap h' → R (.ok (.ret .notImplemented)) { s with heap := h', toks := tk }) :
   codeAny (model PySem.Challenge.pw_ep5037_01 w) (ar dp un fr gd) (.call (.ref c) ⟨[.ref x, v], []⟩) R s := by
  obtain ⟨params, body, scope, qual, cell, o, c', doc, pm, ctv, hI, hcg, hcell, hcd, hrec⟩ := hc
  obtain ⟨oc, od, name, qualn, ps, sc, dV, kV, docn, pmn, an, cdv, ct, osl, nm, pos, rest, hlk⟩ := hI
  have e := hlk.symm.trans (by k_is)
  cases e
  clear hlk
  have hA : dp < recursionLimit := by (show dp < 1000); omega
  cases hj
  all_goals (
    refine' code_clo T hA hcg hrec ?k9 ?kB ?_ ?c2 ?c3 ?c4 ?c5
    case k9 => exact BindsTo.of_eq rfl
    case kB => exact locs rfl
    case c2 => exact rfl
    case c3 => exact rfl
    case c4 => exact rfl
    case c5 => decide
    intro h1 F N
    try dsimp only
    try k_unmd
    k_fold
    k_steps
    all_goals exact hret _ _ (Fr.keep (by k_asm)))

end
section
theorem c169 (w : World) {dp un fr gd} {p loose mg mb} (hdp : dp + 4 < 800) (hun : un + 100 < 8000) {s : Shared} (X : (hd.heap_39 w.params).In s.heap) (T : TopRead p loose mg mb s.heap) {a b : Value} {R : Result → Shared → Prop} (hret : ∀ q h' tk, Keep s.heap h' → IsTup h' q #[a, b] → R (.ok (.ret (.ref q))) { s with heap := h', toks := tk }) :
   codeAny (model PySem.Challenge.pw_ep5037_01 w) (ar dp un fr gd) (.call (.ref 169) ⟨[a, b], []⟩) R s := by
  have hA : dp < recursionLimit := by (show dp < 1000); omega
  refine' code_pure X T hA ?k6 ?k7 ?k9 ?kB ?_ ?c2 ?c3 ?c4 ?c5
  case k6 => k_is
  case k7 => k_is
  case k9 => first | exact BindsTo.of_eq rfl | exact binds_K X rfl (by k_is) rfl rfl rfl | (refine' kp_binds ?kx ?ke; (case kx => exact X); (case ke => exact fun _ => rfl))
  case kB => exact locs rfl
  case c2 => exact rfl
  case c3 => exact rfl
  case c4 => exact rfl
  case c5 => decide
  intro h1 F N
  try dsimp only
  k_fold
  k_steps
  (try k_unmd)
  exact hret _ _ _ (Fr.keep (by k_asm)) (isTup_at (News.get (by k_asm) (by k_mem)) rfl rfl)
theorem c176 (w : World) {dp un fr gd} {p loose mg mb} (hdp : dp + 4 < 800) (hun : un + 100 < 8000) {s : Shared} (X : (hd.heap_39 w.params).In s.heap) (T : TopRead p loose mg mb s.heap) {a b : Value} {R : Result → Shared → Prop} (hret : ∀ t h' tk, Keep s.heap h' → R (.ok (.ret (.str "neither" t))) { s with heap := h', toks := tk }) :
   codeAny (model PySem.Challenge.pw_ep5037_01 w) (ar dp un fr gd) (.call (.ref 176) ⟨[a, b], []⟩) R s := by
  have hA : dp < recursionLimit := by (show dp < 1000); omega
  refine' code_pure X T hA ?k6 ?k7 ?k9 ?kB ?_ ?c2 ?c3 ?c4 ?c5
  case k6 => k_is
  case k7 => k_is
  case k9 => first | exact BindsTo.of_eq rfl | exact binds_K X rfl (by k_is) rfl rfl rfl | (refine' kp_binds ?kx ?ke; (case kx => exact X); (case ke => exact fun _ => rfl))
  case kB => exact locs rfl
  case c2 => exact rfl
  case c3 => exact rfl
  case c4 => exact rfl
  case c5 => decide
  intro h1 F N
  try dsimp only
  k_fold
  k_steps
  (try k_unmd)
  exact hret _ _ _ (Fr.keep (by k_asm))
theorem told_a (w : World) {dp un fr gd} {p loose mg mb} (hdp : dp + 30 < 800) (hun : un + 300 < 8000) {s : Shared} (X : (hd.heap_39 w.params).In s.heap) (T : TopRead p loose mg mb s.heap) {c x y : Addr} {dk dl : PyData} (hc : CompAt w s.heap c (.ref 169)) (hx : VerAt s.heap x dk) (hy : VerAt s.heap y dl)
   {R : Result → Shared → Prop} (hret : ∀ v h' tk, Keep s.heap h' → Rd h' v (.tuple [dk, dl]) → R (.ok (.ret v)) { s with heap := h', toks := tk }) :
   codeAny (model PySem.Challenge.pw_ep5037_01 w) (ar dp un fr gd) (.call (.ref c) ⟨[.ref x, .ref y], []⟩) R s := by
  refine ccmp_a w hdp hun X T (KeepOk.fn (by k_is)) hc hx hy fun kx ky h' tk fr' k r1 r2 => ?_
  refine wpAny_call (c169 (s := ⟨h', s.gens, s.drawn, tk, s.os⟩) w (by omega) (by omega) (Frag.In.keeps X k) (TopRead.keeps T k) fun q h2 tk2 k2 t2 => ?_)
  exact hret _ _ _ (Keep.trans k k2) (IsTup.rd t2 (RdAll.cons (Rd.keeps k2 r1) (RdAll.cons (Rd.keeps k2 r2) RdAll.nil)))
theorem told_b (w : World) {dp un fr gd} {p loose mg mb} (hdp : dp + 30 < 800) (hun : un + 300 < 8000) {s : Shared} (X : (hd.heap_39 w.params).In s.heap) (T : TopRead p loose mg mb s.heap) {c x y : Addr} {dk dl : PyData} {ity : Array Value} (hc : CompAt w s.heap c (.ref 169)) (hx : VerAt s.heap x dk) (hy : IsTup s.heap y ity) (hyd : Rd s.heap (.ref y) dl)
   {R : Result → Shared → Prop} (hret : ∀ v h' tk, Keep s.heap h' → Rd h' v (.tuple [dk, keyD dl none none none]) → R (.ok (.ret v)) { s with heap := h', toks := tk }) :
   codeAny (model PySem.Challenge.pw_ep5037_01 w) (ar dp un fr gd) (.call (.ref c) ⟨[.ref x, .ref y], []⟩) R s := by
  refine ccmp_b w hdp hun X T (KeepOk.fn (by k_is)) hc hx hy hyd fun kx ky h' tk fr' k r1 r2 => ?_
  refine wpAny_call (c169 (s := ⟨h', s.gens, s.drawn, tk, s.os⟩) w (by omega) (by omega) (Frag.In.keeps X k) (TopRead.keeps T k) fun q h2 tk2 k2 t2 => ?_)
  exact hret _ _ _ (Keep.trans k k2) (IsTup.rd t2 (RdAll.cons (Rd.keeps k2 r1) (RdAll.cons (Rd.keeps k2 r2) RdAll.nil)))
theorem word_a (w : World) {dp un fr gd} {p loose mg mb} (hdp : dp + 30 < 800) (hun : un + 300 < 8000) {s : Shared} (X : (hd.heap_39 w.params).In s.heap) (T : TopRead p loose mg mb s.heap) {c x y : Addr} {dk dl : PyData} (hc : CompAt w s.heap c (.ref 176)) (hx : VerAt s.heap x dk) (hy : VerAt s.heap y dl)
   {R : Result → Shared → Prop} (hret : ∀ t h' tk, Keep s.heap h' → R (.ok (.ret (.str "neither" t))) { s with heap := h', toks := tk }) :
   codeAny (model PySem.Challenge.pw_ep5037_01 w) (ar dp un fr gd) (.call (.ref c) ⟨[.ref x, .ref y], []⟩) R s := by
  refine ccmp_a w hdp hun X T (KeepOk.fn (by k_is)) hc hx hy fun kx ky h' tk fr' k r1 r2 => ?_
  refine wpAny_call (c176 (s := ⟨h', s.gens, s.drawn, tk, s.os⟩) w (by omega) (by omega) (Frag.In.keeps X k) (TopRead.keeps T k) fun t2 h2 tk2 k2 => ?_)
  exact hret _ _ _ (Keep.trans k k2)

end
section
section
variable {prog : Program} {w : World} {A : Around} {s : Shared} {a b : Value} {Q : Value → Shared → Prop} {E : Value → Shared → Prop}
theorem kind_op_lt : builtinKind "_operator.lt" = none := by decide +kernel
theorem plain_op_lt : plainId "_operator.lt" = true := by decide +kernel
theorem entry_op_lt : entryFor table "_operator.lt" = some Builtin.«_operator.lt» := entryFor_of_fast (by kernel_rfl)
theorem args_op_lt (a b : Value) : argsOk "_operator.lt" ⟨[a, b], []⟩ := by unfold argsOk; kernel_rfl
theorem call_op_lt (h : wpAny (model prog w) A.in1 (richCompare .Lt a b) Q E s) : wpAny (model prog w) A (call (.builtin "_operator.lt") [a, b]) Q E s := by
  refine call_function_any kind_op_lt plain_op_lt entry_op_lt (args_op_lt _ _) ?_
  show wpAny _ _ (do ret (← richCompare .Lt a b)) _ _ s
  exact wpAny_bind (wpAny_mono h (fun v s' q => wpAny_pure q) fun _ _ e => e)
theorem kind_op_le : builtinKind "_operator.le" = none := by decide +kernel
theorem plain_op_le : plainId "_operator.le" = true := by decide +kernel
theorem entry_op_le : entryFor table "_operator.le" = some Builtin.«_operator.le» := entryFor_of_fast (by kernel_rfl)
theorem args_op_le (a b : Value) : argsOk "_operator.le" ⟨[a, b], []⟩ := by unfold argsOk; kernel_rfl
theorem call_op_le (h : wpAny (model prog w) A.in1 (richCompare .LtE a b) Q E s) : wpAny (model prog w) A (call (.builtin "_operator.le") [a, b]) Q E s := by
  refine call_function_any kind_op_le plain_op_le entry_op_le (args_op_le _ _) ?_
  show wpAny _ _ (do ret (← richCompare .LtE a b)) _ _ s
  exact wpAny_bind (wpAny_mono h (fun v s' q => wpAny_pure q) fun _ _ e => e)
theorem kind_op_gt : builtinKind "_operator.gt" = none := by decide +kernel
theorem plain_op_gt : plainId "_operator.gt" = true := by decide +kernel
theorem entry_op_gt : entryFor table "_operator.gt" = some Builtin.«_operator.gt» := entryFor_of_fast (by kernel_rfl)
theorem args_op_gt (a b : Value) : argsOk "_operator.gt" ⟨[a, b], []⟩ := by unfold argsOk; kernel_rfl
theorem call_op_gt (h : wpAny (model prog w) A.in1 (richCompare .Gt a b) Q E s) : wpAny (model prog w) A (call (.builtin "_operator.gt") [a, b]) Q E s := by
  refine call_function_any kind_op_gt plain_op_gt entry_op_gt (args_op_gt _ _) ?_
  show wpAny _ _ (do ret (← richCompare .Gt a b)) _ _ s
  exact wpAny_bind (wpAny_mono h (fun v s' q => wpAny_pure q) fun _ _ e => e)
theorem kind_op_ge : builtinKind "_operator.ge" = none := by decide +kernel
theorem plain_op_ge : plainId "_operator.ge" = true := by decide +kernel
theorem entry_op_ge : entryFor table "_operator.ge" = some Builtin.«_operator.ge» := entryFor_of_fast (by kernel_rfl)
theorem args_op_ge (a b : Value) : argsOk "_operator.ge" ⟨[a, b], []⟩ := by unfold argsOk; kernel_rfl
theorem call_op_ge (h : wpAny (model prog w) A.in1 (richCompare .GtE a b) Q E s) : wpAny (model prog w) A (call (.builtin "_operator.ge") [a, b]) Q E s := by
  refine call_function_any kind_op_ge plain_op_ge entry_op_ge (args_op_ge _ _) ?_
  show wpAny _ _ (do ret (← richCompare .GtE a b)) _ _ s
  exact wpAny_bind (wpAny_mono h (fun v s' q => wpAny_pure q) fun _ _ e => e)
theorem kind_op_eq : builtinKind "_operator.eq" = none := by decide +kernel
theorem plain_op_eq : plainId "_operator.eq" = true := by decide +kernel
theorem entry_op_eq : entryFor table "_operator.eq" = some Builtin.«_operator.eq» := entryFor_of_fast (by kernel_rfl)
theorem args_op_eq (a b : Value) : argsOk "_operator.eq" ⟨[a, b], []⟩ := by unfold argsOk; kernel_rfl
theorem call_op_eq (h : wpAny (model prog w) A.in1 (richCompare .Eq a b) Q E s) : wpAny (model prog w) A (call (.builtin "_operator.eq") [a, b]) Q E s := by
  refine call_function_any kind_op_eq plain_op_eq entry_op_eq (args_op_eq _ _) ?_
  show wpAny _ _ (do ret (← richCompare .Eq a b)) _ _ s
  exact wpAny_bind (wpAny_mono h (fun v s' q => wpAny_pure q) fun _ _ e => e)
theorem kind_op_ne : builtinKind "_operator.ne" = none := by decide +kernel
theorem plain_op_ne : plainId "_operator.ne" = true := by decide +kernel
theorem entry_op_ne : entryFor table "_operator.ne" = some Builtin.«_operator.ne» := entryFor_of_fast (by kernel_rfl)
theorem args_op_ne (a b : Value) : argsOk "_operator.ne" ⟨[a, b], []⟩ := by unfold argsOk; kernel_rfl
theorem call_op_ne (h : wpAny (model prog w) A.in1 (richCompare .NotEq a b) Q E s) : wpAny (model prog w) A (call (.builtin "_operator.ne") [a, b]) Q E s := by
  refine call_function_any kind_op_ne plain_op_ne entry_op_ne (args_op_ne _ _) ?_
  show wpAny _ _ (do ret (← richCompare .NotEq a b)) _ _ s
  exact wpAny_bind (wpAny_mono h (fun v s' q => wpAny_pure q) fun _ _ e => e)
end

end
section
structure Wd (w : World) (p : Program) (loose : List Str) (mean : ExcName → Option Value) (mg mb : Str → Option Value) (h : Heap) : Prop where
  X : (hd.heap_39 w.params).In (hideAll h [41])
  T : Top p loose mean mg mb (hideAll h [41])
  C : CodeHd (hideAll h [41]) 45 41
  TB : TabAt h
theorem hide_keep {h h' : Heap} {ms : List Addr} (k : Keep h h') : Keep (hideAll h ms) (hideAll h' ms) := fun b o e => hideAll_get ms (k b o (of_hideAll ms e)) (fun hm => by rw [hideAll_none ms hm] at e; cases e)
section
variable {w : World} {p : Program} {loose : List Str} {mean : ExcName → Option Value} {mg mb : Str → Option Value} {h h' : Heap}
theorem Wd.keeps (d : Wd w p loose mean mg mb h) (k : Keep h h') : Wd w p loose mean mg mb h' := ⟨Frag.In.keeps d.X (hide_keep k), Top.keeps d.T (hide_keep k), CodeHd.keeps d.C (hide_keep k), TabAt.keeps k d.TB⟩
theorem Wd.X' (d : Wd w p loose mean mg mb h) : (hd.heap_39 w.params).In h := Frag.In.keeps d.X fun _ _ e => of_hideAll _ e
theorem Wd.T' (d : Wd w p loose mean mg mb h) : TopRead p loose mg mb h := TopRead.keeps (topRead_of d.T) fun _ _ e => of_hideAll _ e
end
theorem callWith_C {w : World} {M : Model} {A : Around} {s : Shared} {h0 : Heap} {c : Addr} {g : Value} {pos : Pos} {first : List Value} {env : Env} {Q : Value → Shared → Prop} {E : Value → Shared → Prop} {e : Expr} {rest : List Expr} (hc : CompAt w h0 c g)
    (h : wpAny M A (spliced (backTo pos (starEach (e :: rest) env))) (fun vs s₁ => Keep h0 s₁.heap ∧ wpAny M A (call (.ref c) (first ++ vs)) Q E s₁) E s)
    (he : starEach (e :: rest) env = (false, eval e env) :: starEach rest env) (hplain : (backTo pos (starEach rest env)).any (·.1) = false) :
    wpAny M A (callWith pos (.ref c) first (backTo pos (starEach (e :: rest) env)) []) Q E s := by
  rw [he] at h ⊢
  obtain ⟨params, body, scope, qual, cell, o, c', doc, pm, ctv, hI, hcg, hcell, hcd, hrec⟩ := hc
  refine callWith_of (P := fun h => Keep h0 h) (by show ((false || (backTo pos (starEach rest env)).any (·.1)) || false) = false; rw [hplain]; rfl) (fun h' k => ⟨.frame, .inl rfl, (Looks.ld (part := none) (k _ _ hcg)).andThen .now⟩) (PySem.Calls.evalArgs_plain h)

end
section
def opName : CmpOp → String
  | .Lt => "_operator.lt"
  | .LtE => "_operator.le"
  | .Gt => "_operator.gt"
  | .GtE => "_operator.ge"
  | .Eq => "_operator.eq"
  | .NotEq => "_operator.ne"
  | _ => ""
def isSix : CmpOp → Bool
  | .Lt | .LtE | .Gt | .GtE | .Eq | .NotEq => true
  | _ => false
def cmpA : CmpOp → PyData → PyData → Bool
  | .Eq, a, b => PyData.eqv a b
  | .NotEq, a, b => !PyData.eqv a b
  | op, a, b => cmpD op a b
structure CanCmp (da db : PyData) : Prop where
  dep : da.depth < 8
  la : da.canLay0 = true
  lb : db.canLay0 = true
  depb : db.depth < 8
  o : ordD da db = true
section
variable {prog : Program} {w : World} {A : Around} {s : Shared} {a b : Value} {da db : PyData} {Q : Value → Shared → Prop} {E : Value → Shared → Prop}
theorem rich_all {op : CmpOp} (h6 : isSix op = true) (ra : Rd s.heap a da) (rb : Rd s.heap b db) (c : CanCmp da db) (hu : A.units + 100 < 9000) (h : Q (.bool (cmpA op da db)) s) :
    wpAny (model prog w) A (richCompare op a b) Q E s := by
  have hu1 : A.units + 64 < cLine := by (show _ < 9900); omega
  have hu2 : A.units + 2 * 8 + 2 < cLine := by (show _ < 9900); omega
  have sa := Bool.and_eq_true_iff.mpr ⟨c.la, decide_eq_true (p := da.depth ≤ 64) (by have := c.dep; omega)⟩
  have sb := Bool.and_eq_true_iff.mpr ⟨c.lb, decide_eq_true (p := db.depth ≤ 64) (by have := c.depb; omega)⟩
  cases op <;> first | (exact absurd h6 (by decide)) | skip
  case Eq => exact eq_dataH ra rb sa sb hu1 h
  case NotEq => exact ne_dataH ra rb sa sb hu1 h
  case Lt => exact all_lt 8 _ _ _ _ _ _ _ _ c.dep ra rb c.la c.lb hu2 c.o fun v e => by rw [e]; exact h
  case LtE => exact all_le 8 _ _ _ _ _ _ _ _ c.dep ra rb c.la c.lb hu2 c.o fun v e => by rw [e]; exact h
  case Gt => exact all_gt 8 _ _ _ _ _ _ _ _ c.dep ra rb c.la c.lb hu2 c.o fun v e => by rw [e]; exact h
  case GtE => exact all_ge 8 _ _ _ _ _ _ _ _ c.dep ra rb c.la c.lb hu2 c.o fun v e => by rw [e]; exact h
theorem call_op {op : CmpOp} (h6 : isSix op = true) (h : wpAny (model prog w) A.in1 (richCompare op a b) Q E s) : wpAny (model prog w) A (call (.builtin (opName op)) [a, b]) Q E s := by
  cases op <;> first | (exact absurd h6 (by decide)) | skip
  case Eq => exact call_op_eq h
  case NotEq => exact call_op_ne h
  case Lt => exact call_op_lt h
  case LtE => exact call_op_le h
  case Gt => exact call_op_gt h
  case GtE => exact call_op_ge h
end
theorem ccmp_t (w : World) {dp un fr gd} {p loose mg mb} (hdp : dp + 30 < 800) (hun : un + 300 < 8000) {s : Shared} (X : (hd.heap_39 w.params).In s.heap) (T : TopRead p loose mg mb s.heap) {op : CmpOp} (h6 : isSix op = true) {c x y : Addr} {dk dl : PyData} {ity : Array Value} (hc : CompAt w s.heap c (.builtin (opName op))) (hx : VerAt s.heap x dk) (hy : IsTup s.heap y ity) (hyd : Rd s.heap (.ref y) dl)
   (cc : CanCmp dk (keyD dl none none none)) {R : Result → Shared → Prop} (hret : ∀ h' tk, Keep s.heap h' → R (.ok (.ret (.bool (cmpA op dk (keyD dl none none none))))) { s with heap := h', toks := tk }) :
   codeAny (model PySem.Challenge.pw_ep5037_01 w) (ar dp un fr gd) (.call (.ref c) ⟨[.ref x, .ref y], []⟩) R s := by
  refine ccmp_b w hdp hun X T (KeepOk.builtin _) hc hx hy hyd fun kx ky h' tk fr' k r1 r2 => ?_
  exact call_op h6 (rich_all h6 r1 r2 cc (by dsimp only [ar, Around.in1]; omega) (hret _ _ k))

end
section
theorem c46d (w : World) {dp un fr gd} {p loose mean mg mb} (hdp : dp + 4 < 800) (hun : un + 100 < 8000) {s : Shared} (W : Wd w p loose mean mg mb s.heap) (f : Value)
   {R : Result → Shared → Prop} (hret : ∀ c h' tk, Keep s.heap h' → CompAt w h' c f → R (.ok (.ret (.ref c))) { s with heap := h', toks := tk }) :
   codeAny (model PySem.Challenge.pw_ep5037_01 w) (ar dp un fr gd) (.call (.ref 46) ⟨[f], []⟩) R s := c46b w hdp hun W.TB W.X W.T W.C f hret
local macro_rules | `(tactic| walk_at "call ref") => `(tactic| (k_here; (with_reducible show wpAny _ _ (call (Value.ref 46) _) _ _ _); k_dflt (refine' wpAny_call (c46d _ ?d ?u ?W _ ?_); (case d => tb_start); (case u => tb_start); (case W => exact Wd.keeps (by assumption) (Fr.keep (by k_asm))); (intro c' h' tk' kp' cc'); (have F' := Fr.kept (by k_asm) kp'); (have N' := News.grown (by k_asm) kp'); (try dsimp only))))
local macro_rules | `(tactic| walk_at "callWith") => `(tactic| (k_here; k_dflt (refine' callWith_C ?hf ?_ ?he ?hp; (case hf => assumption); (case he => exact rfl); (case hp => exact rfl); k_whole)))
local macro_rules | `(tactic| walk_at "And") => `(tactic| ((with_reducible show Keep _ _ ∧ _); refine ⟨Keep.rfl, ?_⟩; try dsimp only [List.nil_append, List.cons_append]))

theorem d94t (w : World) {dp un fr gd} {p loose mean mg mb} (hdp : dp + 40 < 800) (hun : un + 400 < 8000) {s : Shared} (W : Wd w p loose mean mg mb s.heap) {x y : Addr} {dk dl : PyData} {ity : Array Value} (hx : VerAt s.heap x dk) (hy : IsTup s.heap y ity) (hyd : Rd s.heap (.ref y) dl)
   (cc : CanCmp dk (keyD dl none none none)) {R : Result → Shared → Prop} (hret : ∀ h' tk, Keep s.heap h' → R (.ok (.ret (.bool (cmpA .Eq dk (keyD dl none none none))))) { s with heap := h', toks := tk }) :
   codeAny (model PySem.Challenge.pw_ep5037_01 w) (ar dp un fr gd) (.call (.ref 94) ⟨[.ref x, .ref y], []⟩) R s := by
  have X := W.X'
  have T := W.T'
  have hA : dp < recursionLimit := by (show dp < 1000); omega
  refine' code_pure X T hA ?k6 ?k7 ?k9 ?kB ?_ ?c2 ?c3 ?c4 ?c5
  case k6 => k_is
  case k7 => k_is
  case k9 => first | exact BindsTo.of_eq rfl | exact binds_K X rfl (by k_is) rfl rfl rfl | (refine' kp_binds ?kx ?ke; (case kx => exact X); (case ke => exact fun _ => rfl))
  case kB => exact locs rfl
  case c2 => exact rfl
  case c3 => exact rfl
  case c4 => exact rfl
  case c5 => decide
  intro h1 F N
  try dsimp only
  k_fold
  k_steps
  (rename CompAt _ _ _ _ => cc')
  refine wpAny_call (ccmp_t w (by tb_start) (by tb_start) (Frag.In.keeps X (Fr.keep (by k_asm))) (TopRead.keeps T (Fr.keep (by k_asm))) (op := .Eq) rfl cc' (VerAt.keeps (Fr.keep (by k_asm)) hx) (IsTup.keeps hy (Fr.keep (by k_asm))) (Rd.keeps (Fr.keep (by k_asm)) hyd) cc fun h2 tk2 k2 => ?_)
  exact hret _ _ (Keep.trans (Fr.keep (by k_asm)) k2)
theorem d101t (w : World) {dp un fr gd} {p loose mean mg mb} (hdp : dp + 40 < 800) (hun : un + 400 < 8000) {s : Shared} (W : Wd w p loose mean mg mb s.heap) {x y : Addr} {dk dl : PyData} {ity : Array Value} (hx : VerAt s.heap x dk) (hy : IsTup s.heap y ity) (hyd : Rd s.heap (.ref y) dl)
   (cc : CanCmp dk (keyD dl none none none)) {R : Result → Shared → Prop} (hret : ∀ h' tk, Keep s.heap h' → R (.ok (.ret (.bool (cmpA .NotEq dk (keyD dl none none none))))) { s with heap := h', toks := tk }) :
   codeAny (model PySem.Challenge.pw_ep5037_01 w) (ar dp un fr gd) (.call (.ref 101) ⟨[.ref x, .ref y], []⟩) R s := by
  have X := W.X'
  have T := W.T'
  have hA : dp < recursionLimit := by (show dp < 1000); omega
  refine' code_pure X T hA ?k6 ?k7 ?k9 ?kB ?_ ?c2 ?c3 ?c4 ?c5
  case k6 => k_is
  case k7 => k_is
  case k9 => first | exact BindsTo.of_eq rfl | exact binds_K X rfl (by k_is) rfl rfl rfl | (refine' kp_binds ?kx ?ke; (case kx => exact X); (case ke => exact fun _ => rfl))
  case kB => exact locs rfl
  case c2 => exact rfl
  case c3 => exact rfl
  case c4 => exact rfl
  case c5 => decide
  intro h1 F N
  try dsimp only
  k_fold
  k_steps
  (rename CompAt _ _ _ _ => cc')
  refine wpAny_call (ccmp_t w (by tb_start) (by tb_start) (Frag.In.keeps X (Fr.keep (by k_asm))) (TopRead.keeps T (Fr.keep (by k_asm))) (op := .NotEq) rfl cc' (VerAt.keeps (Fr.keep (by k_asm)) hx) (IsTup.keeps hy (Fr.keep (by k_asm))) (Rd.keeps (Fr.keep (by k_asm)) hyd) cc fun h2 tk2 k2 => ?_)
  exact hret _ _ (Keep.trans (Fr.keep (by k_asm)) k2)
theorem d108t (w : World) {dp un fr gd} {p loose mean mg mb} (hdp : dp + 40 < 800) (hun : un + 400 < 8000) {s : Shared} (W : Wd w p loose mean mg mb s.heap) {x y : Addr} {dk dl : PyData} {ity : Array Value} (hx : VerAt s.heap x dk) (hy : IsTup s.heap y ity) (hyd : Rd s.heap (.ref y) dl)
   (cc : CanCmp dk (keyD dl none none none)) {R : Result → Shared → Prop} (hret : ∀ h' tk, Keep s.heap h' → R (.ok (.ret (.bool (cmpA .Lt dk (keyD dl none none none))))) { s with heap := h', toks := tk }) :
   codeAny (model PySem.Challenge.pw_ep5037_01 w) (ar dp un fr gd) (.call (.ref 108) ⟨[.ref x, .ref y], []⟩) R s := by
  have X := W.X'
  have T := W.T'
  have hA : dp < recursionLimit := by (show dp < 1000); omega
  refine' code_pure X T hA ?k6 ?k7 ?k9 ?kB ?_ ?c2 ?c3 ?c4 ?c5
  case k6 => k_is
  case k7 => k_is
  case k9 => first | exact BindsTo.of_eq rfl | exact binds_K X rfl (by k_is) rfl rfl rfl | (refine' kp_binds ?kx ?ke; (case kx => exact X); (case ke => exact fun _ => rfl))
  case kB => exact locs rfl
  case c2 => exact rfl
  case c3 => exact rfl
  case c4 => exact rfl
  case c5 => decide
  intro h1 F N
  try dsimp only
  k_fold
  k_steps
  (rename CompAt _ _ _ _ => cc')
  refine wpAny_call (ccmp_t w (by tb_start) (by tb_start) (Frag.In.keeps X (Fr.keep (by k_asm))) (TopRead.keeps T (Fr.keep (by k_asm))) (op := .Lt) rfl cc' (VerAt.keeps (Fr.keep (by k_asm)) hx) (IsTup.keeps hy (Fr.keep (by k_asm))) (Rd.keeps (Fr.keep (by k_asm)) hyd) cc fun h2 tk2 k2 => ?_)
  exact hret _ _ (Keep.trans (Fr.keep (by k_asm)) k2)
theorem d115t (w : World) {dp un fr gd} {p loose mean mg mb} (hdp : dp + 40 < 800) (hun : un + 400 < 8000) {s : Shared} (W : Wd w p loose mean mg mb s.heap) {x y : Addr} {dk dl : PyData} {ity : Array Value} (hx : VerAt s.heap x dk) (hy : IsTup s.heap y ity) (hyd : Rd s.heap (.ref y) dl)
   (cc : CanCmp dk (keyD dl none none none)) {R : Result → Shared → Prop} (hret : ∀ h' tk, Keep s.heap h' → R (.ok (.ret (.bool (cmpA .LtE dk (keyD dl none none none))))) { s with heap := h', toks := tk }) :
   codeAny (model PySem.Challenge.pw_ep5037_01 w) (ar dp un fr gd) (.call (.ref 115) ⟨[.ref x, .ref y], []⟩) R s := by
  have X := W.X'
  have T := W.T'
  have hA : dp < recursionLimit := by (show dp < 1000); omega
  refine' code_pure X T hA ?k6 ?k7 ?k9 ?kB ?_ ?c2 ?c3 ?c4 ?c5
  case k6 => k_is
  case k7 => k_is
  case k9 => first | exact BindsTo.of_eq rfl | exact binds_K X rfl (by k_is) rfl rfl rfl | (refine' kp_binds ?kx ?ke; (case kx => exact X); (case ke => exact fun _ => rfl))
  case kB => exact locs rfl
  case c2 => exact rfl
  case c3 => exact rfl
  case c4 => exact rfl
  case c5 => decide
  intro h1 F N
  try dsimp only
  k_fold
  k_steps
  (rename CompAt _ _ _ _ => cc')
  refine wpAny_call (ccmp_t w (by tb_start) (by tb_start) (Frag.In.keeps X (Fr.keep (by k_asm))) (TopRead.keeps T (Fr.keep (by k_asm))) (op := .LtE) rfl cc' (VerAt.keeps (Fr.keep (by k_asm)) hx) (IsTup.keeps hy (Fr.keep (by k_asm))) (Rd.keeps (Fr.keep (by k_asm)) hyd) cc fun h2 tk2 k2 => ?_)
  exact hret _ _ (Keep.trans (Fr.keep (by k_asm)) k2)
theorem d122t (w : World) {dp un fr gd} {p loose mean mg mb} (hdp : dp + 40 < 800) (hun : un + 400 < 8000) {s : Shared} (W : Wd w p loose mean mg mb s.heap) {x y : Addr} {dk dl : PyData} {ity : Array Value} (hx : VerAt s.heap x dk) (hy : IsTup s.heap y ity) (hyd : Rd s.heap (.ref y) dl)
   (cc : CanCmp dk (keyD dl none none none)) {R : Result → Shared → Prop} (hret : ∀ h' tk, Keep s.heap h' → R (.ok (.ret (.bool (cmpA .Gt dk (keyD dl none none none))))) { s with heap := h', toks := tk }) :
   codeAny (model PySem.Challenge.pw_ep5037_01 w) (ar dp un fr gd) (.call (.ref 122) ⟨[.ref x, .ref y], []⟩) R s := by
  have X := W.X'
  have T := W.T'
  have hA : dp < recursionLimit := by (show dp < 1000); omega
  refine' code_pure X T hA ?k6 ?k7 ?k9 ?kB ?_ ?c2 ?c3 ?c4 ?c5
  case k6 => k_is
  case k7 => k_is
  case k9 => first | exact BindsTo.of_eq rfl | exact binds_K X rfl (by k_is) rfl rfl rfl | (refine' kp_binds ?kx ?ke; (case kx => exact X); (case ke => exact fun _ => rfl))
  case kB => exact locs rfl
  case c2 => exact rfl
  case c3 => exact rfl
  case c4 => exact rfl
  case c5 => decide
  intro h1 F N
  try dsimp only
  k_fold
  k_steps
  (rename CompAt _ _ _ _ => cc')
  refine wpAny_call (ccmp_t w (by tb_start) (by tb_start) (Frag.In.keeps X (Fr.keep (by k_asm))) (TopRead.keeps T (Fr.keep (by k_asm))) (op := .Gt) rfl cc' (VerAt.keeps (Fr.keep (by k_asm)) hx) (IsTup.keeps hy (Fr.keep (by k_asm))) (Rd.keeps (Fr.keep (by k_asm)) hyd) cc fun h2 tk2 k2 => ?_)
  exact hret _ _ (Keep.trans (Fr.keep (by k_asm)) k2)
theorem d129t (w : World) {dp un fr gd} {p loose mean mg mb} (hdp : dp + 40 < 800) (hun : un + 400 < 8000) {s : Shared} (W : Wd w p loose mean mg mb s.heap) {x y : Addr} {dk dl : PyData} {ity : Array Value} (hx : VerAt s.heap x dk) (hy : IsTup s.heap y ity) (hyd : Rd s.heap (.ref y) dl)
   (cc : CanCmp dk (keyD dl none none none)) {R : Result → Shared → Prop} (hret : ∀ h' tk, Keep s.heap h' → R (.ok (.ret (.bool (cmpA .GtE dk (keyD dl none none none))))) { s with heap := h', toks := tk }) :
   codeAny (model PySem.Challenge.pw_ep5037_01 w) (ar dp un fr gd) (.call (.ref 129) ⟨[.ref x, .ref y], []⟩) R s := by
  have X := W.X'
  have T := W.T'
  have hA : dp < recursionLimit := by (show dp < 1000); omega
  refine' code_pure X T hA ?k6 ?k7 ?k9 ?kB ?_ ?c2 ?c3 ?c4 ?c5
  case k6 => k_is
  case k7 => k_is
  case k9 => first | exact BindsTo.of_eq rfl | exact binds_K X rfl (by k_is) rfl rfl rfl | (refine' kp_binds ?kx ?ke; (case kx => exact X); (case ke => exact fun _ => rfl))
  case kB => exact locs rfl
  case c2 => exact rfl
  case c3 => exact rfl
  case c4 => exact rfl
  case c5 => decide
  intro h1 F N
  try dsimp only
  k_fold
  k_steps
  (rename CompAt _ _ _ _ => cc')
  refine wpAny_call (ccmp_t w (by tb_start) (by tb_start) (Frag.In.keeps X (Fr.keep (by k_asm))) (TopRead.keeps T (Fr.keep (by k_asm))) (op := .GtE) rfl cc' (VerAt.keeps (Fr.keep (by k_asm)) hx) (IsTup.keeps hy (Fr.keep (by k_asm))) (Rd.keeps (Fr.keep (by k_asm)) hyd) cc fun h2 tk2 k2 => ?_)
  exact hret _ _ (Keep.trans (Fr.keep (by k_asm)) k2)
theorem d94j (w : World) {dp un fr gd} {p loose mean mg mb} (hdp : dp + 40 < 800) (hun : un + 400 < 8000) {s : Shared} (W : Wd w p loose mean mg mb s.heap) {x : Addr} {v : Value} {dk : PyData} (hx : VerAt s.heap x dk) (hj : Junk v)
   {R : Result → Shared → Prop} (hret : ∀ h' tk, Keep s.heap h' → R (.ok (.ret .notImplemented)) { s with heap := h', toks := tk }) :
   codeAny (model PySem.Challenge.pw_ep5037_01 w) (ar dp un fr gd) (.call (.ref 94) ⟨[.ref x, v], []⟩) R s := by
  have X := W.X'
  have T := W.T'
  have hA : dp < recursionLimit := by (show dp < 1000); omega
  refine' code_pure X T hA ?k6 ?k7 ?k9 ?kB ?_ ?c2 ?c3 ?c4 ?c5
  case k6 => k_is
  case k7 => k_is
  case k9 => first | exact BindsTo.of_eq rfl | exact binds_K X rfl (by k_is) rfl rfl rfl | (refine' kp_binds ?kx ?ke; (case kx => exact X); (case ke => exact fun _ => rfl))
  case kB => exact locs rfl
  case c2 => exact rfl
  case c3 => exact rfl
  case c4 => exact rfl
  case c5 => decide
  intro h1 F N
  try dsimp only
  k_fold
  k_steps
  (rename CompAt _ _ _ _ => cc')
  refine wpAny_call (ccmp_c w (by tb_start) (by tb_start) (Frag.In.keeps X (Fr.keep (by k_asm))) (TopRead.keeps T (Fr.keep (by k_asm))) cc' (VerAt.keeps (Fr.keep (by k_asm)) hx) hj fun h2 tk2 k2 => ?_)
  exact hret _ _ (Keep.trans (Fr.keep (by k_asm)) k2)
theorem d101j (w : World) {dp un fr gd} {p loose mean mg mb} (hdp : dp + 40 < 800) (hun : un + 400 < 8000) {s : Shared} (W : Wd w p loose mean mg mb s.heap) {x : Addr} {v : Value} {dk : PyData} (hx : VerAt s.heap x dk) (hj : Junk v)
   {R : Result → Shared → Prop} (hret : ∀ h' tk, Keep s.heap h' → R (.ok (.ret .notImplemented)) { s with heap := h', toks := tk }) :
   codeAny (model PySem.Challenge.pw_ep5037_01 w) (ar dp un fr gd) (.call (.ref 101) ⟨[.ref x, v], []⟩) R s := by
  have X := W.X'
  have T := W.T'
  have hA : dp < recursionLimit := by (show dp < 1000); omega
  refine' code_pure X T hA ?k6 ?k7 ?k9 ?kB ?_ ?c2 ?c3 ?c4 ?c5
  case k6 => k_is
  case k7 => k_is
  case k9 => first | exact BindsTo.of_eq rfl | exact binds_K X rfl (by k_is) rfl rfl rfl | (refine' kp_binds ?kx ?ke; (case kx => exact X); (case ke => exact fun _ => rfl))
  case kB => exact locs rfl
  case c2 => exact rfl
  case c3 => exact rfl
  case c4 => exact rfl
  case c5 => decide
  intro h1 F N
  try dsimp only
  k_fold
  k_steps
  (rename CompAt _ _ _ _ => cc')
  refine wpAny_call (ccmp_c w (by tb_start) (by tb_start) (Frag.In.keeps X (Fr.keep (by k_asm))) (TopRead.keeps T (Fr.keep (by k_asm))) cc' (VerAt.keeps (Fr.keep (by k_asm)) hx) hj fun h2 tk2 k2 => ?_)
  exact hret _ _ (Keep.trans (Fr.keep (by k_asm)) k2)

end
section
def NIPost (s : Shared) (v : Value) (s' : Shared) : Prop := ∃ h' tk, v = .notImplemented ∧ s' = ⟨h', s.gens, s.drawn, tk, s.os⟩ ∧ Keep s.heap h'
local macro_rules | `(tactic| x_close) => `(tactic| exact ⟨_, _, rfl, rfl, by first | exact Keep.rfl | exact keep_of_mem (by assumption)⟩)
section
variable (w : World) {s : Shared} (X : (hd.heap_39 w.params).In s.heap) {x dx : Addr} {it : Array Value} (hx : s.heap.get? x = some ⟨.ref 139, some dx, .seq it 0, #[]⟩)
include X hx
theorem jeq_l : wpAny (model PySem.Challenge.pw_ep5037_01 w) roomA (call (.builtin "list.__eq__") [.ref 160, .ref x] []) (NIPost s) (fun _ _ => False) s := by
  x_run
theorem jeq_s {y : Str} {t : Tok} : wpAny (model PySem.Challenge.pw_ep5037_01 w) roomA (call (.builtin "str.__eq__") [.str y t, .ref x] []) (NIPost s) (fun _ _ => False) s := by
  x_run
theorem jeq_n : wpAny (model PySem.Challenge.pw_ep5037_01 w) roomA (call (.builtin "NoneType.__eq__") [.none, .ref x] []) (NIPost s) (fun _ _ => False) s := by
  x_run
theorem jeq_i {y : Int} {t : Tok} : wpAny (model PySem.Challenge.pw_ep5037_01 w) roomA (call (.builtin "int.__eq__") [.int y t, .ref x] []) (NIPost s) (fun _ _ => False) s := by
  x_run
theorem jeq_d : wpAny (model PySem.Challenge.pw_ep5037_01 w) roomA (call (.builtin "dict.__eq__") [.ref 161, .ref x] []) (NIPost s) (fun _ _ => False) s := by
  x_run
theorem jeq_b {b : Bool} : wpAny (model PySem.Challenge.pw_ep5037_01 w) roomA (call (.builtin "int.__eq__") [.bool b, .ref x] []) (NIPost s) (fun _ _ => False) s := by
  x_run
theorem jne_l : wpAny (model PySem.Challenge.pw_ep5037_01 w) roomA (call (.builtin "list.__ne__") [.ref 160, .ref x] []) (NIPost s) (fun _ _ => False) s := by
  x_run
theorem jne_s {y : Str} {t : Tok} : wpAny (model PySem.Challenge.pw_ep5037_01 w) roomA (call (.builtin "str.__ne__") [.str y t, .ref x] []) (NIPost s) (fun _ _ => False) s := by
  x_run
theorem jne_n : wpAny (model PySem.Challenge.pw_ep5037_01 w) roomA (call (.builtin "NoneType.__ne__") [.none, .ref x] []) (NIPost s) (fun _ _ => False) s := by
  x_run
theorem jne_i {y : Int} {t : Tok} : wpAny (model PySem.Challenge.pw_ep5037_01 w) roomA (call (.builtin "int.__ne__") [.int y t, .ref x] []) (NIPost s) (fun _ _ => False) s := by
  x_run
theorem jne_d : wpAny (model PySem.Challenge.pw_ep5037_01 w) roomA (call (.builtin "dict.__ne__") [.ref 161, .ref x] []) (NIPost s) (fun _ _ => False) s := by
  x_run
theorem jne_b {b : Bool} : wpAny (model PySem.Challenge.pw_ep5037_01 w) roomA (call (.builtin "int.__ne__") [.bool b, .ref x] []) (NIPost s) (fun _ _ => False) s := by
  x_run
end

end
section
section
variable {E : Value → Shared → Prop}
theorem decl_eq (w : World) {A : Around} {s : Shared} {x dx : Addr} {it : Array Value} {es : List DictEntry} {n : Nat} {v : Value} {T id : String} {f : Addr} {Q : Value → Shared → Prop} (hu : A.units < cLine) (X : (hd.heap_39 w.params).In s.heap)
    (hx : s.heap.get? x = some ⟨.ref 139, some dx, .seq it 0, #[]⟩) (hdx : s.heap.get? dx = some (dictOf es n)) (hv : ∀ s' : Shared, Keep s.heap s'.heap → s'.TypeIs v T) (hsub : subIn (hd.heap_39 w.params) (.type T) (.ref 139) = some false)
    (hs : findIn (hd.heap_39 w.params) (.ref 139) (cmpInfo .Eq).2.1 = some (some (.ref f))) (hf : isFn (hd.heap_39 w.params) (.ref f) = true) (slot : Slot T (cmpInfo .Eq).2.2 id)
    (hsame : ∀ s' : Shared, Keep s.heap s'.heap → ∀ R : Bool → Shared → Prop, R false s' → wpAny (model PySem.Challenge.pw_ep5037_01 w) A (isSame (.ref x) v) R E s')
    (h : wpAny (model PySem.Challenge.pw_ep5037_01 w) A (call (.ref f) [.ref x, v]) (fun r s1 => r = .notImplemented ∧ Keep s.heap s1.heap ∧ wpAny (model PySem.Challenge.pw_ep5037_01 w) A (call (.builtin id) [v, .ref x]) (fun r2 s2 => r2 = .notImplemented ∧ Keep s.heap s2.heap ∧ Q (.bool false) s2) E s1) E s) :
    wpAny (model PySem.Challenge.pw_ep5037_01 w) A (richCompare .Eq (.ref x) v) Q E s := by
  have I : W.InstAt s.heap x ⟨.ref 139, some dx, .seq it 0, #[]⟩ 139 (some (dictOf es n)) := ⟨hx, rfl, rfl, hdx⟩
  unfold richCompare
  have e1 : oneThing? .Eq (.ref x) v = none := oneThing_ref _ _ _
  simp only [e1]
  refine wpAny_holding (wpAny_bind (wpAny_cRoomFor hu ?_))
  refine wpAny_bind (I.type.here (wpAny_bind (wpAny_typeOf (hv s Keep.rfl) ?_)))
  rw [if_pos (show ((Value.ref 139 != Value.type T) = true) from rfl)]
  refine wpAny_bind ((looks_subIn X hsub).here ?_)
  simp only [Bool.false_eq_true, if_false]
  refine wpAny_bind ?_
  unfold tryCompare
  refine wpAny_bind (ifBound_K X I hs hf (wpAny_mono h (fun r s1 hr => ?_) fun _ _ e => e))
  obtain ⟨e, k1, hc⟩ := hr
  subst e
  refine wpAny_pure ?_
  simp only [Bool.not_false, if_true]
  refine wpAny_bind ?_
  refine wpAny_bind (wpAny_callSpecialIfBound?_slot (hv s1 k1) slot (wpAny_mono hc (fun r s2 hr => ?_) fun _ _ e => e))
  obtain ⟨e, k2, q⟩ := hr
  subst e
  refine wpAny_pure ?_
  refine wpAny_bind (wpAny_rule ?_)
  refine wpAny_bind (hsame _ k2 _ ?_)
  exact wpAny_pure q
theorem decl_ne (w : World) {A : Around} {s : Shared} {x dx : Addr} {it : Array Value} {es : List DictEntry} {n : Nat} {v : Value} {T id : String} {f : Addr} {Q : Value → Shared → Prop} (hu : A.units < cLine) (X : (hd.heap_39 w.params).In s.heap)
    (hx : s.heap.get? x = some ⟨.ref 139, some dx, .seq it 0, #[]⟩) (hdx : s.heap.get? dx = some (dictOf es n)) (hv : ∀ s' : Shared, Keep s.heap s'.heap → s'.TypeIs v T) (hsub : subIn (hd.heap_39 w.params) (.type T) (.ref 139) = some false)
    (hs : findIn (hd.heap_39 w.params) (.ref 139) (cmpInfo .NotEq).2.1 = some (some (.ref f))) (hf : isFn (hd.heap_39 w.params) (.ref f) = true) (slot : Slot T (cmpInfo .NotEq).2.2 id)
    (hsame : ∀ s' : Shared, Keep s.heap s'.heap → ∀ R : Bool → Shared → Prop, R false s' → wpAny (model PySem.Challenge.pw_ep5037_01 w) A (isSame (.ref x) v) R E s')
    (h : wpAny (model PySem.Challenge.pw_ep5037_01 w) A (call (.ref f) [.ref x, v]) (fun r s1 => r = .notImplemented ∧ Keep s.heap s1.heap ∧ wpAny (model PySem.Challenge.pw_ep5037_01 w) A (call (.builtin id) [v, .ref x]) (fun r2 s2 => r2 = .notImplemented ∧ Keep s.heap s2.heap ∧ Q (.bool true) s2) E s1) E s) :
    wpAny (model PySem.Challenge.pw_ep5037_01 w) A (richCompare .NotEq (.ref x) v) Q E s := by
  have I : W.InstAt s.heap x ⟨.ref 139, some dx, .seq it 0, #[]⟩ 139 (some (dictOf es n)) := ⟨hx, rfl, rfl, hdx⟩
  unfold richCompare
  have e1 : oneThing? .NotEq (.ref x) v = none := oneThing_ref _ _ _
  simp only [e1]
  refine wpAny_holding (wpAny_bind (wpAny_cRoomFor hu ?_))
  refine wpAny_bind (I.type.here (wpAny_bind (wpAny_typeOf (hv s Keep.rfl) ?_)))
  rw [if_pos (show ((Value.ref 139 != Value.type T) = true) from rfl)]
  refine wpAny_bind ((looks_subIn X hsub).here ?_)
  simp only [Bool.false_eq_true, if_false]
  refine wpAny_bind ?_
  unfold tryCompare
  refine wpAny_bind (ifBound_K X I hs hf (wpAny_mono h (fun r s1 hr => ?_) fun _ _ e => e))
  obtain ⟨e, k1, hc⟩ := hr
  subst e
  refine wpAny_pure ?_
  simp only [Bool.not_false, if_true]
  refine wpAny_bind ?_
  refine wpAny_bind (wpAny_callSpecialIfBound?_slot (hv s1 k1) slot (wpAny_mono hc (fun r s2 hr => ?_) fun _ _ e => e))
  obtain ⟨e, k2, q⟩ := hr
  subst e
  refine wpAny_pure ?_
  refine wpAny_bind (wpAny_rule ?_)
  refine wpAny_bind (hsame _ k2 _ ?_)
  exact wpAny_pure q
theorem cmp_rev (w : World) {A : Around} {s : Shared} {op : CmpOp} {x y dx : Addr} {it : Array Value} {es : List DictEntry} {n : Nat} {oy : Obj} {f : Addr} {Q : Value → Shared → Prop} (hu : A.units < cLine) (X : (hd.heap_39 w.params).In s.heap)
    (hx : s.heap.get? x = some ⟨.ref 139, some dx, .seq it 0, #[]⟩) (hdx : s.heap.get? dx = some (dictOf es n)) (hy : s.heap.get? y = some oy) (cy : oy.cls = .type "tuple")
    (hsub : subIn (hd.heap_39 w.params) (.ref 139) (.type "tuple") = some true)
    (hs : findIn (hd.heap_39 w.params) (.ref 139) (cmpInfo op).2.2 = some (some (.ref f))) (hf : isFn (hd.heap_39 w.params) (.ref f) = true)
    (h : wpAny (model PySem.Challenge.pw_ep5037_01 w) A (call (.ref f) [.ref x, .ref y]) (W.CmpBack Q) E s) :
    wpAny (model PySem.Challenge.pw_ep5037_01 w) A (richCompare op (.ref y) (.ref x)) Q E s := by
  have I : W.InstAt s.heap x ⟨.ref 139, some dx, .seq it 0, #[]⟩ 139 (some (dictOf es n)) := ⟨hx, rfl, rfl, hdx⟩
  unfold richCompare
  have e1 : oneThing? op (.ref y) (.ref x) = none := oneThing_ref _ _ _
  simp only [e1]
  refine wpAny_holding (wpAny_bind (wpAny_cRoomFor hu ?_))
  refine wpAny_bind (wpAny_typeOf ⟨_, hy, cy⟩ (wpAny_bind (I.type.here ?_)))
  rw [if_pos (show ((Value.type "tuple" != Value.ref 139) = true) from rfl)]
  refine wpAny_bind ((looks_subIn X hsub).here ?_)
  simp only [if_true]
  refine wpAny_bind ?_
  unfold tryCompare
  refine wpAny_bind (ifBound_K X I hs hf (wpAny_mono h (fun v s' hv => ?_) fun _ _ e => e))
  cases v <;> first | exact hv.elim | exact wpAny_pure (wpAny_bind (wpAny_rule (wpAny_pure hv)))
end

end
section
def revOp : CmpOp → CmpOp
  | .Lt => .Gt
  | .LtE => .GtE
  | .Gt => .Lt
  | .GtE => .LtE
  | op => op
theorem tup_ver (w : World) {dp un fr gd} {p loose mean mg mb} (hdp : dp + 40 < 800) (hun : un + 400 < 8000) {s : Shared} (W : Wd w p loose mean mg mb s.heap) {E : Value → Shared → Prop} {op : CmpOp} (h6 : isSix op = true) {x y : Addr} {dk dl : PyData} {ity : Array Value} (hx : VerAt s.heap x dk) (hy : IsTup s.heap y ity) (hyd : Rd s.heap (.ref y) dl)
   (cc : CanCmp dk (keyD dl none none none)) {Q : Value → Shared → Prop} (hret : ∀ h' tk, Keep s.heap h' → Q (.bool (cmpA (revOp op) dk (keyD dl none none none))) { s with heap := h', toks := tk }) :
   wpAny (model PySem.Challenge.pw_ep5037_01 w) (ar dp un fr gd) (richCompare op (.ref y) (.ref x)) Q E s := by
  have hu : (ar dp un fr gd).units < cLine := by (show un < 9900); omega
  obtain ⟨dx, it, es, n, k, x1, x2, x3, x4⟩ := id hx
  obtain ⟨oy, y1, y2, ny, y3⟩ := id hy
  cases op <;> first | (exact absurd h6 (by decide)) | skip
  case Eq => exact cmp_rev w hu W.X' x1 x2 y1 y2 (by k_is) (by k_is : _ = some (some (Value.ref 94))) (by k_is) (wpAny_call (d94t w hdp hun W hx hy hyd cc fun h' tk k => hret _ _ k))
  case NotEq => exact cmp_rev w hu W.X' x1 x2 y1 y2 (by k_is) (by k_is : _ = some (some (Value.ref 101))) (by k_is) (wpAny_call (d101t w hdp hun W hx hy hyd cc fun h' tk k => hret _ _ k))
  case Lt => exact cmp_rev w hu W.X' x1 x2 y1 y2 (by k_is) (by k_is : _ = some (some (Value.ref 122))) (by k_is) (wpAny_call (d122t w hdp hun W hx hy hyd cc fun h' tk k => hret _ _ k))
  case LtE => exact cmp_rev w hu W.X' x1 x2 y1 y2 (by k_is) (by k_is : _ = some (some (Value.ref 129))) (by k_is) (wpAny_call (d129t w hdp hun W hx hy hyd cc fun h' tk k => hret _ _ k))
  case Gt => exact cmp_rev w hu W.X' x1 x2 y1 y2 (by k_is) (by k_is : _ = some (some (Value.ref 108))) (by k_is) (wpAny_call (d108t w hdp hun W hx hy hyd cc fun h' tk k => hret _ _ k))
  case GtE => exact cmp_rev w hu W.X' x1 x2 y1 y2 (by k_is) (by k_is : _ = some (some (Value.ref 115))) (by k_is) (wpAny_call (d115t w hdp hun W hx hy hyd cc fun h' tk k => hret _ _ k))
theorem ver_junk_eq (w : World) {dp un fr gd} {p loose mean mg mb} (hdp : dp + 40 < 800) (hun : un + 400 < 8000) {s : Shared} (W : Wd w p loose mean mg mb s.heap) {E : Value → Shared → Prop} {x : Addr} {v : Value} {dk : PyData} (hx : VerAt s.heap x dk) (hj : Junk v)
   {Q : Value → Shared → Prop} (hret : ∀ h' tk, Keep s.heap h' → Q (.bool false) { s with heap := h', toks := tk }) :
   wpAny (model PySem.Challenge.pw_ep5037_01 w) (ar dp un fr gd) (compareOp .Eq (.ref x) v) Q E s := by
  show wpAny _ _ (richCompare .Eq _ _) Q E s
  have hu : (ar dp un fr gd).units < cLine := by (show un < 9900); omega
  obtain ⟨dx, it, es, n, k, x1, x2, x3, x4⟩ := id hx
  have X := W.X'
  have hD : ∀ (u : Value) (hu : Junk u) {Q' : Value → Shared → Prop}, (∀ h' tk, Keep s.heap h' → Q' .notImplemented { s with heap := h', toks := tk }) → wpAny (model PySem.Challenge.pw_ep5037_01 w) (ar dp un fr gd) (call (.ref 94) [.ref x, u]) Q' E s := fun u hu Q' hq => wpAny_call (d94j w hdp hun W hx hu fun h' tk k => hq _ _ k)
  cases hj
  case l => exact decl_eq w hu X x1 x2 (fun s' k => ⟨_, k _ _ (X 160 _ (by k_is)), rfl⟩) (by k_is) (by k_is : _ = some (some (Value.ref 94))) (by k_is) PySem.F.slot_list_eq_refl (fun s' k R q => wpAny_isSame_ref_other (fun e => by rw [e, X 160 _ (by k_is)] at x1; cases x1) (k _ _ x1) (k _ _ (X 160 _ (by k_is))) (fun e => by cases e) q) (hD _ (by constructor) fun h1 t1 k1 => ⟨rfl, k1, wpAny_mono (wpAny_room rfl (by (show dp ≤ 900); omega) (by (show un ≤ 9000); omega) (jeq_l w (s := ⟨h1, s.gens, s.drawn, t1, s.os⟩) (Frag.In.keeps X k1) (k1 _ _ x1))) (fun v s' q => by obtain ⟨h2, t2, e1, e2, k2⟩ := q; subst e1; subst e2; exact ⟨rfl, Keep.trans k1 k2, hret _ _ (Keep.trans k1 k2)⟩) fun _ _ e => e.elim⟩)
  case s y t => exact decl_eq w hu X x1 x2 (fun s' _ => typeIs_str s' _ _) (by k_is) (by k_is : _ = some (some (Value.ref 94))) (by k_is) PySem.F.slot_str_eq_refl (fun s' k R q => wpAny_isSame_plain rfl q) (hD _ (by constructor) fun h1 t1 k1 => ⟨rfl, k1, wpAny_mono (wpAny_room rfl (by (show dp ≤ 900); omega) (by (show un ≤ 9000); omega) (jeq_s w (s := ⟨h1, s.gens, s.drawn, t1, s.os⟩) (Frag.In.keeps X k1) (k1 _ _ x1))) (fun v s' q => by obtain ⟨h2, t2, e1, e2, k2⟩ := q; subst e1; subst e2; exact ⟨rfl, Keep.trans k1 k2, hret _ _ (Keep.trans k1 k2)⟩) fun _ _ e => e.elim⟩)
  case n => exact decl_eq w hu X x1 x2 (fun _ _ => rfl) (by k_is) (by k_is : _ = some (some (Value.ref 94))) (by k_is) PySem.F.slot_NoneType_eq_refl (fun s' k R q => wpAny_isSame_plain rfl q) (hD _ (by constructor) fun h1 t1 k1 => ⟨rfl, k1, wpAny_mono (wpAny_room rfl (by (show dp ≤ 900); omega) (by (show un ≤ 9000); omega) (jeq_n w (s := ⟨h1, s.gens, s.drawn, t1, s.os⟩) (Frag.In.keeps X k1) (k1 _ _ x1))) (fun v s' q => by obtain ⟨h2, t2, e1, e2, k2⟩ := q; subst e1; subst e2; exact ⟨rfl, Keep.trans k1 k2, hret _ _ (Keep.trans k1 k2)⟩) fun _ _ e => e.elim⟩)
  case i y t => exact decl_eq w hu X x1 x2 (fun s' _ => typeIs_int s' _ _) (by k_is) (by k_is : _ = some (some (Value.ref 94))) (by k_is) PySem.F.slot_int_eq_refl (fun s' k R q => wpAny_isSame_plain rfl q) (hD _ (by constructor) fun h1 t1 k1 => ⟨rfl, k1, wpAny_mono (wpAny_room rfl (by (show dp ≤ 900); omega) (by (show un ≤ 9000); omega) (jeq_i w (s := ⟨h1, s.gens, s.drawn, t1, s.os⟩) (Frag.In.keeps X k1) (k1 _ _ x1))) (fun v s' q => by obtain ⟨h2, t2, e1, e2, k2⟩ := q; subst e1; subst e2; exact ⟨rfl, Keep.trans k1 k2, hret _ _ (Keep.trans k1 k2)⟩) fun _ _ e => e.elim⟩)
  case d => exact decl_eq w hu X x1 x2 (fun s' k => ⟨_, k _ _ (X 161 _ (by k_is)), rfl⟩) (by k_is) (by k_is : _ = some (some (Value.ref 94))) (by k_is) PySem.F.slot_dict_eq_refl (fun s' k R q => wpAny_isSame_ref_other (fun e => by rw [e, X 161 _ (by k_is)] at x1; cases x1) (k _ _ x1) (k _ _ (X 161 _ (by k_is))) (fun e => by cases e) q) (hD _ (by constructor) fun h1 t1 k1 => ⟨rfl, k1, wpAny_mono (wpAny_room rfl (by (show dp ≤ 900); omega) (by (show un ≤ 9000); omega) (jeq_d w (s := ⟨h1, s.gens, s.drawn, t1, s.os⟩) (Frag.In.keeps X k1) (k1 _ _ x1))) (fun v s' q => by obtain ⟨h2, t2, e1, e2, k2⟩ := q; subst e1; subst e2; exact ⟨rfl, Keep.trans k1 k2, hret _ _ (Keep.trans k1 k2)⟩) fun _ _ e => e.elim⟩)
  case b b => exact decl_eq w hu X x1 x2 (fun _ _ => rfl) (by k_is) (by k_is : _ = some (some (Value.ref 94))) (by k_is) PySem.F.slot_bool_eq_refl (fun s' k R q => wpAny_isSame_plain rfl q) (hD _ (by constructor) fun h1 t1 k1 => ⟨rfl, k1, wpAny_mono (wpAny_room rfl (by (show dp ≤ 900); omega) (by (show un ≤ 9000); omega) (jeq_b w (s := ⟨h1, s.gens, s.drawn, t1, s.os⟩) (Frag.In.keeps X k1) (k1 _ _ x1))) (fun v s' q => by obtain ⟨h2, t2, e1, e2, k2⟩ := q; subst e1; subst e2; exact ⟨rfl, Keep.trans k1 k2, hret _ _ (Keep.trans k1 k2)⟩) fun _ _ e => e.elim⟩)
theorem ver_junk_ne (w : World) {dp un fr gd} {p loose mean mg mb} (hdp : dp + 40 < 800) (hun : un + 400 < 8000) {s : Shared} (W : Wd w p loose mean mg mb s.heap) {E : Value → Shared → Prop} {x : Addr} {v : Value} {dk : PyData} (hx : VerAt s.heap x dk) (hj : Junk v)
   {Q : Value → Shared → Prop} (hret : ∀ h' tk, Keep s.heap h' → Q (.bool true) { s with heap := h', toks := tk }) :
   wpAny (model PySem.Challenge.pw_ep5037_01 w) (ar dp un fr gd) (compareOp .NotEq (.ref x) v) Q E s := by
  show wpAny _ _ (richCompare .NotEq _ _) Q E s
  have hu : (ar dp un fr gd).units < cLine := by (show un < 9900); omega
  obtain ⟨dx, it, es, n, k, x1, x2, x3, x4⟩ := id hx
  have X := W.X'
  have hD : ∀ (u : Value) (hu : Junk u) {Q' : Value → Shared → Prop}, (∀ h' tk, Keep s.heap h' → Q' .notImplemented { s with heap := h', toks := tk }) → wpAny (model PySem.Challenge.pw_ep5037_01 w) (ar dp un fr gd) (call (.ref 101) [.ref x, u]) Q' E s := fun u hu Q' hq => wpAny_call (d101j w hdp hun W hx hu fun h' tk k => hq _ _ k)
  cases hj
  case l => exact decl_ne w hu X x1 x2 (fun s' k => ⟨_, k _ _ (X 160 _ (by k_is)), rfl⟩) (by k_is) (by k_is : _ = some (some (Value.ref 101))) (by k_is) PySem.F.slot_list_ne_refl (fun s' k R q => wpAny_isSame_ref_other (fun e => by rw [e, X 160 _ (by k_is)] at x1; cases x1) (k _ _ x1) (k _ _ (X 160 _ (by k_is))) (fun e => by cases e) q) (hD _ (by constructor) fun h1 t1 k1 => ⟨rfl, k1, wpAny_mono (wpAny_room rfl (by (show dp ≤ 900); omega) (by (show un ≤ 9000); omega) (jne_l w (s := ⟨h1, s.gens, s.drawn, t1, s.os⟩) (Frag.In.keeps X k1) (k1 _ _ x1))) (fun v s' q => by obtain ⟨h2, t2, e1, e2, k2⟩ := q; subst e1; subst e2; exact ⟨rfl, Keep.trans k1 k2, hret _ _ (Keep.trans k1 k2)⟩) fun _ _ e => e.elim⟩)
  case s y t => exact decl_ne w hu X x1 x2 (fun s' _ => typeIs_str s' _ _) (by k_is) (by k_is : _ = some (some (Value.ref 101))) (by k_is) PySem.F.slot_str_ne_refl (fun s' k R q => wpAny_isSame_plain rfl q) (hD _ (by constructor) fun h1 t1 k1 => ⟨rfl, k1, wpAny_mono (wpAny_room rfl (by (show dp ≤ 900); omega) (by (show un ≤ 9000); omega) (jne_s w (s := ⟨h1, s.gens, s.drawn, t1, s.os⟩) (Frag.In.keeps X k1) (k1 _ _ x1))) (fun v s' q => by obtain ⟨h2, t2, e1, e2, k2⟩ := q; subst e1; subst e2; exact ⟨rfl, Keep.trans k1 k2, hret _ _ (Keep.trans k1 k2)⟩) fun _ _ e => e.elim⟩)
  case n => exact decl_ne w hu X x1 x2 (fun _ _ => rfl) (by k_is) (by k_is : _ = some (some (Value.ref 101))) (by k_is) PySem.F.slot_NoneType_ne_refl (fun s' k R q => wpAny_isSame_plain rfl q) (hD _ (by constructor) fun h1 t1 k1 => ⟨rfl, k1, wpAny_mono (wpAny_room rfl (by (show dp ≤ 900); omega) (by (show un ≤ 9000); omega) (jne_n w (s := ⟨h1, s.gens, s.drawn, t1, s.os⟩) (Frag.In.keeps X k1) (k1 _ _ x1))) (fun v s' q => by obtain ⟨h2, t2, e1, e2, k2⟩ := q; subst e1; subst e2; exact ⟨rfl, Keep.trans k1 k2, hret _ _ (Keep.trans k1 k2)⟩) fun _ _ e => e.elim⟩)
  case i y t => exact decl_ne w hu X x1 x2 (fun s' _ => typeIs_int s' _ _) (by k_is) (by k_is : _ = some (some (Value.ref 101))) (by k_is) PySem.F.slot_int_ne_refl (fun s' k R q => wpAny_isSame_plain rfl q) (hD _ (by constructor) fun h1 t1 k1 => ⟨rfl, k1, wpAny_mono (wpAny_room rfl (by (show dp ≤ 900); omega) (by (show un ≤ 9000); omega) (jne_i w (s := ⟨h1, s.gens, s.drawn, t1, s.os⟩) (Frag.In.keeps X k1) (k1 _ _ x1))) (fun v s' q => by obtain ⟨h2, t2, e1, e2, k2⟩ := q; subst e1; subst e2; exact ⟨rfl, Keep.trans k1 k2, hret _ _ (Keep.trans k1 k2)⟩) fun _ _ e => e.elim⟩)
  case d => exact decl_ne w hu X x1 x2 (fun s' k => ⟨_, k _ _ (X 161 _ (by k_is)), rfl⟩) (by k_is) (by k_is : _ = some (some (Value.ref 101))) (by k_is) PySem.F.slot_dict_ne_refl (fun s' k R q => wpAny_isSame_ref_other (fun e => by rw [e, X 161 _ (by k_is)] at x1; cases x1) (k _ _ x1) (k _ _ (X 161 _ (by k_is))) (fun e => by cases e) q) (hD _ (by constructor) fun h1 t1 k1 => ⟨rfl, k1, wpAny_mono (wpAny_room rfl (by (show dp ≤ 900); omega) (by (show un ≤ 9000); omega) (jne_d w (s := ⟨h1, s.gens, s.drawn, t1, s.os⟩) (Frag.In.keeps X k1) (k1 _ _ x1))) (fun v s' q => by obtain ⟨h2, t2, e1, e2, k2⟩ := q; subst e1; subst e2; exact ⟨rfl, Keep.trans k1 k2, hret _ _ (Keep.trans k1 k2)⟩) fun _ _ e => e.elim⟩)
  case b b => exact decl_ne w hu X x1 x2 (fun _ _ => rfl) (by k_is) (by k_is : _ = some (some (Value.ref 101))) (by k_is) PySem.F.slot_bool_ne_refl (fun s' k R q => wpAny_isSame_plain rfl q) (hD _ (by constructor) fun h1 t1 k1 => ⟨rfl, k1, wpAny_mono (wpAny_room rfl (by (show dp ≤ 900); omega) (by (show un ≤ 9000); omega) (jne_b w (s := ⟨h1, s.gens, s.drawn, t1, s.os⟩) (Frag.In.keeps X k1) (k1 _ _ x1))) (fun v s' q => by obtain ⟨h2, t2, e1, e2, k2⟩ := q; subst e1; subst e2; exact ⟨rfl, Keep.trans k1 k2, hret _ _ (Keep.trans k1 k2)⟩) fun _ _ e => e.elim⟩)

end
section
def Six (w : World) (dp un : Nat) (gd : Option (List Code)) (s : Shared) (a b : Value) (f : CmpOp → Bool) : Prop :=
  ∀ op, isSix op = true → ∀ (E : Value → Shared → Prop) fr h tk Q, Keep s.heap h → (∀ h' tk', Keep s.heap h' → Keep h h' → Q (.bool (f op)) ⟨h', s.gens, s.drawn, tk', s.os⟩) →
    wpAny (model PySem.Challenge.pw_ep5037_01 w) (ar (dp + 1) (un + 3) fr gd) (compareOp op a b) Q E ⟨h, s.gens, s.drawn, tk, s.os⟩
def sixL (f : CmpOp → Bool) : List PyData := [.bool (f .Lt), .bool (f .LtE), .bool (f .Eq), .bool (f .NotEq), .bool (f .Gt), .bool (f .GtE)]
theorem c218 (w : World) {dp un fr gd} {p loose mg mb} (hdp : dp + 30 < 800) (hun : un + 300 < 8000) {s : Shared} (X : (hd.heap_39 w.params).In s.heap) (T : TopRead p loose mg mb s.heap) {a b : Value} {f : CmpOp → Bool} (S : Six w dp un gd s a b f) {R : Result → Shared → Prop} (hret : ∀ l h' tk, Keep s.heap h' → Reads h' (.ref l) (.list (sixL f)) [l] → R (.ok (.ret (.ref l))) { s with heap := h', toks := tk }) :
   codeAny (model PySem.Challenge.pw_ep5037_01 w) (ar dp un fr gd) (.call (.ref 218) ⟨[a, b], []⟩) R s := by
  have hA : dp < recursionLimit := by (show dp < 1000); omega
  refine' code_pure X T hA ?k6 ?k7 ?k9 ?kB ?_ ?c2 ?c3 ?c4 ?c5
  case k6 => k_is
  case k7 => k_is
  case k9 => first | exact BindsTo.of_eq rfl | exact binds_K X rfl (by k_is) rfl rfl rfl | (refine' kp_binds ?kx ?ke; (case kx => exact X); (case ke => exact fun _ => rfl))
  case kB => exact locs rfl
  case c2 => exact rfl
  case c3 => exact rfl
  case c4 => exact rfl
  case c5 => decide
  intro h1 F N
  try dsimp only
  k_fold
  k_steps
  refine S .Lt rfl _ _ _ _ _ (Fr.keep (by k_asm)) fun h2 tk2 k0 k2 => ?_
  (have F' := Fr.kept (by k_asm) k2)
  (have N' := News.grown (by k_asm) k2)
  (try dsimp only)
  clear k0 k2
  k_steps
  refine S .LtE rfl _ _ _ _ _ (Fr.keep (by k_asm)) fun h2 tk2 k0 k2 => ?_
  (have F' := Fr.kept (by k_asm) k2)
  (have N' := News.grown (by k_asm) k2)
  (try dsimp only)
  clear k0 k2
  k_steps
  refine S .Eq rfl _ _ _ _ _ (Fr.keep (by k_asm)) fun h2 tk2 k0 k2 => ?_
  (have F' := Fr.kept (by k_asm) k2)
  (have N' := News.grown (by k_asm) k2)
  (try dsimp only)
  clear k0 k2
  k_steps
  refine S .NotEq rfl _ _ _ _ _ (Fr.keep (by k_asm)) fun h2 tk2 k0 k2 => ?_
  (have F' := Fr.kept (by k_asm) k2)
  (have N' := News.grown (by k_asm) k2)
  (try dsimp only)
  clear k0 k2
  k_steps
  refine S .Gt rfl _ _ _ _ _ (Fr.keep (by k_asm)) fun h2 tk2 k0 k2 => ?_
  (have F' := Fr.kept (by k_asm) k2)
  (have N' := News.grown (by k_asm) k2)
  (try dsimp only)
  clear k0 k2
  k_steps
  refine S .GtE rfl _ _ _ _ _ (Fr.keep (by k_asm)) fun h2 tk2 k0 k2 => ?_
  (have F' := Fr.kept (by k_asm) k2)
  (have N' := News.grown (by k_asm) k2)
  (try dsimp only)
  clear k0 k2
  k_steps
  refine hret _ _ _ (Fr.keep (by k_asm)) ?_
  exact Reads.list (as := []) (News.get (by k_asm) (by k_mem)) rfl rfl (ReadsAll.cons (as := []) (bs := []) (Reads.bool _) (ReadsAll.cons (as := []) (bs := []) (Reads.bool _) (ReadsAll.cons (as := []) (bs := []) (Reads.bool _) (ReadsAll.cons (as := []) (bs := []) (Reads.bool _) (ReadsAll.cons (as := []) (bs := []) (Reads.bool _) (ReadsAll.cons (as := []) (bs := []) (Reads.bool _) ReadsAll.nil))))))

end
section
theorem six_rd (w : World) {dp un gd} (hun : un + 400 < 8000) {s : Shared} {a b : Value} {da db : PyData} (ra : Rd s.heap a da) (rb : Rd s.heap b db) (cc : CanCmp da db) : Six w dp un gd s a b (fun op => cmpA op da db) := by
  intro op h6 E fr h tk Q k hq
  have e : compareOp op a b = richCompare op a b := by cases op <;> first | rfl | exact absurd h6 (by decide)
  rw [e]
  exact rich_all h6 (Rd.keeps k ra) (Rd.keeps k rb) cc (by show un + 3 + 100 < 9000; omega) (hq _ _ k Keep.rfl)
theorem six_tv (w : World) {dp un gd} {p loose mean mg mb} (hdp : dp + 50 < 800) (hun : un + 500 < 8000) {s : Shared} (W : Wd w p loose mean mg mb s.heap) {x y : Addr} {dk dl : PyData} {ity : Array Value} (hx : VerAt s.heap x dk) (hy : IsTup s.heap y ity) (hyd : Rd s.heap (.ref y) dl)
   (cc : CanCmp dk (keyD dl none none none)) : Six w dp un gd s (.ref y) (.ref x) (fun op => cmpA (revOp op) dk (keyD dl none none none)) := by
  intro op h6 E fr h tk Q k hq
  have e : compareOp op (.ref y) (.ref x) = richCompare op (.ref y) (.ref x) := by cases op <;> first | rfl | exact absurd h6 (by decide)
  rw [e]
  exact tup_ver (s := ⟨h, s.gens, s.drawn, tk, s.os⟩) w (by omega) (by omega) (Wd.keeps W k) h6 (VerAt.keeps k hx) (IsTup.keeps hy k) (Rd.keeps k hyd) cc fun h' tk' k' => hq _ _ (Keep.trans k k') k'

end
section
open PySem.Calls
def Odd (o : Obj) : Prop := (∃ es n, o.data = .dict es n) ∨ (o.cls ≠ .type "tuple" ∧ ∀ a, o.cls ≠ .ref a)
theorem Odd.of {o : Obj} {T : String} (c : o.cls = .type T) (n : T ≠ "tuple") : Odd o := .inr ⟨fun q => (by rw [c] at q; cases q; exact n rfl), fun a q => (by rw [c] at q; cases q)⟩
def OddAll (h : Heap) (ms : List Addr) : Prop := ∀ a ∈ ms, ∃ o, h.get? a = some o ∧ Odd o
theorem OddAll.keeps {h h' : Heap} {ms : List Addr} (k : Keep h h') (x : OddAll h ms) : OddAll h' ms := fun a ha => let ⟨o, e, q⟩ := x a ha; ⟨o, k _ _ e, q⟩
theorem hide_but {h h' : Heap} {ms : List Addr} (k : ∀ b o, b ∉ ms → h.get? b = some o → h'.get? b = some o) : Keep (hideAll h ms) (hideAll h' ms) := fun b o e => by
  have hb : b ∉ ms := fun hm => by rw [hideAll_none _ hm] at e; cases e
  exact hideAll_get _ (k b o hb (of_hideAll _ e)) hb
theorem hide_sub {h : Heap} {ms ns : List Addr} (sub : ∀ a ∈ ns, a ∈ ms) : Keep (hideAll h ms) (hideAll h ns) := fun b o e => by
  have hb : b ∉ ms := fun hm => by rw [hideAll_none _ hm] at e; cases e
  exact hideAll_get _ (of_hideAll _ e) fun hm => hb (sub _ hm)
theorem fresh_none {h : Heap} {a : Addr} (ha : h.objs.size ≤ a) : h.get? a = none := by
  cases e : h.get? a with
  | none => rfl
  | some o' => exact absurd (Heap.lt_size e) (Nat.not_lt.mpr ha)
section
variable {prog : Program} {w : World} {A : Around} {E : Value → Shared → Prop} {s : Shared} {env : Env}
theorem comp_loop {elt iter : Expr} {x : Str} {px : Pos} {scope : Scope} {cl : List (Str × Addr)} {pos : Pos} {Q : Value → Shared → Prop} {use : Option (Value → Sem Unit)} {ms : List Addr} {Inv : Nat → List Value → Heap → Prop} (hh : A.handled = none)
    (mono : ∀ n ys h h', Keep h h' → Inv n ys h → Inv n ys h') (hcell : ∀ y ∈ scope.names, y.2 ≠ .cell) (hkind : scope.kind = .function) (hx : scope.names.lookup x = some .local)
    {s₁ : Shared} {ax : Addr} {its : Array Value} (hl : s₁.heap.IsList ax its) (hsz : its.size ≤ sizeLine) (odd : OddAll s₁.heap ms) (inv0 : Inv 0 [] (hideAll s₁.heap ms))
    (turn : ∀ i v ys C ms' m₂ h tk (E' : Value → Shared → Prop), its[i]? = some v → ys.length = i → h.Ns C m₂ → m₂ x = some v → Keep s₁.heap h → OddAll h (ms' ++ ms) → Inv i ys (hideAll h (ms' ++ ms)) →
         wpAny (model prog w) A (eval elt (compEnvC scope cl C env)) (fun y s₂ => ∃ h' tk', s₂ = { s₁ with heap := h', toks := tk' } ∧ Keep h h' ∧ Inv (i + 1) (ys ++ [y]) (hideAll h' (ms' ++ ms))) E' { s₁ with heap := h, toks := tk })
    (fin : ∀ ys D C m' h tk, Keep s₁.heap h → h.get? D = some (LCg.lst ys) → s₁.heap.get? D = none → s₁.heap.get? C = none → D ≠ C → h.Ns C m' → ys.length = its.size → Inv its.size ys (hideAll h (C :: D :: ms)) →
      compPost (model prog w) A E use Q (.ref D) C (.ok .next) { s₁ with heap := h, toks := tk }) :
    wpAny (model prog w) A (pyIter (.ref ax)) (fun it s₂ => wpAny (model prog w) A (newList []) (fun acc s₃ =>
      wpAny (model prog w) A (newFunctionEnv scope env.globals cl [] env.qual none .none (some env)) (fun cenv s₄ =>
        codeAny (model prog w) A (.compStart (.ListComp elt [⟨.Name x px, iter, [], 0⟩] scope pos) 0 it acc { cenv with scope := relabel scope env }) (compPost (model prog w) A E use Q acc cenv.locals) s₄) E s₃) E s₂) E s₁ := by
  refine wpAny_pyIter_list hl ?_
  have hlt : ax < s₁.heap.objs.size := by obtain ⟨_, e, _⟩ := hl; exact Heap.lt_size e
  have WK := Walks.list (prog := prog) (w := w) hh s₁.heap.objs.size ax (Nat.ne_of_lt hlt) its
  generalize hH1 : s₁.heap.push { cls := .type "list_iterator", data := .fields #[.ref ax, .int 0 0] } = H1
  have up1 : ∀ b o, s₁.heap.get? b = some o → H1.get? b = some o := fun b o e => hH1 ▸ Heap.get?_push_of_some _ e
  have z1 : H1.objs.size = s₁.heap.objs.size + 1 := by rw [← hH1, Heap.size_push]
  have st0 : H1.IsListIter s₁.heap.objs.size ax 0 ∧ H1.IsList ax its := by rw [← hH1]; exact ⟨⟨_, Heap.get?_push_size _ rfl, rfl, rfl⟩, hl.push _⟩
  refine wpAny_newObj_type (wpAny_newFunctionEnv hcell (by intro y hy; simp at hy) (fun h₁ hns₁ hsb₁ => ?_) hkind)
  dsimp only at hns₁ hsb₁ ⊢
  generalize hH2 : H1.push { cls := .type "list", dict := none, data := .seq ([] : List Value).toArray } = H2 at hns₁ hsb₁ ⊢
  have z2 : H2.objs.size = H1.objs.size + 1 := by rw [← hH2, Heap.size_push]
  have up2 : ∀ b o, H1.get? b = some o → H2.get? b = some o := fun b o e => hH2 ▸ Heap.get?_push_of_some _ e
  have gD : H2.get? H1.objs.size = some (LCg.lst []) := by rw [← hH2]; exact Heap.get?_push_size _ rfl
  have up3 : ∀ b o, b ≠ H2.objs.size → H2.get? b = some o → h₁.get? b = some o := fun b o hb e => hsb₁.extBut b o hb (Heap.get?_push_of_some _ e)
  have up13 : ∀ b o, H1.get? b = some o → h₁.get? b = some o := fun b o e => up3 b o (Nat.ne_of_lt (by have q := Heap.lt_size e; rw [z2]; exact Nat.lt_succ_of_lt q)) (up2 b o e)
  have hIC : s₁.heap.objs.size ≠ H2.objs.size := by omega
  have hID : s₁.heap.objs.size ≠ H1.objs.size := by omega
  have hDC : H1.objs.size ≠ H2.objs.size := by omega
  have hax : ax ≠ H2.objs.size := Nat.ne_of_lt (by rw [z2, z1]; exact Nat.lt_succ_of_lt (Nat.lt_succ_of_lt hlt))
  have haD : ax ≠ H1.objs.size := Nat.ne_of_lt (by rw [z1]; exact Nat.lt_succ_of_lt hlt)
  generalize hI : s₁.heap.objs.size = I at *
  generalize hD : H1.objs.size = D at *
  generalize hC : H2.objs.size = C at *
  have hC1 : h₁.Ns C (fun x => ([] : List (Str × Value)).reverse.lookup x) := hns₁
  have nI : s₁.heap.get? I = none := fresh_none (by omega)
  have nD : s₁.heap.get? D = none := fresh_none (by omega)
  have nC : s₁.heap.get? C = none := fresh_none (by omega)
  have ne3 : ∀ b o, s₁.heap.get? b = some o → b ≠ I ∧ b ≠ C ∧ b ≠ D := fun b o e => ⟨fun q => (by rw [q, nI] at e; cases e), fun q => (by rw [q, nC] at e; cases e), fun q => (by rw [q, nD] at e; cases e)⟩
  have oddAt : ∀ (g : Heap) i m₂ ys, (∀ b o, s₁.heap.get? b = some o → g.get? b = some o) → (g.IsListIter I ax i) → g.Ns C m₂ → g.get? D = some (LCg.lst ys) → OddAll g ([I, C, D] ++ ms) := by
    intro g i m₂ ys k st hn gd a ha
    rcases List.mem_append.mp ha with ha | ha
    · rcases List.mem_cons.mp ha with rfl | ha
      · obtain ⟨o, e, c, _⟩ := st; exact ⟨o, e, .of c (by decide)⟩
      · rcases List.mem_cons.mp ha with rfl | ha
        · obtain ⟨o, es, ep, e, d, _⟩ := hn; exact ⟨o, e, .inl ⟨_, _, d⟩⟩
        · rw [List.mem_singleton.mp ha]; exact ⟨_, gd, .of (T := "list") rfl (by decide)⟩
    · exact OddAll.keeps k odd a ha
  have loop : ∀ s₃ : Shared, s₃ = { s₁ with heap := h₁, toks := s₁.toks + ([] : List (Str × Value)).length } →
      codeAny (model prog w) A (.compLoop (.ListComp elt [⟨.Name x px, iter, [], 0⟩] scope pos) 0 (.ref I) (.ref D) (compEnvC scope cl C env)) (compPost (model prog w) A E use Q (.ref D) C) s₃ := by
    rintro s₃ rfl
    refine codeAny_compLoop_tests
      (fun k s' => ∃ h' tk i ys m', s' = { s₁ with heap := h', toks := tk } ∧ i ≤ its.size ∧ k = its.size + 1 - i ∧ ys.length = i ∧ (h'.IsListIter I ax i ∧ h'.IsList ax its) ∧ h'.Ns C m' ∧ h'.get? D = some (LCg.lst ys) ∧
        Keep s₁.heap h' ∧ Inv i ys (hideAll h' ([I, C, D] ++ ms))) ?_ (its.size + 1)
      ⟨h₁, _, 0, [], _, rfl, Nat.zero_le _, rfl, rfl, ⟨st0.1.at fun o e => up13 _ o e, st0.2.at fun o e => up13 _ o e⟩, hC1, up3 _ _ hDC gD, fun b o e => up13 b o (up1 b o e), mono _ _ _ _ (fun b o e => ?_) inv0⟩
    · rintro k s' ⟨h', tk, i, ys, m', rfl, hi, rfl, hyl, hst', hn', gD', kp, inv⟩
      by_cases hlt : i < its.size
      · refine WK.item i _ _ _ hlt hst' fun v h₂ tk₂ hPv hst₂ hk₂ => ?_
        have hk₂' : ∀ b o, b ≠ I → h'.get? b = some o → h₂.get? b = some o := fun b o hb e => hk₂ b o (fun hm => hb (List.mem_singleton.mp hm)) e
        refine wpAny_assign_Name (wpAny_storeName_local (lookup_relabel_local hx) (hn'.at' fun o e => hk₂' _ o (Ne.symm hIC) e) (fun h₃ hn₃ hs₃ => ?_) (by simp [compEnvC, relabel, hkind]))
        refine wpAny_tests_nil ?_
        simp only [if_true]
        have hs₃' : ∀ b o, b ≠ C → h₂.get? b = some o → h₃.get? b = some o := fun b o hb e => hs₃.extBut b o hb e
        have hst₃ : h₃.IsListIter I ax (i + 1) ∧ h₃.IsList ax its := ⟨hst₂.1.at fun o e => hs₃' _ o hIC e, hst₂.2.at fun o e => hs₃' _ o hax e⟩
        have gD₃ : h₃.get? D = some (LCg.lst ys) := hs₃' _ _ hDC (hk₂' _ _ (Ne.symm hID) gD')
        have kp₃ : Keep s₁.heap h₃ := fun b o e => hs₃' b o (ne3 b o e).2.1 (hk₂' b o (ne3 b o e).1 (kp b o e))
        have inv₃ : Inv i ys (hideAll h₃ ([I, C, D] ++ ms)) := mono _ _ _ _ (hide_but fun b o hb e => hs₃' b o (fun q => hb (by rw [q]; simp)) (hk₂' b o (fun q => hb (by rw [q]; simp)) e)) inv
        refine wpAny_mono (turn i v ys C [I, C, D] _ h₃ _ _ hPv hyl hn₃ (by simp) kp₃ (oddAt _ _ _ _ kp₃ hst₃.1 hn₃ gD₃) inv₃) (fun y s₄ h₄ => ?_) fun _ _ e => e
        obtain ⟨h₄, tk₄, rfl, kp₄, inv₄⟩ := h₄
        refine append_at (hsz := by show ys.toArray.size ≤ sizeLine; rw [List.size_toArray, hyl]; exact Nat.le_trans hi hsz) (kp₄ _ _ gD₃) fun h₅ hs₅ hD₅ => ?_
        have hs₅' : ∀ b o, b ≠ D → h₄.get? b = some o → h₅.get? b = some o := fun b o hb e => hs₅.extBut b o hb e
        refine ⟨its.size + 1 - (i + 1), by omega, h₅, tk₄, i + 1, ys ++ [y], _, rfl, hlt, rfl, by rw [List.length_append, List.length_singleton, hyl], ⟨hst₃.1.at fun o e => hs₅' _ o hID (kp₄ _ o e), hst₃.2.at fun o e => hs₅' _ o haD (kp₄ _ o e)⟩,
          hn₃.at' fun o e => hs₅' _ o (Ne.symm hDC) (kp₄ _ o e), hD₅.trans (congrArg some (LCg.lst_snoc ys y)), fun b o e => hs₅' b o (ne3 b o e).2.2 (kp₄ _ _ (kp₃ b o e)), mono _ _ _ _ (hide_but fun b o hb e => hs₅' b o (fun q => hb (by rw [q]; simp)) e) inv₄⟩
      · obtain rfl : i = its.size := Nat.le_antisymm hi (Nat.not_lt.mp hlt)
        refine WK.done _ _ _ hst' fun h₂ tk₂ hk₂ => ?_
        have hk₂' : ∀ b o, b ≠ I → h'.get? b = some o → h₂.get? b = some o := fun b o hb e => hk₂ b o (fun hm => hb (List.mem_singleton.mp hm)) e
        refine fin ys D C m' h₂ tk₂ (fun b o e => hk₂' b o (ne3 b o e).1 (kp b o e)) (hk₂' _ _ (Ne.symm hID) gD') nD nC hDC (hn'.at' fun o e => hk₂' _ o (Ne.symm hIC) e) hyl ?_
        refine mono _ _ _ _ (Keep.trans (hide_but fun b o hb e => hk₂' b o (fun q => hb (by rw [q]; simp)) e) (hide_sub fun a ha => ?_)) inv
        rcases List.mem_cons.mp ha with rfl | ha
        · simp
        · rcases List.mem_cons.mp ha with rfl | ha
          · simp
          · exact List.mem_append_right _ ha
    · have hb : b ∉ ms := fun hm => by rw [hideAll_none _ hm] at e; cases e
      have e' := of_hideAll _ e
      refine hideAll_get _ (up13 b o (up1 b o e')) fun hm => ?_
      have := ne3 b o e'
      rcases List.mem_append.mp hm with hm | hm
      · simp at hm; rcases hm with q | q | q
        · exact this.1 q
        · exact this.2.1 q
        · exact this.2.2 q
      · exact hb hm
  exact codeAny_compStart_list (loop _ rfl) (WK.self 0 _ _ _ ⟨st0.1.at fun o e => up13 _ o e, st0.2.at fun o e => up13 _ o e⟩ (loop _ rfl))
theorem comp_own {elt iter : Expr} {x : Str} {px : Pos} {scope : Scope} {cl : List (Str × Addr)} {pos : Pos} {Q : Value → Shared → Prop} {ms : List Addr} (hh : A.handled = none)
    (hclos : closureFor scope env = pure cl) (hcell : ∀ y ∈ scope.names, y.2 ≠ .cell) (hkind : scope.kind = .function)
    (hnames : ∀ y ∈ scope.names, y.2 = .local → scope.names.lookup y.1 = some .local) (hx : scope.names.lookup x = some .local)
    (h : wpAny (model prog w) A (eval iter env) (fun xv s₁ => ∃ (Inv : Nat → List Value → Heap → Prop) (ax : Addr) (its : Array Value), (∀ n ys h h', Keep h h' → Inv n ys h → Inv n ys h') ∧ xv = .ref ax ∧ s₁.heap.IsList ax its ∧ its.size ≤ sizeLine ∧ OddAll s₁.heap ms ∧ Inv 0 [] (hideAll s₁.heap ms) ∧
      (∀ i v ys C ms' m₂ h tk (E' : Value → Shared → Prop), its[i]? = some v → ys.length = i → h.Ns C m₂ → m₂ x = some v → Keep s₁.heap h → OddAll h (ms' ++ ms) → Inv i ys (hideAll h (ms' ++ ms)) →
         wpAny (model prog w) A (eval elt (compEnvC scope cl C env)) (fun y s₂ => ∃ h' tk', s₂ = { s₁ with heap := h', toks := tk' } ∧ Keep h h' ∧ Inv (i + 1) (ys ++ [y]) (hideAll h' (ms' ++ ms))) E' { s₁ with heap := h, toks := tk }) ∧
      (∀ ys D h tk, Keep s₁.heap h → h.get? D = some (LCg.lst ys) → s₁.heap.get? D = none → ys.length = its.size → Inv its.size ys (hideAll h (D :: ms)) → Q (.ref D) { s₁ with heap := h, toks := tk })) E s)
    (hs : ∀ x, foldedSetIterable iter env x = pure x := by intro _; rfl) :
    wpAny (model prog w) A (eval (.ListComp elt [⟨.Name x px, iter, [], 0⟩] scope pos) env) Q E s := by
  rw [eval_ListComp]
  refine wpAny_comprehension_free (use := none) rfl hs hclos hkind hnames (wpAny_mono h (fun xv s₁ h₁ => ?_) fun _ _ e => e)
  obtain ⟨Inv, ax, its, mono, rfl, hl, hsz, odd, inv0, turn, done⟩ := h₁
  refine comp_loop hh mono hcell hkind hx hl hsz odd inv0 turn fun ys D C m' h tk kp gD nD nC ne hn hyl inv => ?_
  refine ⟨m', hn, fun h'' hs'' => ?_⟩
  have hs' : ∀ b o, b ≠ C → h.get? b = some o → h''.get? b = some o := fun b o hb e => hs''.extBut b o hb e
  exact done ys D h'' tk (fun b o e => hs' b o (fun q => by rw [q, nC] at e; cases e) (kp b o e)) (hs' _ _ ne gD) nD hyl
    (mono _ _ _ _ (Keep.trans (hide_but fun b o hb e => hs' b o (fun q => hb (by rw [q]; simp)) e) (hide_sub fun a ha => List.mem_cons_of_mem _ ha)) inv)
theorem comp_own_assign {elt iter : Expr} {x y : Str} {px py : Pos} {scope : Scope} {cl : List (Str × Addr)} {pos spos : Pos} {Q : Flow → Shared → Prop} {ms : List Addr} {h₀ : Heap} {L : Addr} (hh : A.handled = none)
    (hLe : env.locals = L) (hLm : L ∈ ms)
    (hsw : swapsWith (.ListComp elt [⟨.Name x px, iter, [], 0⟩] scope pos) (some (.Name y py)) spos.line env = pure true)
    (hclos : closureFor scope env = pure cl) (hcell : ∀ y ∈ scope.names, y.2 ≠ .cell) (hkind : scope.kind = .function)
    (hnames : ∀ y ∈ scope.names, y.2 = .local → scope.names.lookup y.1 = some .local) (hx : scope.names.lookup x = some .local)
    (hy : env.kindOf y = some .local) (hp : (env.scope.kind == .class || (env.scope.kind == .module && env.locals != env.globals)) = false)
    (h : wpAny (model prog w) A (eval iter env) (fun xv s₁ => ∃ (Inv : Nat → List Value → Heap → Prop) (ax : Addr) (its : Array Value) (m : Str → Option Value) (news : List (Addr × Obj)), (∀ n ys h h', Keep h h' → Inv n ys h → Inv n ys h') ∧ xv = .ref ax ∧ s₁.heap.IsList ax its ∧ its.size ≤ sizeLine ∧ OddAll s₁.heap ms ∧ Inv 0 [] (hideAll s₁.heap ms) ∧ Fr h₀ L s₁.heap m ∧ News h₀ L s₁.heap news ∧
      (∀ i v ys C ms' m₂ h tk (E' : Value → Shared → Prop), its[i]? = some v → ys.length = i → h.Ns C m₂ → m₂ x = some v → Keep s₁.heap h → OddAll h (ms' ++ ms) → Inv i ys (hideAll h (ms' ++ ms)) →
         wpAny (model prog w) A (eval elt (compEnvC scope cl C env)) (fun y s₂ => ∃ h' tk', s₂ = { s₁ with heap := h', toks := tk' } ∧ Keep h h' ∧ Inv (i + 1) (ys ++ [y]) (hideAll h' (ms' ++ ms))) E' { s₁ with heap := h, toks := tk }) ∧
      (∀ ys D h tk, Fr h₀ L h (fun z => if z = y then some (.ref D) else m z) → News h₀ L h ((D, LCg.lst ys) :: news) → ys.length = its.size → Keep (hideAll s₁.heap ms) (hideAll h ms) → Inv its.size ys (hideAll h (D :: ms)) → Q .next { s₁ with heap := h, toks := tk })) E s)
    (hs : ∀ x, foldedSetIterable iter env x = pure x := by intro _; rfl) :
    wpAny (model prog w) A (exec (.Assign [.Name y py] (.ListComp elt [⟨.Name x px, iter, [], 0⟩] scope pos) spos) env) Q E s := by
  subst hLe
  rw [exec_Assign_Name_used _ _ _ _ hsw]
  refine wpAny_bind (wpAny_standAt (wpAny_bind ?_))
  show wpAny _ A (do let _ ← comprehension (.ListComp elt [⟨.Name x px, iter, [], 0⟩] scope pos) scope env _ (newList []) false (eval iter env) (some (assign (.Name y py) env))) _ _ s
  refine wpAny_bind (wpAny_mono (wpAny_comprehension_free (use := some (assign (.Name y py) env)) (Q := fun _ s' => Q .next s') rfl hs hclos hkind hnames
    (wpAny_mono h (fun xv s₁ h₁ => ?_) fun _ _ e => e)) (fun _ s' hq => wpAny_pure (wpAny_pure hq)) fun _ _ e => e)
  obtain ⟨Inv, ax, its, m, news, mono, rfl, hl, hsz, odd, inv0, F, N, turn, done⟩ := h₁
  refine comp_loop hh mono hcell hkind hx hl hsz odd inv0 turn fun ys D C m' h tk kp gD nD nC ne hn hyl inv => ?_
  have F1 : Fr h₀ env.locals h m := F.kept kp
  have hCL : C ≠ env.locals := fun q => by have ⟨oL, _, _, eL, _⟩ := F.ns; rw [← q, nC] at eL; cases eL
  have hDL : D ≠ env.locals := fun q => by have ⟨oL, _, _, eL, _⟩ := F.ns; rw [← q, nD] at eL; cases eL
  show wpAny _ A (assign (.Name y py) env (.ref D)) _ _ _
  refine wpAny_assign_Name (wpAny_storeName_local hy F1.ns (fun h₂ hn₂ hs₂ => ?_) hp)
  have hs2 : ∀ b o, b ≠ env.locals → h.get? b = some o → h₂.get? b = some o := fun b o hb e => hs₂.extBut b o hb e
  refine ⟨m', hn.at' fun o e => hs2 _ o hCL e, fun h'' hs'' => ?_⟩
  have hs' : ∀ b o, b ≠ C → h₂.get? b = some o → h''.get? b = some o := fun b o hb e => hs''.extBut b o hb e
  have n0 : ∀ a, s₁.heap.get? a = none → h₀.get? a = none := fun a e => keep_none F.keep e
  have all : ∀ b o, b ≠ env.locals → s₁.heap.get? b = some o → h''.get? b = some o := fun b o hb e => hs' b o (fun q => by rw [q, nC] at e; cases e) (hs2 b o hb (kp b o e))
  refine done ys D h'' _ ⟨hn₂.at' fun o e => hs' _ o (Ne.symm hCL) e, fun b o e => all b o (fun q => by have := n0; have := Heap.lt_size e; rw [q] at this; exact absurd this (Nat.not_lt.mpr F.above)) (F.keep b o e), F.above⟩ (fun q hq => ?_) hyl (hide_but fun b o hb e => all b o (fun q => hb (by rw [q]; exact hLm)) e)
    (mono _ _ _ _ (Keep.trans (hide_but fun b o hb e => hs' b o (fun q => hb (by rw [q]; simp)) (hs2 b o (fun q => hb (by rw [q]; simp [hLm])) e)) (hide_sub fun a ha => List.mem_cons_of_mem _ ha)) inv)
  rcases List.mem_cons.mp hq with rfl | hq
  · exact ⟨hs' _ _ ne (hs2 _ _ hDL gD), hDL, n0 _ nD⟩
  · exact ⟨all _ _ (N q hq).2.1 (N q hq).1, (N q hq).2⟩
end

end
section
section
variable {h h' : Heap}
mutual
theorem Rd.keepT (hs : ∀ b o, o.cls = .type "tuple" → (∀ es n, o.data ≠ .dict es n) → h.get? b = some o → h'.get? b = some o) : ∀ (d : PyData) (v : Value), Rd h v d → Rd h' v d
  | .none, _, r => by cases r; exact Reads.none
  | .bool b, _, r => by cases r; exact Reads.bool b
  | .int i, _, r => by cases r; exact Reads.int i _
  | .str x, _, r => by cases r; exact Reads.str x _
  | .tuple ds, _, r => by
    generalize ha : ([] : List Addr) = as0 at r
    unfold Rd at r
    rw [ha] at r
    cases r with
    | tuple h1 h2 h3 h4 =>
      subst ha
      exact Rd.tup (hs _ _ h2 (fun es n q => by rw [h3] at q; cases q) h1) h2 h3 (RdAll.keepT hs ds _ h4)
  | .list ds, _, r => by
    generalize ha : ([] : List Addr) = as0 at r
    unfold Rd at r
    rw [ha] at r
    cases r with
    | list h1 h2 h3 h4 => cases ha
  | .dict ds, _, r => by
    generalize ha : ([] : List Addr) = as0 at r
    unfold Rd at r
    rw [ha] at r
    cases r with
    | dict h1 h2 h3 h4 h5 => cases ha
theorem RdAll.keepT (hs : ∀ b o, o.cls = .type "tuple" → (∀ es n, o.data ≠ .dict es n) → h.get? b = some o → h'.get? b = some o) : ∀ (ds : List PyData) (vs : List Value), RdAll h vs ds → RdAll h' vs ds
  | [], _, r => by cases r; exact ReadsAll.nil
  | d :: ds, _, r => by
    unfold RdAll at r
    generalize ha : ([] : List Addr) = as0 at r
    cases r with
    | cons h1 h2 =>
      obtain ⟨q1, q2⟩ := List.append_eq_nil_iff.mp ha.symm
      subst q1 q2
      exact RdAll.cons (Rd.keepT hs d _ h1) (RdAll.keepT hs ds _ h2)
end
end
open PySem.Calls
section
variable {prog : Program} {w : World} {A : Around} {E : Value → Shared → Prop} {s : Shared} {env : Env}
theorem elt_call {M : Model} {K : Frag} {p : Program} {loose : List Str} {mg mb : Str → Option Value} {f x : Str} {p1 p2 pos : Pos} {scope : Scope} {cl : List (Str × Addr)} {C fa : Addr} {m₂ : Str → Option Value} {v : Value} {Q : Value → Shared → Prop}
   (X : K.In s.heap) (T : TopRead p loose mg mb s.heap) (hn : s.heap.Ns C m₂) (hv : m₂ x = some v) (eg : nsIn K mainGlobals f = some (some (.ref fa))) (hk : keepIn K (.ref fa) = true)
   (hkind : scope.kind = .function) (hf : (compEnvC scope cl C env).kindOf f = some .globalImplicit) (hx : (compEnvC scope cl C env).kindOf x = some .local) (hg : env.globals = mainGlobals)
   (hdf : (f == ("__debug__" : Str)) = false) (hdx : (x == ("__debug__" : Str)) = false)
   (h : wpAny M A (call (.ref fa) [v]) Q E s) : wpAny M A (eval (.Call (.Name f p1) [.Name x p2] [] pos) (compEnvC scope cl C env)) Q E s := by
  have hkk : (compEnvC scope cl C env).scope.kind = .function := hkind
  refine Call_ ?_
  refine Name_function_global hkk hf (loadGlobal_global (mg := mg) ?_ (mg_of X T.g eg) ?_) hdf
  · show s.heap.Ns env.globals mg; rw [hg]; exact T.g
  refine callWith_K (h₀ := s.heap) X hk ?_ rfl rfl
  refine spliced_more ?_ rfl
  refine wpAny_Name (wpAny_loadName_local hkk hx hn hv ?_) hdx
  exact spliced_none ⟨X, h⟩
end
theorem rd_hide {h : Heap} {ms : List Addr} {v : Value} {d : PyData} (odd : OddAll h ms) (r : Rd h v d) : Rd (hideAll h ms) v d := by
  have key : ∀ b o, o.cls = .type "tuple" → (∀ es n, o.data ≠ .dict es n) → h.get? b = some o → (hideAll h ms).get? b = some o := fun b o c hd e => hideAll_get _ e fun hm => by
    obtain ⟨o', e', q⟩ := odd b hm
    rw [e] at e'; cases e'
    rcases q with ⟨es, n, q⟩ | ⟨q, q'⟩
    · exact hd _ _ q
    · exact q c
  exact Rd.keepT key d v r
theorem ver_hide {h0 h : Heap} {ms : List Addr} {x : Addr} {d : PyData} (odd0 : OddAll h0 ms) (odd : OddAll h ms) (r : VerNew h0 h x d) : VerAt (hideAll h ms) x d := by
  obtain ⟨dx, it, es, n, k, e0, e1, e2, e3, e4⟩ := r
  refine ⟨dx, it, es, n, k, hideAll_get _ e1 fun hm => ?_, hideAll_get _ e2 fun hm => ?_, e3, rd_hide odd e4⟩
  · obtain ⟨o', e', q⟩ := odd x hm
    rw [e1] at e'; cases e'
    rcases q with ⟨es, n, q⟩ | ⟨q, q'⟩
    · cases q
    · exact q' _ rfl
  · obtain ⟨o', e', q⟩ := odd0 dx hm
    rw [e0] at e'; cases e'
theorem made_hide {h : Heap} {ms : List Addr} {a : Addr} {i1 i2 i3 i4 : Int} (odd : OddAll h ms) (M : MadeAt h a i1 i2 i3 i4) : MadeAt (hideAll h ms) a i1 i2 i3 i4 := by
  obtain ⟨t1, t2, t3, t4, o, e, c, n, hd'⟩ := M.tup
  refine ⟨⟨t1, t2, t3, t4, o, hideAll_get _ e fun hm => ?_, c, n, hd'⟩, M.b1, M.b1', M.b2, M.b2', M.b3, M.b3', M.b4, M.b4'⟩
  obtain ⟨o', e', q⟩ := odd a hm
  rw [e] at e'; cases e'
  rcases q with ⟨es, n, q⟩ | ⟨q, q'⟩
  · rw [hd'] at q; cases q
  · exact q c
abbrev M4 := Int × Int × Int × Int
inductive All2 {α β : Type} (P : α → β → Prop) : List α → List β → Prop
  | nil : All2 P [] []
  | cons {a b as bs} : P a b → All2 P as bs → All2 P (a :: as) (b :: bs)
theorem All2.mono {α β : Type} {P P' : α → β → Prop} (k : ∀ a b, P a b → P' a b) : ∀ {as bs}, All2 P as bs → All2 P' as bs
  | _, _, .nil => .nil
  | _, _, .cons p r => .cons (k _ _ p) (r.mono k)
theorem All2.snoc {α β : Type} {P : α → β → Prop} {a : α} {b : β} (p : P a b) : ∀ {as bs}, All2 P as bs → All2 P (as ++ [a]) (bs ++ [b])
  | _, _, .nil => .cons p .nil
  | _, _, .cons q r => .cons q (r.snoc p)
theorem All2.append {α β : Type} {P : α → β → Prop} {cs ds} (z : All2 P cs ds) : ∀ {as bs}, All2 P as bs → All2 P (as ++ cs) (bs ++ ds)
  | _, _, .nil => z
  | _, _, .cons q r => .cons q (z.append r)
theorem All2.length {α β : Type} {P : α → β → Prop} : ∀ {as bs}, All2 P as bs → as.length = bs.length
  | _, _, .nil => rfl
  | _, _, .cons _ r => by simp [r.length]
theorem All2.get {α β : Type} {P : α → β → Prop} : ∀ {as bs} {i : Nat} {a : α}, All2 P as bs → as[i]? = some a → ∃ b, bs[i]? = some b ∧ P a b
  | _, _, 0, _, .cons p _, e => ⟨_, rfl, by simpa using (by simpa using e : _ = _) ▸ p⟩
  | _, _, i + 1, _, .cons _ r, e => by simpa using r.get (i := i) (by simpa using e)
theorem All2.get' {α β : Type} {P : α → β → Prop} : ∀ {as bs} {i : Nat} {b : β}, All2 P as bs → bs[i]? = some b → ∃ a, as[i]? = some a ∧ P a b
  | _, _, 0, _, .cons p _, e => ⟨_, rfl, by simpa using (by simpa using e : _ = _) ▸ p⟩
  | _, _, i + 1, _, .cons _ r, e => by simpa using r.get' (i := i) (by simpa using e)
def MadeV (h : Heap) (v : Value) (m : M4) : Prop := ∃ a, v = .ref a ∧ MadeAt h a m.1 m.2.1 m.2.2.1 m.2.2.2
def keyQ (m : M4) : PyData := keyOf m.1 m.2.1 m.2.2.1 m.2.2.2
def rankQ (m : M4) : Int := rankF m.1 m.2.1 m.2.2.1 m.2.2.2
def KeyV (h : Heap) (v : Value) (m : M4) : Prop := Rd h v (keyQ m)
def RankV (_ : Heap) (v : Value) (m : M4) : Prop := ∃ t, v = .int (rankQ m) t
def VerV (h : Heap) (v : Value) (m : M4) : Prop := ∃ x, v = .ref x ∧ VerAt h x (keyQ m)
theorem MadeV.keeps {h h' : Heap} {v : Value} {m : M4} (k : Keep h h') (x : MadeV h v m) : MadeV h' v m := let ⟨a, e, q⟩ := x; ⟨a, e, q.keeps k⟩
theorem KeyV.keeps {h h' : Heap} {v : Value} {m : M4} (k : Keep h h') (x : KeyV h v m) : KeyV h' v m := Rd.keeps k x
theorem VerV.keeps {h h' : Heap} {v : Value} {m : M4} (k : Keep h h') (x : VerV h v m) : VerV h' v m := let ⟨a, e, q⟩ := x; ⟨a, e, q.keeps k⟩

end
section
open PySem.Calls
def Stop (P : Prop) : Prop := P
theorem Stop.out {P : Prop} (h : Stop P) : P := h
theorem Stop.in {P : Prop} (h : P) : Stop P := h
theorem odd_L {h₀ h : Heap} {L : Addr} {m : Str → Option Value} (F : Fr h₀ L h m) : OddAll h [L] := fun a ha => by
  obtain ⟨o, es, ep, e, d, _⟩ := F.ns
  rw [List.mem_singleton.mp ha]
  exact ⟨o, e, .inl ⟨_, _, d⟩⟩
theorem odd_cons {h₀ h : Heap} {L : Addr} {m : Str → Option Value} {ex : List Addr} (F : Fr h₀ L h m) (x : OddAll h ex) : OddAll h (L :: ex) := fun a ha => by
  rcases List.mem_cons.mp ha with rfl | ha
  · exact odd_L F _ (List.mem_singleton.mpr rfl)
  · exact x a ha
theorem take_snoc {β : Type} {ds : List β} {i : Nat} {d : β} (e : ds[i]? = some d) : ds.take (i + 1) = ds.take i ++ [d] := by
  rw [List.take_add_one, e]; rfl
section
variable {prog : Program} {w : World} {A : Around} {E : Value → Shared → Prop} {s : Shared} {env : Env}
theorem comp_call {h₀ : Heap} {L : Addr} {m₀ : Str → Option Value} {β : Type} {Src P : Heap → Value → β → Prop} {K : Frag} {p : Program} {loose : List Str} {mg mb : Str → Option Value} {f x : Str} {p1 p2 px pc pos : Pos} {iter : Expr} {scope : Scope} {cl : List (Str × Addr)} {fa : Addr} {Q : Value → Shared → Prop} (hh : A.handled = none) (_F0 : Fr h₀ L s.heap m₀) {ex : List Addr} (X0 : K.In h₀) (T0 : TopRead p loose mg mb h₀)
    (hclos : closureFor scope env = pure cl) (hcell : ∀ y ∈ scope.names, y.2 ≠ .cell) (hkind : scope.kind = .function)
    (hnames : ∀ y ∈ scope.names, y.2 = .local → scope.names.lookup y.1 = some .local) (hx : scope.names.lookup x = some .local)
    (hf : ∀ C, (compEnvC scope cl C env).kindOf f = some .globalImplicit) (hx' : ∀ C, (compEnvC scope cl C env).kindOf x = some .local) (hg : env.globals = mainGlobals)
    (hdf : (f == ("__debug__" : Str)) = false) (hdx : (x == ("__debug__" : Str)) = false) (eg : nsIn K mainGlobals f = some (some (.ref fa))) (hk : keepIn K (.ref fa) = true)
    (monoP : ∀ h h' v d, Keep h h' → P h v d → P h' v d) (monoS : ∀ h h' v d, Keep h h' → Src h v d → Src h' v d)
    (h : wpAny (model prog w) A (eval iter env) (fun xv s₁ => Stop <| ∃ ds ax its m, xv = .ref ax ∧ s₁.heap.IsList ax its ∧ its.size ≤ sizeLine ∧ Fr h₀ L s₁.heap m ∧ OddAll s₁.heap ex ∧ All2 (Src s₁.heap) its.toList ds ∧
      (∀ v d h tk (E' : Value → Shared → Prop), Src h v d → Keep s₁.heap h → wpAny (model prog w) A (call (.ref fa) [v]) (fun y s₂ => ∃ h' tk', s₂ = { s₁ with heap := h', toks := tk' } ∧ Keep h h' ∧ ∀ ns, OddAll h ns → P (hideAll h' ns) y d) E' { s₁ with heap := h, toks := tk }) ∧
      (∀ ys D h tk, Keep s₁.heap h → h.get? D = some (LCg.lst ys) → s₁.heap.get? D = none → All2 (P (hideAll h (D :: L :: ex))) ys ds → Q (.ref D) { s₁ with heap := h, toks := tk })) E s)
    (hs : ∀ x, foldedSetIterable iter env x = pure x := by intro _; rfl) :
    wpAny (model prog w) A (eval (.ListComp (.Call (.Name f p1) [.Name x p2] [] pc) [⟨.Name x px, iter, [], 0⟩] scope pos) env) Q E s := by
  refine comp_own (ms := L :: ex) hh hclos hcell hkind hnames hx (wpAny_mono h (fun xv s₁ h₁ => ?_) fun _ _ e => e) hs
  obtain ⟨ds, ax, its, m, rfl, hl, hsz, F, oex, src, hc, done⟩ := h₁
  have X := Frag.In.keeps X0 F.keep
  have T := TopRead.keeps T0 F.keep
  refine ⟨fun i ys g => All2 (P g) ys (ds.take i), ax, its, (fun n ys h h' k a => a.mono fun _ _ q => monoP _ _ _ _ k q), rfl, hl, hsz, odd_cons F oex, .nil, ?_, ?_⟩
  · intro i v ys C ms' m₂ h tk E' hi hyl hn hv kp odd' inv
    have hi' : its.toList[i]? = some v := by simpa using hi
    obtain ⟨d, hd', sd⟩ := src.get hi'
    refine elt_call (K := K) (X.keeps kp) (T.keeps kp) hn hv eg hk hkind (hf C) (hx' C) hg hdf hdx ?_
    refine wpAny_mono (hc v d h tk E' (monoS _ _ _ _ kp sd) kp) (fun y s₂ q => ?_) fun _ _ e => e
    obtain ⟨h', tk', rfl, k', q⟩ := q
    refine ⟨h', tk', rfl, k', ?_⟩
    show All2 _ _ (ds.take (i + 1))
    rw [take_snoc hd']
    exact (inv.mono fun _ _ q => monoP _ _ _ _ (hide_but fun b o _ e => k' b o e) q).snoc (q _ odd')
  · intro ys D h tk kp gD nD hyl inv
    have hl' := src.length
    rw [show its.size = ds.length by simpa using hl', List.take_length] at inv
    exact done ys D h tk kp gD nD inv
theorem comp_call_assign {m₀ : Str → Option Value} {β : Type} {Src P : Heap → Value → β → Prop} {K : Frag} {p : Program} {loose : List Str} {mg mb : Str → Option Value} {f x y : Str} {p1 p2 px py pc pos spos : Pos} {iter : Expr} {scope : Scope} {cl : List (Str × Addr)} {fa : Addr} {Q : Flow → Shared → Prop} {h₀ : Heap} {L : Addr} (hh : A.handled = none) (_F0 : Fr h₀ L s.heap m₀) {ex : List Addr} (X0 : K.In h₀) (T0 : TopRead p loose mg mb h₀)
    (hLe : env.locals = L) (hsw : swapsWith (.ListComp (.Call (.Name f p1) [.Name x p2] [] pc) [⟨.Name x px, iter, [], 0⟩] scope pos) (some (.Name y py)) spos.line env = pure true)
    (hclos : closureFor scope env = pure cl) (hcell : ∀ y ∈ scope.names, y.2 ≠ .cell) (hkind : scope.kind = .function)
    (hnames : ∀ y ∈ scope.names, y.2 = .local → scope.names.lookup y.1 = some .local) (hx : scope.names.lookup x = some .local)
    (hy : env.kindOf y = some .local) (hp : (env.scope.kind == .class || (env.scope.kind == .module && env.locals != env.globals)) = false)
    (hf : ∀ C, (compEnvC scope cl C env).kindOf f = some .globalImplicit) (hx' : ∀ C, (compEnvC scope cl C env).kindOf x = some .local) (hg : env.globals = mainGlobals)
    (hdf : (f == ("__debug__" : Str)) = false) (hdx : (x == ("__debug__" : Str)) = false) (eg : nsIn K mainGlobals f = some (some (.ref fa))) (hk : keepIn K (.ref fa) = true)
    (monoP : ∀ h h' v d, Keep h h' → P h v d → P h' v d) (monoS : ∀ h h' v d, Keep h h' → Src h v d → Src h' v d)
    (h : wpAny (model prog w) A (eval iter env) (fun xv s₁ => Stop <| ∃ ds ax its m news, xv = .ref ax ∧ s₁.heap.IsList ax its ∧ its.size ≤ sizeLine ∧ Fr h₀ L s₁.heap m ∧ News h₀ L s₁.heap news ∧ OddAll s₁.heap ex ∧ All2 (Src s₁.heap) its.toList ds ∧
      (∀ v d h tk (E' : Value → Shared → Prop), Src h v d → Keep s₁.heap h → wpAny (model prog w) A (call (.ref fa) [v]) (fun y s₂ => ∃ h' tk', s₂ = { s₁ with heap := h', toks := tk' } ∧ Keep h h' ∧ ∀ ns, OddAll h ns → P (hideAll h' ns) y d) E' { s₁ with heap := h, toks := tk }) ∧
      (∀ ys D h tk, Fr h₀ L h (fun z => if z = y then some (.ref D) else m z) → News h₀ L h ((D, LCg.lst ys) :: news) → Keep (hideAll s₁.heap (L :: ex)) (hideAll h (L :: ex)) → All2 (P (hideAll h (D :: L :: ex))) ys ds → Q .next { s₁ with heap := h, toks := tk })) E s)
    (hs : ∀ x, foldedSetIterable iter env x = pure x := by intro _; rfl) :
    wpAny (model prog w) A (exec (.Assign [.Name y py] (.ListComp (.Call (.Name f p1) [.Name x p2] [] pc) [⟨.Name x px, iter, [], 0⟩] scope pos) spos) env) Q E s := by
  refine comp_own_assign (ms := L :: ex) (h₀ := h₀) (L := L) hh hLe (List.Mem.head _) hsw hclos hcell hkind hnames hx hy hp (wpAny_mono h (fun xv s₁ h₁ => ?_) fun _ _ e => e) hs
  obtain ⟨ds, ax, its, m, news, rfl, hl, hsz, F, N, oex, src, hc, done⟩ := h₁
  have X := Frag.In.keeps X0 F.keep
  have T := TopRead.keeps T0 F.keep
  refine ⟨fun i ys g => All2 (P g) ys (ds.take i), ax, its, m, news, (fun n ys h h' k a => a.mono fun _ _ q => monoP _ _ _ _ k q), rfl, hl, hsz, odd_cons F oex, .nil, F, N, ?_, ?_⟩
  · intro i v ys C ms' m₂ h tk E' hi hyl hn hv kp odd' inv
    have hi' : its.toList[i]? = some v := by simpa using hi
    obtain ⟨d, hd', sd⟩ := src.get hi'
    refine elt_call (K := K) (X.keeps kp) (T.keeps kp) hn hv eg hk hkind (hf C) (hx' C) hg hdf hdx ?_
    refine wpAny_mono (hc v d h tk E' (monoS _ _ _ _ kp sd) kp) (fun y s₂ q => ?_) fun _ _ e => e
    obtain ⟨h', tk', rfl, k', q⟩ := q
    refine ⟨h', tk', rfl, k', ?_⟩
    show All2 _ _ (ds.take (i + 1))
    rw [take_snoc hd']
    exact (inv.mono fun _ _ q => monoP _ _ _ _ (hide_but fun b o _ e => k' b o e) q).snoc (q _ odd')
  · intro ys D h tk F' N' hyl k inv
    have hl' := src.length
    rw [show its.size = ds.length by simpa using hl', List.take_length] at inv
    exact done ys D h tk F' N' k inv
end

end
section
/-- what g holds stands in the base or in the ledger -/
def Led (h₀ g : Heap) (all : List (Addr × Obj)) : Prop := ∀ b o, g.get? b = some o → h₀.get? b = some o ∨ (b, o) ∈ all
theorem Led.keep {h₀ g h : Heap} {L : Addr} {all news : List (Addr × Obj)} (l : Led h₀ g all) (F : ∀ b o, h₀.get? b = some o → h.get? b = some o) (N : News h₀ L h news) (sub : ∀ p ∈ all, p ∈ news) : Keep g h := fun b o e => by
  rcases l b o e with q | q
  · exact F b o q
  · exact (N _ (sub _ q)).1
theorem ledger {h₀ h : Heap} {L : Addr} {m : Str → Option Value} (F : Fr h₀ L h m) (ex : List Addr) : ∃ all, News h₀ L h all ∧ Led h₀ (hideAll h (L :: ex)) all ∧ ∀ p ∈ all, p.1 ∉ ex := by
  let f : Addr → Option (Addr × Obj) := fun b => match h.get? b with
    | some o => if b = L ∨ b ∈ ex ∨ (h₀.get? b).isSome = true then none else some (b, o)
    | none => none
  have hf : ∀ b p, f b = some p → p.1 = b ∧ h.get? b = some p.2 ∧ b ≠ L ∧ b ∉ ex ∧ h₀.get? b = none := fun b p e => by
    have e' : (match h.get? b with
      | some o => if b = L ∨ b ∈ ex ∨ (h₀.get? b).isSome = true then none else some (b, o)
      | none => none) = some p := e
    cases q : h.get? b with
    | none => rw [q] at e'; cases e'
    | some o =>
      rw [q] at e'
      dsimp only at e'
      by_cases c : b = L ∨ b ∈ ex ∨ (h₀.get? b).isSome = true
      · rw [if_pos c] at e'; cases e'
      · rw [if_neg c] at e'; cases e'
        refine ⟨rfl, rfl, fun q => c (.inl q), fun q => c (.inr (.inl q)), ?_⟩
        cases q' : h₀.get? b with
        | none => rfl
        | some o' => exact absurd (.inr (.inr (by rw [q']; rfl))) c
  refine ⟨(List.range h.objs.size).filterMap f, fun p hp => ?_, fun b o e => ?_, fun p hp => ?_⟩
  · obtain ⟨b, _, e⟩ := List.mem_filterMap.mp hp
    obtain ⟨rfl, q1, q2, _, q3⟩ := hf b p e
    exact ⟨q1, q2, q3⟩
  · have hb : b ∉ L :: ex := fun hm => by rw [hideAll_none _ hm] at e; cases e
    have e1 := of_hideAll _ e
    cases q' : h₀.get? b with
    | some o' => have := F.keep _ _ q'; rw [e1] at this; cases this; exact .inl rfl
    | none =>
      refine .inr (List.mem_filterMap.mpr ⟨b, List.mem_range.mpr (Heap.lt_size e1), ?_⟩)
      show (match h.get? b with
        | some o => if b = L ∨ b ∈ ex ∨ (h₀.get? b).isSome = true then none else some (b, o)
        | none => none) = some (b, o)
      rw [e1]
      dsimp only
      rw [if_neg]
      rintro (c | c | c)
      · exact hb (by rw [c]; exact List.Mem.head _)
      · exact hb (List.Mem.tail _ c)
      · rw [q'] at c; cases c
  · obtain ⟨b, _, e⟩ := List.mem_filterMap.mp hp
    obtain ⟨rfl, _, _, q, _⟩ := hf b p e
    exact q
theorem news_cons {h₀ h : Heap} {L : Addr} {q : Addr × Obj} {news : List (Addr × Obj)} (a : h.get? q.1 = some q.2 ∧ q.1 ≠ L ∧ h₀.get? q.1 = none) (N : News h₀ L h news) : News h₀ L h (q :: news) := fun p hp => by
  rcases List.mem_cons.mp hp with rfl | hp
  · exact a
  · exact N p hp

end
section
theorem news_add {h₀ h h' : Heap} {L D : Addr} {news : List (Addr × Obj)} {o : Obj} (N : News h₀ L h news) (F : Keep h₀ h) (hL : ∃ oL, h.get? L = some oL) (k : Keep h h') (e : h'.get? D = some o) (n : h.get? D = none) : News h₀ L h' ((D, o) :: news) := fun q hq => by
  rcases List.mem_cons.mp hq with rfl | hq
  · exact ⟨e, fun q => (by obtain ⟨oL, eL⟩ := hL; rw [show D = L from q, eL] at n; cases n), keep_none F n⟩
  · exact ⟨k _ _ (N q hq).1, (N q hq).2⟩
theorem isL_of {h₀ h : Heap} {L a : Addr} {news : List (Addr × Obj)} {vs : List Value} {n : Nat} (N : News h₀ L h news) (hm : (a, ({ cls := .type "list", data := .seq vs.toArray n } : Obj)) ∈ news) : h.IsList a vs.toArray := ⟨_, (N _ hm).1, rfl, _, rfl⟩
theorem odd41 {h : Heap} {a : Addr} {ps : Array Value} (e : h.get? a = some (tabObj ps)) : OddAll h [a] := fun b hb => by
  rw [List.mem_singleton.mp hb]; exact ⟨_, e, .inr ⟨fun q => (by cases q), fun a q => (by cases q)⟩⟩
theorem fr_L {h₀ h : Heap} {L : Addr} {m : Str → Option Value} (F : Fr h₀ L h m) : ∃ oL, h.get? L = some oL := let ⟨o, _, _, e, _⟩ := F.ns; ⟨o, e⟩
def IntV (_ : Heap) (v : Value) (x : Int) : Prop := ∃ t, v = .int x t
theorem ints_all2 {h : Heap} {vs : List Value} {ns : List Int} (I : IntsAre vs ns) : All2 (IntV h) vs ns := by
  induction I with
  | nil => exact .nil
  | cons => exact .cons ⟨_, rfl⟩ (by assumption)
def SomeMade (h : Heap) (v : Value) (_ : Int) : Prop := ∃ m, MadeV h v m
theorem some_made {h : Heap} : ∀ {vs : List Value} {ns : List Int}, All2 (SomeMade h) vs ns → ∃ ms, All2 (MadeV h) vs ms
  | _, _, .nil => ⟨[], .nil⟩
  | _, _, .cons ⟨m, q⟩ r => let ⟨ms, z⟩ := some_made r; ⟨m :: ms, .cons q z⟩
theorem call_made (w : World) {dp un fr gd} {p loose mg mb} (hdp : dp + 4 < 800) (hun : un + 100 < 8000) {s₁ : Shared} (X : (hd.heap_39 w.params).In s₁.heap) (T : TopRead p loose mg mb s₁.heap) :
    ∀ v d h tk (E' : Value → Shared → Prop), IntV h v d → Keep s₁.heap h → wpAny (model PySem.Challenge.pw_ep5037_01 w) (ar dp un fr gd) (call (.ref 190) [v]) (fun y s₂ => ∃ h' tk', s₂ = { s₁ with heap := h', toks := tk' } ∧ Keep h h' ∧ ∀ ns, OddAll h ns → SomeMade (hideAll h' ns) y d) E' { s₁ with heap := h, toks := tk } := by
  rintro v d h tk E' ⟨t, rfl⟩ k
  refine wpAny_mono (wpAny_call (c190 w (s := ⟨h, s₁.gens, s₁.drawn, tk, s₁.os⟩) hdp hun (Frag.In.keeps X k) (TopRead.keeps T k) d t (fun a h' tk' i1 i2 i3 i4 k' M => ?_))) (fun _ _ q => q) fun _ _ e => e
  exact ⟨h', tk', rfl, k', fun ns odd => ⟨(i1, i2, i3, i4), a, rfl, made_hide (OddAll.keeps k' odd) M⟩⟩
theorem made_lit {h₀ h : Heap} {L a : Addr} {news : List (Addr × Obj)} {i1 i2 i3 i4 : Int} {t1 t2 t3 t4 : Tok} {ns : List Addr} (N : News h₀ L h news) (hm : (a, ({ cls := .type "tuple", data := .seq #[.int i1 t1, .int i2 t2, .int i3 t3, .int i4 t4] } : Obj)) ∈ news) (odd : OddAll h ns)
    (b1 : 0 ≤ i1) (b1' : i1 < 6) (b2 : 0 ≤ i2) (b2' : i2 < 8) (b3 : 0 ≤ i3) (b3' : i3 < 4) (b4 : 0 ≤ i4) (b4' : i4 < 3) : MadeV (hideAll h ns) (.ref a) (i1, i2, i3, i4) :=
  ⟨a, rfl, made_hide odd ⟨⟨t1, t2, t3, t4, _, N.get hm, rfl, _, rfl⟩, b1, b1', b2, b2', b3, b3', b4, b4'⟩⟩
theorem call_key (w : World) {dp un fr gd} {p loose mg mb} (hdp : dp + 20 < 800) (hun : un + 200 < 8000) {s₁ : Shared} (X : (hd.heap_39 w.params).In s₁.heap) (T : TopRead p loose mg mb s₁.heap) :
    ∀ v d h tk (E' : Value → Shared → Prop), MadeV h v d → Keep s₁.heap h → wpAny (model PySem.Challenge.pw_ep5037_01 w) (ar dp un fr gd) (call (.ref 204) [v]) (fun y s₂ => ∃ h' tk', s₂ = { s₁ with heap := h', toks := tk' } ∧ Keep h h' ∧ ∀ ns, OddAll h ns → KeyV (hideAll h' ns) y d) E' { s₁ with heap := h, toks := tk } := by
  rintro v d h tk E' ⟨a, rfl, M⟩ k
  refine wpAny_mono (wpAny_call (c204 w (s := ⟨h, s₁.gens, s₁.drawn, tk, s₁.os⟩) hdp hun (Frag.In.keeps X k) (TopRead.keeps T k) M (fun v h' tk' k' r => ?_))) (fun _ _ q => q) fun _ _ e => e
  exact ⟨h', tk', rfl, k', fun ns odd => rd_hide (OddAll.keeps k' odd) r⟩
theorem call_rank (w : World) {dp un fr gd} {p loose mg mb} (hdp : dp + 20 < 800) (hun : un + 200 < 8000) {s₁ : Shared} (X : (hd.heap_39 w.params).In s₁.heap) (T : TopRead p loose mg mb s₁.heap) :
    ∀ v d h tk (E' : Value → Shared → Prop), MadeV h v d → Keep s₁.heap h → wpAny (model PySem.Challenge.pw_ep5037_01 w) (ar dp un fr gd) (call (.ref 197) [v]) (fun y s₂ => ∃ h' tk', s₂ = { s₁ with heap := h', toks := tk' } ∧ Keep h h' ∧ ∀ ns, OddAll h ns → RankV (hideAll h' ns) y d) E' { s₁ with heap := h, toks := tk } := by
  rintro v d h tk E' ⟨a, rfl, M⟩ k
  refine wpAny_mono (wpAny_call (c197 w (s := ⟨h, s₁.gens, s₁.drawn, tk, s₁.os⟩) (by omega) (by omega) (Frag.In.keeps X k) (TopRead.keeps T k) M (fun r t h' tk' k' e => ?_))) (fun _ _ q => q) fun _ _ e => e
  exact ⟨h', tk', rfl, k', fun ns odd => ⟨t, by rw [e]; rfl⟩⟩
theorem call_ver (w : World) {dp un fr gd} {p loose mg mb} (hdp : dp + 40 < 800) (hun : un + 400 < 8000) {s₁ : Shared} (X : (hd.heap_39 w.params).In s₁.heap) (T : TopRead p loose mg mb s₁.heap) :
    ∀ v d h tk (E' : Value → Shared → Prop), MadeV h v d → Keep s₁.heap h → wpAny (model PySem.Challenge.pw_ep5037_01 w) (ar dp un fr gd) (call (.ref 211) [v]) (fun y s₂ => ∃ h' tk', s₂ = { s₁ with heap := h', toks := tk' } ∧ Keep h h' ∧ ∀ ns, OddAll h ns → VerV (hideAll h' ns) y d) E' { s₁ with heap := h, toks := tk } := by
  rintro v d h tk E' ⟨a, rfl, M⟩ k
  refine wpAny_mono (wpAny_call (c211 w (s := ⟨h, s₁.gens, s₁.drawn, tk, s₁.os⟩) hdp hun (Frag.In.keeps X k) (TopRead.keeps T k) M (fun x h' tk' k' r => ?_))) (fun _ _ q => q) fun _ _ e => e
  exact ⟨h', tk', rfl, k', fun ns odd => ⟨x, rfl, ver_hide odd (OddAll.keeps k' odd) r⟩⟩
theorem add_own {prog : Program} {w : World} {A : Around} {E : Value → Shared → Prop} {s : Shared} {h₀ : Heap} {L : Addr} {m : Str → Option Value} {news : List (Addr × Obj)} {l b : Addr} {vs ws : List Value} {n n2 : Nat} {Q : Value → Shared → Prop} (F : Fr h₀ L s.heap m) (N : News h₀ L s.heap news)
    (hl : (l, ({ cls := .type "list", data := .seq vs.toArray n } : Obj)) ∈ news) (hb : (b, ({ cls := .type "list", data := .seq ws.toArray n2 } : Obj)) ∈ news) (hsz : vs.length + ws.length ≤ sizeLine)
    (h : ∀ h' D, Fr h₀ L h' m → News h₀ L h' ((D, ({ cls := .type "list", data := .seq (vs ++ ws).toArray 0 } : Obj)) :: news) → Keep s.heap h' → Q (.ref D) { s with heap := h' }) :
    wpAny (model prog w) A (binaryOp .Add (.ref l) (.ref b)) Q E s := by
  have e : vs.toArray ++ ws.toArray = (vs ++ ws).toArray := by simp
  refine PySem.P.add_list (N _ hl).1 (N _ hb).1 ?_ (by simpa using hsz)
  rw [e]
  have k : Keep s.heap (s.heap.push { cls := .type "list", data := .seq (vs ++ ws).toArray }) := fun b o q => Heap.get?_push_of_some _ q
  exact h _ _ (Fr.kept F k) (news_add N F.keep (fr_L F) k (Heap.get?_push_size _ rfl) (fresh_none (Nat.le_refl _))) k

theorem get_hid {h₀ h : Heap} {L a : Addr} {news : List (Addr × Obj)} {o : Obj} {ps : Array Value} (N : News h₀ L h news) (hm : (a, o) ∈ news) (e41 : h.get? 41 = some (tabObj ps)) (hc : o.cls ≠ .none) : (hideAll h [L, 41]).get? a = some o := hideAll_get _ (N _ hm).1 fun q => by
  rcases List.mem_cons.mp q with q | q
  · exact (N _ hm).2.1 q
  · have e := (N _ hm).1
    rw [show a = 41 from List.mem_singleton.mp q] at e
    rw [e41] at e; cases e; exact hc rfl

theorem keep_hid {h h' : Heap} {ms : List Addr} (k : Keep (hideAll h ms) h') : Keep (hideAll h ms) (hideAll h' ms) := fun b o e => hideAll_get _ (k b o e) fun hm => by rw [hideAll_none _ hm] at e; cases e
theorem hid_sub {h : Heap} {ms : List Addr} : Keep (hideAll h ms) h := fun _ _ e => of_hideAll _ e

def LDict (h : Heap) (L : Addr) : Prop := ∃ o es n, h.get? L = some o ∧ o.data = .dict es n
theorem fr_dict {h₀ h : Heap} {L : Addr} {m : Str → Option Value} (F : Fr h₀ L h m) : LDict h L := let ⟨o, es, ep, e, d, _⟩ := F.ns; ⟨o, es, ep, e, d⟩
theorem hide_keepN {h : Heap} {L : Addr} (hL : LDict h L) : KeepN h (hideAll h [L]) := fun b o hn e => hideAll_get _ e fun hm => by
  obtain ⟨oL, es, n, e1, d1⟩ := hL
  rw [List.mem_singleton.mp hm, e1] at e; cases e
  exact hn _ _ d1
theorem codeRec_keepN {h h' : Heap} {cd : Value} {q : Str} (k : KeepN h h') (x : h.CodeRec cd q) : h'.CodeRec cd q := let ⟨c, o, vs, t, e, g, d, r⟩ := x; ⟨c, o, vs, t, e, k _ _ (fun _ _ q => by rw [d] at q; cases q) g, d, r⟩
theorem CompAt.keepN {w : World} {h h' : Heap} {c : Addr} {f : Value} (k : KeepN h h') (x : CompAt w h c f) : CompAt w h' c f :=
  let ⟨a1, a2, a3, a4, a5, a6, a7, a8, a9, a10, b1, b2, b3, b4, b5⟩ := x; ⟨a1, a2, a3, a4, a5, a6, a7, a8, a9, a10, b1, k _ _ (fun _ _ q => by cases q) b2, k _ _ (fun _ _ q => by rw [b4] at q; cases q) b3, b4, codeRec_keepN k b5⟩
theorem TabAt.keepN {h h' : Heap} (k : KeepN h h') (x : TabAt h) : TabAt h' := let ⟨a, b, c⟩ := x; ⟨a, k _ _ (fun _ _ q => by cases q) b, codeRec_keepN k c⟩
/-- the base g₀ (nothing at 41, nothing at L) under hidings -/
theorem under2 {h₀ h : Heap} {L : Addr} {m : Str → Option Value} (F : Fr h₀ L h m) (n41 : h₀.get? 41 = none) : Keep h₀ (hideAll (hideAll h [L]) [41]) := by
  refine keep_hide (keep_hide (fun b o e => F.keep b o e) (fresh_none F.above)) n41
theorem keep_hide1 {h h' : Heap} {L : Addr} (k : ∀ b o, b ≠ 41 → h.get? b = some o → h'.get? b = some o) : Keep (hideAll h [L, 41]) (hideAll h' [L]) := fun b o e => by
  have hb : b ∉ [L, 41] := fun hm => by rw [hideAll_none _ hm] at e; cases e
  exact hideAll_get _ (k b o (fun q => hb (by rw [q]; simp)) (of_hideAll _ e)) fun hm => hb (by rw [List.mem_singleton.mp hm]; exact List.Mem.head _)

end
section
theorem range_own {prog : Program} {w : World} {A : Around} {E : Value → Shared → Prop} {s : Shared} {h₀ : Heap} {L : Addr} {m : Str → Option Value} {news : List (Addr × Obj)} {n : Int} {t : Tok} {Q : Value → Shared → Prop} (F : Fr h₀ L s.heap m) (N : News h₀ L s.heap news)
    (h : ∀ r h' tk t u v, Fr h₀ L h' m → News h₀ L h' news → Keep s.heap h' → IsRange h' r 0 n 1 t u v → Q (.ref r) { s with heap := h', toks := tk }) :
    wpAny (model prog w) A (call (.type "range") [.int n t]) Q E s := by
  refine call_range_1 ?_
  have k : ∀ o, Keep s.heap (s.heap.push o) := fun o b o' q => Heap.get?_push_of_some _ q
  exact h _ _ _ _ _ _ (Fr.kept F (k _)) (News.grown N (k _)) (k _) (IsRange.new _ _ _ _ _ _ _)
theorem range_small (n : Nat) (hn : n ≤ 100) : Builtin.Range.small 0 (n : Int) 1 = true := small_one (by omega) (by omega) (by omega) (by omega)
theorem range_size (n : Nat) : Builtin.Range.rangeSize 0 (n : Int) 1 = ((n : Nat) : Int) := by
  rw [rangeSize_one]
  split
  · omega
  · omega

end
section
structure InR (m : M4) : Prop where
  b1 : 0 ≤ m.1
  b1' : m.1 < 6
  b2 : 0 ≤ m.2.1
  b2' : m.2.1 < 8
  b3 : 0 ≤ m.2.2.1
  b3' : m.2.2.1 < 4
  b4 : 0 ≤ m.2.2.2
  b4' : m.2.2.2 < 3
theorem MadeV.inR {h : Heap} {v : Value} {m : M4} (x : MadeV h v m) : InR m := let ⟨_, _, q⟩ := x; ⟨q.b1, q.b1', q.b2, q.b2', q.b3, q.b3', q.b4, q.b4'⟩
/-- the six tables' entries by Fin -/
def cls (a b c : Nat) : Nat := if a = 0 ∧ b = 0 ∧ c ≠ 0 then 0 else if 0 < a then a else 8
def preT (c : Nat) : PyData := match c with
  | 0 => .tuple [.int (-1), .str "", .int 0]
  | 8 => .tuple [.int 1, .str "", .int 0]
  | c => preK (presD.getD c none) none none
def relT (i : Nat) : PyData := relsD.getD i .none
def postT (i : Nat) : PyData := postK (postsD.getD i none)
def devT (i : Nat) : PyData := devK (devsD.getD i none)
def late (c : Nat) : Nat := (c + 2) % 3
theorem pre_T : ∀ a < 8, ∀ b < 4, ∀ c < 3, preK (presD.getD a none) (postsD.getD b none) (devsD.getD c none) = preT (cls a b c) := by
  intro a ha b hb c hc
  have ha' : a = 0 ∨ a = 1 ∨ a = 2 ∨ a = 3 ∨ a = 4 ∨ a = 5 ∨ a = 6 ∨ a = 7 := by omega
  have hb' : b = 0 ∨ b = 1 ∨ b = 2 ∨ b = 3 := by omega
  have hc' : c = 0 ∨ c = 1 ∨ c = 2 := by omega
  rcases ha' with rfl | rfl | rfl | rfl | rfl | rfl | rfl | rfl <;> rcases hb' with rfl | rfl | rfl | rfl <;> rcases hc' with rfl | rfl | rfl <;> rfl
/-- a comparison that a whole number decides -/
def sixes : List CmpOp := [.Lt, .LtE, .Gt, .GtE, .Eq, .NotEq]
def Mono (n : Nat) (f : Nat → PyData) (g : Nat → Nat) : Bool := (List.range n).all fun i => (List.range n).all fun j => (PyData.eqv (f i) (f j) == (g i == g j)) && (g i == g j || ((cmpD .Lt (f i) (f j) == decide (g i < g j)) && (cmpD .LtE (f i) (f j) == decide (g i < g j)) && (cmpD .Gt (f i) (f j) == decide (g j < g i)) && (cmpD .GtE (f i) (f j) == decide (g j < g i))))
theorem mono_rel : Mono 6 relT id = true := by decide +kernel
theorem mono_pre : Mono 9 preT id = true := by decide +kernel
theorem mono_post : Mono 4 postT id = true := by decide +kernel
theorem mono_dev : Mono 3 devT late = true := by decide +kernel

end
section
theorem mono_get {n : Nat} {f : Nat → PyData} {g : Nat → Nat} (h : Mono n f g = true) {i j : Nat} (hi : i < n) (hj : j < n) : PyData.eqv (f i) (f j) = (g i == g j) ∧
    (g i ≠ g j → cmpD .Lt (f i) (f j) = decide (g i < g j) ∧ cmpD .LtE (f i) (f j) = decide (g i < g j) ∧ cmpD .Gt (f i) (f j) = decide (g j < g i) ∧ cmpD .GtE (f i) (f j) = decide (g j < g i)) := by
  have h1 := List.all_eq_true.mp (List.all_eq_true.mp h i (List.mem_range.mpr hi)) j (List.mem_range.mpr hj)
  simp only [Bool.and_eq_true, Bool.or_eq_true, beq_iff_eq] at h1
  refine ⟨h1.1, fun hn => ?_⟩
  rcases h1.2 with e | e
  · exact absurd e hn
  · exact ⟨e.1.1.1, e.1.1.2, e.1.2, e.2⟩
def gk (k : Nat) : Nat := if k = 0 then 0 else if k = 8 then 2000 else 1000 + 100 * k
def rk (a k c l : Nat) : Nat := a * 10000 + gk k + c * 10 + l
theorem gk_le {k : Nat} (h : k ≤ 8) : gk k ≤ 2000 := by unfold gk; split <;> (try split) <;> omega
theorem gk_lt {k k' c l : Nat} (h : k < k') (h8 : k' ≤ 8) (h0 : k = 0 → c = 0) (hc : c ≤ 3) (hl : l ≤ 2) : gk k + c * 10 + l < gk k' := by
  unfold gk
  split <;> split <;> (try split) <;> (try split) <;> omega
structure Lex (a k c l a' k' c' l' : Nat) : Prop where
  lt : rk a k c l < rk a' k' c' l' ↔ (a < a' ∨ a = a' ∧ (k < k' ∨ k = k' ∧ (c < c' ∨ c = c' ∧ l < l')))
  eq : rk a k c l = rk a' k' c' l' ↔ (a = a' ∧ k = k' ∧ c = c' ∧ l = l')
theorem lex_lt {a k c l a' k' c' l' : Nat} (hk : k ≤ 8) (hk' : k' ≤ 8) (h0 : k = 0 → c = 0) (h0' : k' = 0 → c' = 0) (hc : c ≤ 3) (hc' : c' ≤ 3) (hl : l ≤ 2) (hl' : l' ≤ 2)
    (h : a < a' ∨ a = a' ∧ (k < k' ∨ k = k' ∧ (c < c' ∨ c = c' ∧ l < l'))) : rk a k c l < rk a' k' c' l' := by
  have g1 := gk_le hk
  have g2 := gk_le hk'
  unfold rk
  rcases h with h | ⟨rfl, h | ⟨rfl, h⟩⟩
  · omega
  · have := gk_lt h hk' h0 hc hl; omega
  · omega
theorem lex_of {a k c l a' k' c' l' : Nat} (hk : k ≤ 8) (hk' : k' ≤ 8) (h0 : k = 0 → c = 0) (h0' : k' = 0 → c' = 0) (hc : c ≤ 3) (hc' : c' ≤ 3) (hl : l ≤ 2) (hl' : l' ≤ 2) : Lex a k c l a' k' c' l' := by
  have A := @lex_lt a k c l a' k' c' l' hk hk' h0 h0' hc hc' hl hl'
  have B := @lex_lt a' k' c' l' a k c l hk' hk h0' h0 hc' hc hl' hl
  have tri : (a < a' ∨ a = a' ∧ (k < k' ∨ k = k' ∧ (c < c' ∨ c = c' ∧ l < l'))) ∨ (a' < a ∨ a' = a ∧ (k' < k ∨ k' = k ∧ (c' < c ∨ c' = c ∧ l' < l))) ∨ (a = a' ∧ k = k' ∧ c = c' ∧ l = l') := by omega
  constructor
  · constructor
    · intro h
      rcases tri with t | t | ⟨rfl, rfl, rfl, rfl⟩
      · exact t
      · have := B t; omega
      · omega
    · exact A
  · constructor
    · intro h
      rcases tri with t | t | t
      · have := A t; omega
      · have := B t; omega
      · exact t
    · rintro ⟨rfl, rfl, rfl, rfl⟩; rfl

end
section
theorem cmpL4 (op : CmpOp) (x1 x2 x3 x4 y1 y2 y3 y4 : PyData) : cmpL op [x1, x2, x3, x4] [y1, y2, y3, y4] =
    if PyData.eqv x1 y1 then if PyData.eqv x2 y2 then if PyData.eqv x3 y3 then if PyData.eqv x4 y4 then opN op 0 0 else cmpD op x4 y4 else cmpD op x3 y3 else cmpD op x2 y2 else cmpD op x1 y1 := by
  simp only [cmpL, List.length_nil]
theorem key_T {m : M4} (R : InR m) : ∃ a k c d : Nat, keyQ m = .tuple [relT a, preT k, postT c, devT d] ∧ rankQ m = ((rk a k c (late d) : Nat) : Int) ∧ a < 6 ∧ k ≤ 8 ∧ c < 4 ∧ d < 3 ∧ (k = 0 → c = 0) := by
  obtain ⟨i1, i2, i3, i4⟩ := m
  obtain ⟨b1, b1', b2, b2', b3, b3', b4, b4'⟩ := R
  dsimp only at b1 b1' b2 b2' b3 b3' b4 b4'
  obtain ⟨a, rfl⟩ := Int.eq_ofNat_of_zero_le b1
  obtain ⟨b, rfl⟩ := Int.eq_ofNat_of_zero_le b2
  obtain ⟨c, rfl⟩ := Int.eq_ofNat_of_zero_le b3
  obtain ⟨d, rfl⟩ := Int.eq_ofNat_of_zero_le b4
  refine ⟨a, cls b c d, c, d, ?_, ?_, by omega, ?_, by omega, by omega, ?_⟩
  · show keyOf _ _ _ _ = _
    unfold keyOf keyD
    simp only [Int.toNat_natCast]
    rw [pre_T b (by omega) c (by omega) d (by omega)]
    rfl
  · show rankF (a : Int) (b : Int) (c : Int) (d : Int) = _
    have hl : ((d : Int) + 2).fmod 3 = ((late d : Nat) : Int) := by
      have : d = 0 ∨ d = 1 ∨ d = 2 := by omega
      rcases this with rfl | rfl | rfl <;> rfl
    unfold rankF
    rw [hl]
    generalize late d = l
    unfold rk gk cls
    by_cases h1 : b = 0 ∧ c = 0 ∧ d ≠ 0
    · obtain ⟨rfl, rfl, h1⟩ := h1
      have e : ((0 : Nat) : Int) = 0 ∧ ((0 : Nat) : Int) = 0 ∧ (d : Int) ≠ 0 := ⟨rfl, rfl, by omega⟩
      rw [if_pos e]
      simp only [h1, ne_eq, not_false_eq_true, and_self, if_true]
      omega
    · have e : ¬ ((b : Int) = 0 ∧ (c : Int) = 0 ∧ (d : Int) ≠ 0) := by omega
      rw [if_neg e, if_neg h1]
      by_cases h2 : 0 < b
      · rw [if_pos (by omega : (0 : Int) < (b : Int)), if_pos h2, if_neg (by omega : ¬ b = 0), if_neg (by omega : ¬ b = 8)]
        omega
      · rw [if_neg (by omega : ¬ (0 : Int) < (b : Int)), if_neg h2, if_neg (by decide : ¬ (8 : Nat) = 0), if_pos rfl]
        omega
  · unfold cls; split <;> (try split) <;> omega
  · unfold cls
    intro h
    split at h
    · omega
    · split at h <;> omega
theorem late_le (d : Nat) : late d ≤ 2 := by unfold late; omega
theorem late_inj {d d' : Nat} (h : d < 3) (h' : d' < 3) : late d = late d' ↔ d = d' := by unfold late; omega
theorem plain_cmp {op : CmpOp} (h6 : isSix op = true) {m m' : M4} (R : InR m) (R' : InR m') : cmpA op (keyQ m) (keyQ m') = cmpA op (.int (rankQ m)) (.int (rankQ m')) := by
  obtain ⟨a, k, c, d, e, r, ha, hk, hc, hd', h0⟩ := key_T R
  obtain ⟨a', k', c', d', e', r', ha', hk', hc', hd'', h0'⟩ := key_T R'
  have L := lex_of (a := a) (a' := a') hk hk' h0 h0' (by omega : c ≤ 3) (by omega : c' ≤ 3) (late_le d) (late_le d')
  have L' := lex_of (a := a') (a' := a) hk' hk h0' h0 (by omega : c' ≤ 3) (by omega : c ≤ 3) (late_le d') (late_le d)
  obtain ⟨q1, p1⟩ := mono_get mono_rel ha ha'
  obtain ⟨q2, p2⟩ := mono_get mono_pre (by omega : k < 9) (by omega : k' < 9)
  obtain ⟨q3, p3⟩ := mono_get mono_post hc hc'
  obtain ⟨q4, p4⟩ := mono_get mono_dev hd' hd''
  simp only [id] at q1 p1 q2 p2 q3 p3
  rw [e, e', r, r']
  generalize late d = l at *
  generalize late d' = l' at *
  generalize hr : rk a k c l = s at *
  generalize hr' : rk a' k' c' l' = s' at *
  have x1 := L.lt
  have x2 := L.eq
  have x3 := L'.lt
  rw [hr, hr'] at x1 x2 x3
  cases op <;> first | (exact absurd h6 (by decide)) | skip
  case Lt =>
    show cmpL .Lt _ _ = decide ((s : Int) < (s' : Int))
    rw [cmpL4, q1, q2, q3, q4]
    by_cases ea : a = a'
    · by_cases ek : k = k'
      · by_cases ec : c = c'
        · by_cases el : l = l'
          · simp only [ea, ek, ec, el, beq_self_eq_true, if_true, opN, decide_eq_decide]; omega
          · simp only [ea, ek, ec, beq_self_eq_true, if_true, beq_iff_eq, el, if_false, (p4 el).1, decide_eq_decide]; omega
        · simp only [ea, ek, beq_self_eq_true, if_true, beq_iff_eq, ec, if_false, (p3 ec).1, decide_eq_decide]; omega
      · simp only [ea, beq_self_eq_true, if_true, beq_iff_eq, ek, if_false, (p2 ek).1, decide_eq_decide]; omega
    · simp only [beq_iff_eq, ea, if_false, (p1 ea).1, decide_eq_decide]; omega
  case LtE =>
    show cmpL .LtE _ _ = decide ((s : Int) ≤ (s' : Int))
    rw [cmpL4, q1, q2, q3, q4]
    by_cases ea : a = a'
    · by_cases ek : k = k'
      · by_cases ec : c = c'
        · by_cases el : l = l'
          · simp only [ea, ek, ec, el, beq_self_eq_true, if_true, opN, decide_eq_decide]; omega
          · simp only [ea, ek, ec, beq_self_eq_true, if_true, beq_iff_eq, el, if_false, (p4 el).2.1, decide_eq_decide]; omega
        · simp only [ea, ek, beq_self_eq_true, if_true, beq_iff_eq, ec, if_false, (p3 ec).2.1, decide_eq_decide]; omega
      · simp only [ea, beq_self_eq_true, if_true, beq_iff_eq, ek, if_false, (p2 ek).2.1, decide_eq_decide]; omega
    · simp only [beq_iff_eq, ea, if_false, (p1 ea).2.1, decide_eq_decide]; omega
  case Gt =>
    show cmpL .Gt _ _ = decide ((s' : Int) < (s : Int))
    rw [cmpL4, q1, q2, q3, q4]
    by_cases ea : a = a'
    · by_cases ek : k = k'
      · by_cases ec : c = c'
        · by_cases el : l = l'
          · simp only [ea, ek, ec, el, beq_self_eq_true, if_true, opN, decide_eq_decide]; omega
          · simp only [ea, ek, ec, beq_self_eq_true, if_true, beq_iff_eq, el, if_false, (p4 el).2.2.1, decide_eq_decide]; omega
        · simp only [ea, ek, beq_self_eq_true, if_true, beq_iff_eq, ec, if_false, (p3 ec).2.2.1, decide_eq_decide]; omega
      · simp only [ea, beq_self_eq_true, if_true, beq_iff_eq, ek, if_false, (p2 ek).2.2.1, decide_eq_decide]; omega
    · simp only [beq_iff_eq, ea, if_false, (p1 ea).2.2.1, decide_eq_decide]; omega
  case GtE =>
    show cmpL .GtE _ _ = decide ((s' : Int) ≤ (s : Int))
    rw [cmpL4, q1, q2, q3, q4]
    by_cases ea : a = a'
    · by_cases ek : k = k'
      · by_cases ec : c = c'
        · by_cases el : l = l'
          · simp only [ea, ek, ec, el, beq_self_eq_true, if_true, opN, decide_eq_decide]; omega
          · simp only [ea, ek, ec, beq_self_eq_true, if_true, beq_iff_eq, el, if_false, (p4 el).2.2.2, decide_eq_decide]; omega
        · simp only [ea, ek, beq_self_eq_true, if_true, beq_iff_eq, ec, if_false, (p3 ec).2.2.2, decide_eq_decide]; omega
      · simp only [ea, beq_self_eq_true, if_true, beq_iff_eq, ek, if_false, (p2 ek).2.2.2, decide_eq_decide]; omega
    · simp only [beq_iff_eq, ea, if_false, (p1 ea).2.2.2, decide_eq_decide]; omega
  case Eq =>
    show (PyData.eqv (.tuple _) (.tuple _)) = ((s : Int) == (s' : Int))
    have e0 : PyData.eqv (.tuple [relT a, preT k, postT c, devT d]) (.tuple [relT a', preT k', postT c', devT d']) = ((s : Int) == (s' : Int)) := by
      simp only [PyData.eqv, PyData.eqvAll, q1, q2, q3, q4, Bool.and_true]
      rw [Bool.eq_iff_iff]
      simp only [Bool.and_eq_true, beq_iff_eq]
      omega
    rw [e0]
  case NotEq =>
    show (!PyData.eqv (.tuple _) (.tuple _)) = !((s : Int) == (s' : Int))
    have e0 : PyData.eqv (.tuple [relT a, preT k, postT c, devT d]) (.tuple [relT a', preT k', postT c', devT d']) = ((s : Int) == (s' : Int)) := by
      simp only [PyData.eqv, PyData.eqvAll, q1, q2, q3, q4, Bool.and_true]
      rw [Bool.eq_iff_iff]
      simp only [Bool.and_eq_true, beq_iff_eq]
      omega
    rw [e0]

end
section
def Fine (n : Nat) (f : Nat → PyData) : Bool := (List.range n).all fun i => PyData.canLay0 (f i) && decide (PyData.depth (f i) < 5)
def OrdOk (n : Nat) (f : Nat → PyData) : Bool := (List.range n).all fun i => (List.range n).all fun j => PyData.eqv (f i) (f j) || ordD (f i) (f j)
theorem fine_rel : Fine 6 relT = true := by decide +kernel
theorem fine_pre : Fine 9 preT = true := by decide +kernel
theorem fine_post : Fine 4 postT = true := by decide +kernel
theorem fine_dev : Fine 3 devT = true := by decide +kernel
theorem ord_rel : OrdOk 6 relT = true := by decide +kernel
theorem ord_pre : OrdOk 9 preT = true := by decide +kernel
theorem ord_post : OrdOk 4 postT = true := by decide +kernel
theorem ord_dev : OrdOk 3 devT = true := by decide +kernel
theorem fine_get {n : Nat} {f : Nat → PyData} (h : Fine n f = true) {i : Nat} (hi : i < n) : PyData.canLay0 (f i) = true ∧ PyData.depth (f i) < 5 := by
  have h1 := List.all_eq_true.mp h i (List.mem_range.mpr hi)
  simp only [Bool.and_eq_true, decide_eq_true_eq] at h1
  exact h1
theorem ord_get {n : Nat} {f : Nat → PyData} (h : OrdOk n f = true) {i j : Nat} (hi : i < n) (hj : j < n) : PyData.eqv (f i) (f j) = true ∨ ordD (f i) (f j) = true := by
  have h1 := List.all_eq_true.mp (List.all_eq_true.mp h i (List.mem_range.mpr hi)) j (List.mem_range.mpr hj)
  simpa [Bool.or_eq_true] using h1
theorem key_fine {m : M4} (R : InR m) : PyData.canLay0 (keyQ m) = true ∧ PyData.depth (keyQ m) < 8 := by
  obtain ⟨a, k, c, d, e, r, ha, hk, hc, hd', h0⟩ := key_T R
  have f1 := fine_get fine_rel ha
  have f2 := fine_get fine_pre (by omega : k < 9)
  have f3 := fine_get fine_post hc
  have f4 := fine_get fine_dev hd'
  rw [e]
  constructor
  · simp only [PyData.canLay0, PyData.canLayAll0, f1.1, f2.1, f3.1, f4.1, Bool.and_true]
  · simp only [PyData.depth, PyData.depthAll]
    have := f1.2; have := f2.2; have := f3.2; have := f4.2
    omega
theorem plain_can {m m' : M4} (R : InR m) (R' : InR m') : CanCmp (keyQ m) (keyQ m') := by
  have f := key_fine R
  have f' := key_fine R'
  refine ⟨f.2, f.1, f'.1, f'.2, ?_⟩
  obtain ⟨a, k, c, d, e, r, ha, hk, hc, hd', h0⟩ := key_T R
  obtain ⟨a', k', c', d', e', r', ha', hk', hc', hd'', h0'⟩ := key_T R'
  rw [e, e']
  show ordL _ _ = true
  have o1 := ord_get ord_rel ha ha'
  have o2 := ord_get ord_pre (by omega : k < 9) (by omega : k' < 9)
  have o3 := ord_get ord_post hc hc'
  have o4 := ord_get ord_dev hd' hd''
  simp only [ordL]
  split
  · split
    · split
      · split
        · rfl
        · next q => exact o4.resolve_left q
      · next q => exact o3.resolve_left q
    · next q => exact o2.resolve_left q
  · next q => exact o1.resolve_left q
/-- the plain release j as a key -/
theorem key_plain (j : Int) : keyD (relsD.getD j.toNat .none) none none none = keyQ (j, 0, 0, 0) := rfl
theorem inR_plain {j : Int} (h0 : 0 ≤ j) (h6 : j < 6) : InR (j, 0, 0, 0) := ⟨h0, h6, Int.le_refl 0, (by decide : (0 : Int) < 8), Int.le_refl 0, (by decide : (0 : Int) < 4), Int.le_refl 0, (by decide : (0 : Int) < 3)⟩
theorem int_can (i j : Int) : CanCmp (.int i) (.int j) := ⟨by show 0 < 8; decide, rfl, rfl, by show 0 < 8; decide, rfl⟩
theorem int_rev {op : CmpOp} (h6 : isSix op = true) (i j : Int) : cmpA (revOp op) (.int i) (.int j) = cmpA op (.int j) (.int i) := by
  cases op <;> first | rfl | (exact absurd h6 (by decide)) | skip
  case Eq => show (i == j) = (j == i); exact Bool.beq_comm
  case NotEq => show (!(i == j)) = !(j == i); rw [Bool.beq_comm (a := i)]
theorem rev_six {op : CmpOp} (h6 : isSix op = true) : isSix (revOp op) = true := by cases op <;> first | rfl | (exact absurd h6 (by decide))
theorem plain_rev {op : CmpOp} (h6 : isSix op = true) {m m' : M4} (R : InR m) (R' : InR m') : cmpA (revOp op) (keyQ m) (keyQ m') = cmpA op (.int (rankQ m')) (.int (rankQ m)) := by
  rw [plain_cmp (rev_six h6) R R', int_rev h6]
theorem six_eq {f g : CmpOp → Bool} (h : ∀ op, isSix op = true → f op = g op) : sixL f = sixL g := by
  unfold sixL; rw [h .Lt rfl, h .LtE rfl, h .Eq rfl, h .NotEq rfl, h .Gt rfl, h .GtE rfl]
theorem six_ne {f g : CmpOp → Bool} (h : ∀ op, isSix op = true → f op = g op) : (!PyData.eqv (.list (sixL f)) (.list (sixL g))) = false := by
  rw [six_eq h]
  simp only [sixL, PyData.eqv, PyData.eqvAll, beq_self_eq_true, Bool.and_true, Bool.not_true]
theorem last_lt : cmpA .Lt (keyQ (2, 5, 0, 0)) (keyQ (2, 0, 0, 0)) = true := by
  rw [plain_cmp rfl ⟨by decide, by decide, by decide, by decide, by decide, by decide, by decide, by decide⟩ ⟨by decide, by decide, by decide, by decide, by decide, by decide, by decide, by decide⟩]
  decide +kernel
theorem eqv_refl_key {m : M4} (R : InR m) : PyData.eqv (keyQ m) (keyQ m) = true := by
  have := plain_cmp (op := .Eq) rfl R R
  rw [show PyData.eqv (keyQ m) (keyQ m) = cmpA .Eq (keyQ m) (keyQ m) from rfl, this]
  show (rankQ m == rankQ m) = true
  exact beq_self_eq_true _
theorem pair_ne {m m' : M4} (R : InR m) (R' : InR m') : (!PyData.eqv (.tuple [keyQ m, keyQ m']) (.tuple [keyQ m, keyQ m'])) = false := by
  simp only [PyData.eqv, PyData.eqvAll, eqv_refl_key R, eqv_refl_key R', Bool.and_true, Bool.not_true]
theorem last_can : CanCmp (keyQ (2, 5, 0, 0)) (keyQ (2, 0, 0, 0)) :=
  plain_can ⟨by decide, by decide, by decide, by decide, by decide, by decide, by decide, by decide⟩ ⟨by decide, by decide, by decide, by decide, by decide, by decide, by decide, by decide⟩

end
section
theorem All2.getI {α β : Type} {P : α → β → Prop} {as : List α} {bs : List β} (h : All2 P as bs) {k : Int} {n : Nat} (h0 : 0 ≤ k) (h1 : k < 0 + (n : Int)) (hn : bs.length = n) : ∃ a b, bs[k.toNat]? = some b ∧ as[k.toNat]? = some a ∧ P a b := by
  have hb : k.toNat < bs.length := by omega
  obtain ⟨a, ea, p⟩ := All2.get' h (List.getElem?_eq_getElem hb)
  exact ⟨a, _, List.getElem?_eq_getElem hb, ea, p⟩
/-- the four lists at one place -/
theorem at4 {G : Heap} {vM vK vR vV : List Value} {ds : List M4} (hm : All2 (MadeV G) vM ds) (hK : All2 (KeyV G) vK ds) (hR : All2 (RankV G) vR ds) (hV : All2 (VerV G) vV ds) {k : Int} {n : Nat} (h0 : 0 ≤ k) (h1 : k < 0 + (n : Int)) (hn : ds.length = n) :
    ∃ m vk, InR m ∧ (∃ q, vM[k.toNat]? = some (.ref q) ∧ MadeAt G q m.1 m.2.1 m.2.2.1 m.2.2.2) ∧ (vK[k.toNat]? = some vk ∧ Rd G vk (keyQ m)) ∧ (∃ t, vR[k.toNat]? = some (.int (rankQ m) t)) ∧ (∃ x, vV[k.toNat]? = some (.ref x) ∧ VerAt G x (keyQ m)) := by
  obtain ⟨a, m, em, ea, p⟩ := hm.getI h0 h1 hn
  obtain ⟨b, m', em', eb, pb⟩ := hK.getI h0 h1 hn
  obtain ⟨c, m2, em2, ec, pc⟩ := hR.getI h0 h1 hn
  obtain ⟨d, m3, em3, ed, pd⟩ := hV.getI h0 h1 hn
  rw [em] at em' em2 em3
  cases em'; cases em2; cases em3
  obtain ⟨q, rfl, M⟩ := id p
  obtain ⟨t, rfl⟩ := pc
  obtain ⟨x, rfl, V⟩ := pd
  exact ⟨m, b, p.inR, ⟨q, ea, M⟩, ⟨eb, pb⟩, ⟨t, ec⟩, x, ed, V⟩
section
variable {prog : Program} {w : World} {A : Around} {E : Value → Shared → Prop} {s : Shared} {env : Env} {h₀ : Heap} {x : Str} {body : List Stmt} {Q : Flow → Shared → Prop}
/-- a for over a tuple of the base -/
theorem iter_tupleLaw {r : Addr} {vs : List Value} {m₀ : Str → Option Value} {news : List (Addr × Obj)} (stored : List Str)
    (hh : A.handled = none) (hr : IsTup h₀ r vs.toArray) (F : Fr h₀ env.locals s.heap m₀) (N : News h₀ env.locals s.heap news)
    (turn : ∀ v (u : Str → Option Value) h tk own, v ∈ vs → Fr h₀ env.locals h (fun y => if y = x then some v else if stored.contains y then u y else m₀ y) → News h₀ env.locals h (own ++ news) →
      wpAny (model prog w) A (execs body env) (TurnPost h₀ env.locals x stored m₀ (own ++ news) { s with heap := h, toks := tk } Q) E { s with heap := h, toks := tk })
    (done : ∀ (u : Str → Option Value) h tk, Fr h₀ env.locals h (fun y => if y = x then u y else if stored.contains y then u y else m₀ y) → News h₀ env.locals h news → Q .next { s with heap := h, toks := tk }) :
    wpAny (model prog w) A (pyIter (.ref r)) (fun it s₂ => LoopAtV prog w A h₀ env x body Q E it s₂) E s := by
  have ht : s.heap.IsTuple r vs.toArray := IsTup.keeps hr F.keep
  obtain ⟨o, eo, _⟩ := id hr
  have hlt0 : r < h₀.objs.size := Heap.lt_size eo
  have hlt : r < s.heap.objs.size := Heap.lt_size (F.keep _ _ eo)
  refine wpAny_pyIter_tuple ht ?_
  have W := Walks.tuple (prog := prog) (w := w) hh s.heap.objs.size r (Nat.ne_of_lt hlt) vs.toArray
  refine loop_at_law stored W ?_ ?_ ?_ ⟨⟨_, Heap.get?_push_size _ rfl, rfl, rfl⟩, IsTup.keeps ht fun b o e => Heap.get?_push_of_some _ e⟩ (F.push _) (fun p hp => ⟨Heap.get?_push_of_some _ (N p hp).1, (N p hp).2⟩) ?_ ?_
  · intro hm
    rcases List.mem_cons.mp hm with e | hm
    · exact absurd F.ns.lt (e ▸ Nat.lt_irrefl _)
    · exact absurd (Nat.lt_of_lt_of_le hlt0 F.above) ((List.mem_singleton.mp hm) ▸ Nat.lt_irrefl _)
  · intro b hb
    rw [List.mem_singleton.mp hb]
    exact next_is_new F
  · intro p hp hI
    exact absurd (Heap.lt_size (N p hp).1) ((List.mem_singleton.mp hI) ▸ Nat.lt_irrefl _)
  · rintro i v u h tk own hi hv F₁ N₁
    refine turn v u h tk own ?_ F₁ N₁
    have hv' : vs[i]? = some v := by simpa using hv
    exact List.mem_of_getElem? hv'
  · exact done
end

end
section
theorem led_sub {h₀ h : Heap} {L : Addr} {all news : List (Addr × Obj)} (led : Led h₀ (hideAll h [L]) all) (N : News h₀ L h news) : ∀ p ∈ news, p ∈ all := fun p hp => by
  have a := N p hp
  rcases led p.1 p.2 (hideAll_get _ a.1 fun hm => a.2.1 (List.mem_singleton.mp hm)) with q | q
  · rw [a.2.2] at q; cases q
  · exact q
theorem rebase {h₀ h : Heap} {L : Addr} {m : Str → Option Value} {news : List (Addr × Obj)} (F : Fr h₀ L h m) (N : News h₀ L h news) : ∃ all, News h₀ L h all ∧ Led h₀ (hideAll h [L]) all ∧ ∀ p ∈ news, p ∈ all := by
  obtain ⟨all, N', led, _⟩ := ledger F []
  exact ⟨all, N', led, led_sub led N⟩
theorem rd_hideL {h₀ h : Heap} {L : Addr} {m : Str → Option Value} (F : Fr h₀ L h m) {v : Value} {d : PyData} (r : Rd h v d) : Rd (hideAll h [L]) v d := Rd.keepT (fun b o _ hn e => hide_keepN (fr_dict F) b o hn e) d v r
theorem bools_any {h h' : Heap} : ∀ {vs : List Value} {bs : List Bool} {as : List Addr}, ReadsAll h vs (bs.map .bool) as → as = [] ∧ ReadsAll h' vs (bs.map .bool) []
  | _, [], _, r => by cases r; exact ⟨rfl, ReadsAll.nil⟩
  | _, b :: bs, _, r => by
    cases r with
    | cons h1 h2 =>
      cases h1
      obtain ⟨e, q⟩ := bools_any (h' := h') h2
      subst e
      exact ⟨rfl, ReadsAll.cons (as := []) (bs := []) (Reads.bool _) q⟩
theorem six_bools (f : CmpOp → Bool) : sixL f = [f .Lt, f .LtE, f .Eq, f .NotEq, f .Gt, f .GtE].map .bool := rfl
theorem six_hideL {h₀ h : Heap} {L l : Addr} {m : Str → Option Value} {f : CmpOp → Bool} {as : List Addr} (F : Fr h₀ L h m) (r : Reads h (.ref l) (.list (sixL f)) as) : Reads (hideAll h [L]) (.ref l) (.list (sixL f)) [l] := by
  rw [six_bools] at r ⊢
  cases r with
  | list h1 h2 h3 h4 => exact Reads.list (as := []) (hide_keepN (fr_dict F) _ _ (fun es n q => by rw [h3] at q; cases q) h1) h2 h3 (bools_any h4).2
theorem pair_sh {a b : PyData} (ha : PyData.canLay0 a = true ∧ PyData.depth a < 8) (hb : PyData.canLay0 b = true ∧ PyData.depth b < 8) : PySem.SeqAt.shaped (.tuple [a, b]) = true := by
  refine Bool.and_eq_true_iff.mpr ⟨?_, decide_eq_true ?_⟩
  · simp only [PyData.canLay0, PyData.canLayAll0, ha.1, hb.1, Bool.and_true]
  · simp only [PyData.depth, PyData.depthAll]
    have := ha.2; have := hb.2
    omega

end
section
section
variable {prog : Program} {w : World} {A : Around} {s : Shared}
theorem item_made0 {value slice : Expr} {q : Addr} {i1 i2 i3 i4 : Int} {u : Tok} {Q : Value → Shared → Prop} {E : Value → Shared → Prop} (M : MadeAt s.heap q i1 i2 i3 i4) (h : ∀ t, Q (.int i1 t) s)
    (hs : subscripted slice false (.ref q) (.int 0 u) = operate [.ref q, .int 0 u] (getItem (.ref q) (.int 0 u)) := by with_unfolding_all rfl) :
    wpAny (model prog w) A (subscriptTail value slice (.ref q) (.int 0 u)) Q E s := by
  obtain ⟨t1, t2, t3, t4, T⟩ := M.tup
  exact item_tupleT (l := [.int i1 t1, .int i2 t2, .int i3 t3, .int i4 t4]) (j := 0) (x := .int i1 t1) T (by decide) (by decide) rfl rfl (h t1) hs
end
theorem rels_at (w : World) {h : Heap} (X : (hd.heap_39 w.params).In h) {i : Int} (h0 : 0 ≤ i) (h6 : i < 6) : ∃ y ity, relsV.getD i.toNat .none = .ref y ∧ IsTup h y ity ∧ Rd h (.ref y) (relsD.getD i.toNat .none) := by
  have r := rels_rd w X h0 h6
  have e : ∃ ds, relsD.getD i.toNat .none = .tuple ds := by
    have e : i = 0 ∨ i = 1 ∨ i = 2 ∨ i = 3 ∨ i = 4 ∨ i = 5 := by omega
    rcases e with e | e | e | e | e | e <;> subst e <;> exact ⟨_, rfl⟩
  obtain ⟨ds, ed⟩ := e
  rw [ed] at r ⊢
  obtain ⟨a, o, vs, n, ev, e1, e2, e3, e4⟩ := rd_tup r
  rw [ev] at r
  exact ⟨a, vs, ev, isTup_at e1 e2 e3, r⟩
theorem lit_made {h₀ h : Heap} {L a : Addr} {i : Int} {t1 t2 t3 t4 : Tok} {news : List (Addr × Obj)} (N : News h₀ L h news) (hm : (a, ({ cls := .type "tuple", data := .seq #[.int i t1, .int 0 t2, .int 0 t3, .int 0 t4] } : Obj)) ∈ news) (b1 : 0 ≤ i) (b1' : i < 6) : MadeAt h a i 0 0 0 :=
  ⟨⟨t1, t2, t3, t4, isTup_at (N.get hm) rfl rfl⟩, b1, b1', by decide, by decide, by decide, by decide, by decide, by decide⟩

end
section
theorem junk_tup (w : World) {h : Heap} (X : (hd.heap_39 w.params).In h) : ∃ vs : List Value, IsTup h 162 vs.toArray ∧ ∀ v ∈ vs, Junk v := by
  refine ⟨_, tupK (l := [_, _, _, _, _, _]) X (by k_is), fun v hv => ?_⟩
  rcases List.mem_cons.mp hv with rfl | hv
  · constructor
  rcases List.mem_cons.mp hv with rfl | hv
  · constructor
  rcases List.mem_cons.mp hv with rfl | hv
  · constructor
  rcases List.mem_cons.mp hv with rfl | hv
  · constructor
  rcases List.mem_cons.mp hv with rfl | hv
  · constructor
  rw [List.mem_singleton.mp hv]
  constructor
theorem hm_plain {m₀ uj : Str → Option Value} {v vj : Option Value} {y : Str} (h1 : y ≠ "j") (h2 : (["plain"] : List Str).contains y = false) : (if y = "plain" then v else if y = "j" then vj else if (["plain"] : List Str).contains y = true then uj y else m₀ y) = m₀ y := by
  have h3 : y ≠ "plain" := fun q => by subst q; revert h2; decide
  rw [if_neg h3, if_neg h1, if_neg (by rw [h2]; exact Bool.false_ne_true)]
theorem hm_thing {m₀ u : Str → Option Value} {v : Option Value} {y : Str} (h1 : y ≠ "thing") (h2 : ([] : List Str).contains y = false) : (if y = "thing" then v else if ([] : List Str).contains y = true then u y else m₀ y) = m₀ y := by
  rw [if_neg h1, if_neg (by rw [h2]; exact Bool.false_ne_true)]
theorem hm_out {m₀ ui uj uJ : Str → Option Value} {v : Option Value} {y : Str} (h1 : y ≠ "i") (h2 : (["j", "plain", "thing"] : List Str).contains y = false) :
    (if y = "thing" then uJ y else if ([] : List Str).contains y = true then uJ y else if y = "j" then uj y else if (["plain"] : List Str).contains y = true then uj y else if y = "i" then v else if (["j", "plain", "thing"] : List Str).contains y = true then ui y else m₀ y) = m₀ y := by
  have h3 : y ≠ "plain" := fun q => by subst q; revert h2; decide
  have h4 : y ≠ "thing" := fun q => by subst q; revert h2; decide
  have h5 : y ≠ "j" := fun q => by subst q; revert h2; decide
  have e1 : ¬ ([] : List Str).contains y = true := by simp
  have e2 : ¬ (["plain"] : List Str).contains y = true := by simp [h3]
  rw [if_neg h4, if_neg e1, if_neg h5, if_neg e2, if_neg h1, if_neg (by rw [h2]; exact Bool.false_ne_true)]
theorem hne_plain {y : Str} (h2 : (["plain"] : List Str).contains y = false) : y ≠ "plain" := fun q => by subst q; revert h2; decide

end
section
local macro_rules | `(tactic| boot_fact) => `(tactic| with_reducible exact boot_ni)
local macro_rules | `(tactic| walk_at "subscriptTail Name Name ref int") => `(tactic| ((with_reducible show wpAny _ _ (subscriptTail _ _ (Value.ref _) (Value.int _ _)) _ _ _); refine Stop.out ?_))
local macro_rules | `(tactic| walk_at "subscriptTail Subscript") => `(tactic| ((with_reducible show wpAny _ _ (subscriptTail _ _ (Value.ref _) (Value.int _ _)) _ _ _); refine Stop.out ?_))
local macro_rules | `(tactic| walk_at "subscriptTail Name") => `(tactic| ((with_reducible show wpAny _ _ (subscriptTail _ _ (Value.ref _) (Value.int _ _)) _ _ _); refine Stop.out ?_))
local macro_rules | `(tactic| walk_at "subscriptTail") => `(tactic| ((with_reducible show wpAny _ _ (subscriptTail _ _ (Value.ref _) (Value.int _ _)) _ _ _); refine Stop.out ?_))
local macro_rules | `(tactic| walk_at "call type:range") => `(tactic| (refine Stop.out ?_))
local macro_rules | `(tactic| walk_at "call builtin:len") => `(tactic| (refine Stop.out ?_))
local macro_rules | `(tactic| walk_at "pyIter ref") => `(tactic| (refine Stop.out ?_))
local macro_rules | `(tactic| walk_at "call ref") => `(tactic| (refine Stop.out ?_))
local macro_rules | `(tactic| walk_at "binaryOp Add ref ref") => `(tactic| (refine Stop.out ?_))
local macro_rules | `(tactic| walk_at "eval ListComp") => `(tactic| (refine Stop.out ?_))
local macro_rules | `(tactic| walk_at "compareOp NotEq ref ref") => `(tactic| (refine Stop.out ?_))
local macro_rules | `(tactic| walk_at "compareOp Eq ref") => `(tactic| (refine Stop.out ?_))
local macro_rules | `(tactic| walk_at "compareOp NotEq ref") => `(tactic| (refine Stop.out ?_))
local macro_rules | `(tactic| walk_at "callWith") => `(tactic| (k_here; k_dflt (refine' callWith_C ?hf ?_ ?he ?hp; (case hf => assumption); (case he => exact rfl); (case hp => exact rfl); k_whole)))
local macro_rules | `(tactic| walk_at "And") => `(tactic| ((with_reducible show Keep _ _ ∧ _); refine Stop.out ?_))
local macro_rules | `(tactic| walk_at "exec Assign cons ListComp") => `(tactic| (refine Stop.out ?_))
theorem law_X : PySem.Challenge.rw_ep5037_01.Holds := hd (by
  k_go0
  all_goals try k_fold
  (rename Frag.In _ _ => hX)
  (rename Top topProg _ _ _ _ _ => hT)
  have hTR := topRead_of hT
  (rename Shared => sB)
  k_steps
  show wpAny _ _ _ _ _ _
  (rename Fr _ _ _ _ => F1)
  (rename News _ _ _ _ => N1)
  refine comp_call (K := hd.heap_39 _) (fa := 190) (ex := [41]) (Src := IntV) (P := SomeMade) rfl F1 hX hTR (by with_unfolding_all rfl) (by decide) rfl (by decide) rfl (fun _ => by with_unfolding_all rfl) (fun _ => by with_unfolding_all rfl) rfl (by decide) (by decide) (by k_is) (by k_is) (fun _ _ _ _ k ⟨m, q⟩ => ⟨m, MadeV.keeps k q⟩) (fun _ _ _ _ _ q => q) ?_ (fun _ => by with_unfolding_all rfl)
  k_steps
  (rename Fr _ _ _ _ => F2)
  (rename News _ _ _ _ => N2)
  (rename IntsAre _ (List.take _ _) => hI2)
  refine Stop.in ⟨_, _, _, _, rfl, ⟨_, (N2 _ (List.Mem.head _)).1, rfl, _, rfl⟩, ?_, F2, odd41 (N2 (41, tabObj #[]) (by k_mem)).1, ints_all2 hI2, call_made _ ?_ ?_ (Frag.In.keeps hX F2.keep) (TopRead.keeps hTR F2.keep), ?_⟩
  · exact Nat.le_trans (by simpa [hI2.length] using Nat.min_le_left _ _) (by decide : 6 ≤ sizeLine)
  · exact Nat.le_of_ble_eq_true rfl
  · exact Nat.le_of_ble_eq_true rfl
  intro ys D h tk kp gD nD inv
  obtain ⟨ms, hms⟩ := some_made inv
  have hys : ys.length ≤ 6 := by rw [inv.length]; simpa using Nat.min_le_left _ _
  have F3 := Fr.kept F2 kp
  have N3 := news_add N2 F2.keep (fr_L F2) kp (o := W.listOf ys.toArray ys.length) gD nD
  clear F2 N2 kp gD nD
  try dsimp only at F3 N3
  k_steps
  show wpAny _ _ _ _ _ _
  refine add_own F3 N3 (vs := [_, _]) (List.Mem.tail _ (List.Mem.tail _ (List.Mem.head _))) (List.Mem.head _) ?_ ?_
  · exact Nat.le_trans (Nat.add_le_add_left hys _) (by decide : 2 + 6 ≤ sizeLine)
  intro h4 D4 F4 N4 k4
  have odd4 : OddAll h4 [sB.heap.objs.size, 41] := odd_cons F4 (odd41 (N4 (41, tabObj #[]) (by k_mem)).1)
  have hm := All2.cons (made_lit (i1 := 2) (i2 := 5) (i3 := 0) (i4 := 0) N4 (by k_mem) odd4 (by decide) (by decide) (by decide) (by decide) (by decide) (by decide) (by decide) (by decide))
      (All2.cons (made_lit (i1 := 2) (i2 := 0) (i3 := 0) (i4 := 0) N4 (by k_mem) odd4 (by decide) (by decide) (by decide) (by decide) (by decide) (by decide) (by decide) (by decide))
        (hms.mono fun _ _ q => MadeV.keeps (Keep.trans (hide_sub fun a ha => List.Mem.tail _ ha) (hide_but fun b o _ e => k4 b o e)) q))
  have e41 := (N4 (41, tabObj #[]) (by k_mem)).1
  obtain ⟨all4, NA4, led4, off4⟩ := ledger F4 [41]
  have N5 := news_cons (N4 (41, tabObj #[]) (by k_mem)) NA4
  have gM := get_hid N4 (List.Mem.head _) e41 (fun q => by cases q)
  clear hms inv F3 N3 k4 N4 NA4 odd4 e41
  k_steps
  show wpAny _ _ _ _ _ _
  (rename Fr _ _ _ _ => F4b)
  refine comp_call_assign (K := hd.heap_39 _) (fa := 204) (ex := [41]) (Src := MadeV) (P := KeyV) rfl F4b hX hTR rfl (by with_unfolding_all rfl) (by with_unfolding_all rfl) (by decide) rfl (by decide) rfl rfl rfl (fun _ => by with_unfolding_all rfl) (fun _ => by with_unfolding_all rfl) rfl (by decide) (by decide) (by k_is) (by k_is) (fun _ _ _ _ k q => KeyV.keeps k q) (fun _ _ _ _ k q => MadeV.keeps k q) ?_ (fun _ => by with_unfolding_all rfl)
  k_steps
  (rename Fr _ _ _ _ => F4c)
  (rename News _ _ _ _ => N4c)
  have kg4 := Led.keep led4 F4c.keep N4c (fun _ hp => List.Mem.tail _ hp)
  refine Stop.in ⟨_, _, _, _, _, rfl, ⟨_, kg4 _ _ gM, rfl, _, rfl⟩, ?_, F4c, N4c, odd41 (N4c _ (List.Mem.head _)).1, hm.mono fun _ _ q => MadeV.keeps kg4 q, call_key _ ?_ ?_ (Frag.In.keeps hX F4c.keep) (TopRead.keeps hTR F4c.keep), ?_⟩
  · exact Nat.le_trans (by simpa using Nat.add_le_add_right hys 2 : _ ≤ 6 + 2) (by decide : 8 ≤ sizeLine)
  · exact Nat.le_of_ble_eq_true rfl
  · exact Nat.le_of_ble_eq_true rfl
  intro ys5 D5 h5 tk5 F5 N5 k5 inv5
  have kk5 := Keep.trans (keep_hid kg4) k5
  have e41 := (N5 _ (List.Mem.tail _ (List.Mem.head _))).1
  obtain ⟨all5, NA5, led5, off5⟩ := ledger F5 [41]
  have gK := get_hid N5 (List.Mem.head _) e41 (fun q => by cases q)
  have hK := inv5.mono fun _ _ q => KeyV.keeps (hide_sub fun a ha => List.Mem.tail _ ha) q
  have N5b := news_cons (N5 _ (List.Mem.tail _ (List.Mem.head _))) NA5
  replace gM := kk5 _ _ gM
  replace hm := hm.mono fun _ _ q => MadeV.keeps kk5 q
  clear k5 kk5 e41 kg4 F4c N4c N5 NA5 led4 off4 inv5
  try dsimp only at F5 N5b
  try dsimp only
  k_steps
  show wpAny _ _ _ _ _ _
  (rename Fr _ _ _ _ => F5b)
  refine comp_call_assign (K := hd.heap_39 _) (fa := 197) (ex := [41]) (Src := MadeV) (P := RankV) rfl F5b hX hTR rfl (by with_unfolding_all rfl) (by with_unfolding_all rfl) (by decide) rfl (by decide) rfl rfl rfl (fun _ => by with_unfolding_all rfl) (fun _ => by with_unfolding_all rfl) rfl (by decide) (by decide) (by k_is) (by k_is) (fun _ _ _ _ _ q => q) (fun _ _ _ _ k q => MadeV.keeps k q) ?_ (fun _ => by with_unfolding_all rfl)
  k_steps
  (rename Fr _ _ _ _ => F5c)
  (rename News _ _ _ _ => N5c)
  have kg5 := Led.keep led5 F5c.keep N5c (fun _ hp => List.Mem.tail _ hp)
  refine Stop.in ⟨_, _, _, _, _, rfl, ⟨_, kg5 _ _ gM, rfl, _, rfl⟩, ?_, F5c, N5c, odd41 (N5c _ (List.Mem.head _)).1, hm.mono fun _ _ q => MadeV.keeps kg5 q, call_rank _ ?_ ?_ (Frag.In.keeps hX F5c.keep) (TopRead.keeps hTR F5c.keep), ?_⟩
  · exact Nat.le_trans (by simpa using Nat.add_le_add_right hys 2 : _ ≤ 6 + 2) (by decide : 8 ≤ sizeLine)
  · exact Nat.le_of_ble_eq_true rfl
  · exact Nat.le_of_ble_eq_true rfl
  intro ys6 D6 h6 tk6 F6 N6 k6 inv6
  have kk6 := Keep.trans (keep_hid kg5) k6
  have e41 := (N6 _ (List.Mem.tail _ (List.Mem.head _))).1
  obtain ⟨all6, NA6, led6, off6⟩ := ledger F6 [41]
  have gR := get_hid N6 (List.Mem.head _) e41 (fun q => by cases q)
  have hR := inv6.mono fun _ _ q => q
  have N6b := news_cons (N6 _ (List.Mem.tail _ (List.Mem.head _))) NA6
  replace gM := kk6 _ _ gM
  replace hm := hm.mono fun _ _ q => MadeV.keeps kk6 q
  replace gK := kk6 _ _ gK
  replace hK := hK.mono fun _ _ q => KeyV.keeps kk6 q
  clear k6 kk6 e41 kg5 F5c N5c N6 NA6 led5 off5 inv6
  try dsimp only at F6 N6b
  try dsimp only
  k_steps
  show wpAny _ _ _ _ _ _
  (rename Fr _ _ _ _ => F6b)
  refine comp_call_assign (K := hd.heap_39 _) (fa := 211) (ex := [41]) (Src := MadeV) (P := VerV) rfl F6b hX hTR rfl (by with_unfolding_all rfl) (by with_unfolding_all rfl) (by decide) rfl (by decide) rfl rfl rfl (fun _ => by with_unfolding_all rfl) (fun _ => by with_unfolding_all rfl) rfl (by decide) (by decide) (by k_is) (by k_is) (fun _ _ _ _ k q => VerV.keeps k q) (fun _ _ _ _ k q => MadeV.keeps k q) ?_ (fun _ => by with_unfolding_all rfl)
  k_steps
  (rename Fr _ _ _ _ => F6c)
  (rename News _ _ _ _ => N6c)
  have kg6 := Led.keep led6 F6c.keep N6c (fun _ hp => List.Mem.tail _ hp)
  refine Stop.in ⟨_, _, _, _, _, rfl, ⟨_, kg6 _ _ gM, rfl, _, rfl⟩, ?_, F6c, N6c, odd41 (N6c _ (List.Mem.head _)).1, hm.mono fun _ _ q => MadeV.keeps kg6 q, call_ver _ ?_ ?_ (Frag.In.keeps hX F6c.keep) (TopRead.keeps hTR F6c.keep), ?_⟩
  · exact Nat.le_trans (by simpa using Nat.add_le_add_right hys 2 : _ ≤ 6 + 2) (by decide : 8 ≤ sizeLine)
  · exact Nat.le_of_ble_eq_true rfl
  · exact Nat.le_of_ble_eq_true rfl
  intro ys7 D7 h7 tk7 F7 N7 k7 inv7
  have kk7 := Keep.trans (keep_hid kg6) k7
  have e41 := (N7 _ (List.Mem.tail _ (List.Mem.head _))).1
  obtain ⟨all7, NA7, led7, off7⟩ := ledger F7 [41]
  have gV := get_hid N7 (List.Mem.head _) e41 (fun q => by cases q)
  have hV := inv7.mono fun _ _ q => VerV.keeps (hide_sub fun a ha => List.Mem.tail _ ha) q
  have N7b := news_cons (N7 _ (List.Mem.tail _ (List.Mem.head _))) NA7
  replace gM := kk7 _ _ gM
  replace hm := hm.mono fun _ _ q => MadeV.keeps kk7 q
  replace gK := kk7 _ _ gK
  replace hK := hK.mono fun _ _ q => KeyV.keeps kk7 q
  replace gR := kk7 _ _ gR
  clear k7 kk7 e41 kg6 F6c N6c N7 NA7 led6 off6 inv7
  try dsimp only at F7 N7b
  try dsimp only
  k_steps
  show wpAny _ _ _ _ _ _
  (rename Fr _ _ _ _ => F8)
  (rename News _ _ _ _ => N8)
  have n41 : (ghostOf sB.heap [(45, 41)]).get? 41 = none := (N8 _ (List.Mem.head _)).2.2
  have kg7 := Led.keep led7 F8.keep N8 (fun _ hp => List.Mem.tail _ hp)
  have ku8 := keep_hide F8.keep n41
  refine' wpAny_call (c46a _ ?zd ?zu ?zh41 ?zX ?zT ?zC _ ?zk)
  case zd => exact Nat.le_of_ble_eq_true rfl
  case zu => exact Nat.le_of_ble_eq_true rfl
  case zh41 => exact (N8 _ (List.Mem.head _)).1
  case zX => exact Frag.In.keeps hX ku8
  case zT => exact Top.keeps hT ku8
  case zC => exact CodeHd.keeps codeHd ku8
  intro c9 h9 tk9 k9 TB9 CA9
  have F9 : Fr _ _ h9 _ := ⟨F8.ns.at' fun o e => k9 _ o (fun q => (N8 _ (List.Mem.head _)).2.1 q.symm) e, fun b o e => k9 b o (fun q => by rw [q, n41] at e; cases e) (F8.keep b o e), F8.above⟩
  have kk9 := Keep.trans (keep_hid kg7) (keep_hide1 k9)
  have W9 := Wd.mk (Frag.In.keeps hX (under2 F9 n41)) (Top.keeps hT (under2 F9 n41)) (CodeHd.keeps codeHd (under2 F9 n41)) (TabAt.keepN (hide_keepN (fr_dict F9)) TB9)
  replace CA9 := CompAt.keepN (hide_keepN (fr_dict F9)) CA9
  obtain ⟨all9, N9, led9, _⟩ := ledger F9 []
  replace gM := kk9 _ _ gM
  replace hm := hm.mono fun _ _ q => MadeV.keeps kk9 q
  replace gK := kk9 _ _ gK
  replace hK := hK.mono fun _ _ q => KeyV.keeps kk9 q
  replace gR := kk9 _ _ gR
  replace gV := kk9 _ _ gV
  replace hV := hV.mono fun _ _ q => VerV.keeps kk9 q
  clear F8 N8 kg7 ku8 TB9 kk9 k9 led7
  try dsimp only
  k_steps
  show wpAny _ _ _ _ _ _
  refine' wpAny_call (c46d _ ?ya ?yb ?yW _ ?yk)
  case ya => exact Nat.le_of_ble_eq_true rfl
  case yb => exact Nat.le_of_ble_eq_true rfl
  case yW => exact Wd.keeps W9 hid_sub
  intro c10 h10 tk10 k10 CA10
  have F10 := Fr.kept F9 k10
  have N10 := News.grown N9 k10
  clear F9 N9
  try dsimp only
  k_steps
  show wpAny _ _ _ _ _ _
  refine' wpAny_call (c46d _ ?xa ?xb ?xW _ ?xk)
  case xa => exact Nat.le_of_ble_eq_true rfl
  case xb => exact Nat.le_of_ble_eq_true rfl
  case xW => exact Wd.keeps W9 (Keep.trans hid_sub k10)
  intro c11 h11 tk11 k11 CA11
  have F11 := Fr.kept F10 k11
  clear F10 N10
  obtain ⟨all11, N11, led11, _⟩ := ledger F11 []
  have kk11 : Keep (hideAll h9 [sB.heap.objs.size]) (hideAll h11 [sB.heap.objs.size]) := hide_but fun b o _ e => k11 b o (k10 b o e)
  have W11 := Wd.keeps W9 kk11
  replace CA9 := CompAt.keeps kk11 CA9
  replace CA10 := CompAt.keepN (hide_keepN (fr_dict F11)) (CompAt.keeps k11 CA10)
  replace CA11 := CompAt.keepN (hide_keepN (fr_dict F11)) CA11
  replace gM := kk11 _ _ gM
  replace hm := hm.mono fun _ _ q => MadeV.keeps kk11 q
  replace gK := kk11 _ _ gK
  replace hK := hK.mono fun _ _ q => KeyV.keeps kk11 q
  replace gR := kk11 _ _ gR
  replace gV := kk11 _ _ gV
  replace hV := hV.mono fun _ _ q => VerV.keeps kk11 q
  clear kk11 k10 k11 W9 led9
  try dsimp only
  k_steps
  show wpAny _ _ _ _ _ _
  (rename Fr _ _ _ _ => F12)
  (rename News _ _ _ _ => N12)
  have kg12 := Led.keep led11 F12.keep N12 (fun _ hp => List.Mem.tail _ hp)
  replace N12 : News _ _ _ all11 := fun p hp => N12 p (List.Mem.tail _ hp)
  refine PySem.Calls.call_len_list ⟨_, kg12 _ _ gM, rfl, _, rfl⟩ ?_ ?_
  · show ((ys.length + 2 : Nat) : Int) < 2 ^ 63
    omega
  clear kg12
  k_steps
  show wpAny _ _ _ _ _ _
  refine range_own F12 N12 fun r13 h13 tk13 t13 u13 v13 F13 N13 k13 IR13 => ?_
  clear F12 N12 k13
  try dsimp only
  k_steps
  show wpAny _ _ _ _ _ _
  refine PySem.W.iter_rangeLaw ["j", "plain", "thing"] rfl IR13 (range_small (ys.length + 2) (by omega)) (range_size (ys.length + 2)) F13 N13 ?_ ?_
  · intro ki ti ui h14 tk14 own14 ki0 ki1 F14 N14
    clear F13 N13 IR13
    obtain ⟨mi, vKi, Ri, ⟨qi, eMi, Mi⟩, ⟨eKi, rKi⟩, ⟨tRi, eRi⟩, xi, eVi, Vi⟩ := at4 hm hK hR hV ki0 ki1 hm.length.symm
    have sub14 : ∀ p ∈ all11, p ∈ own14 ++ all11 := fun p hp => List.mem_append_right _ hp
    generalize own14 ++ all11 = all14 at *
    have led14 : Led _ _ all14 := fun b o e => (led11 b o e).imp_right (sub14 _)
    clear sub14 led11
    try dsimp only
    k_steps
    show wpAny _ _ _ _ _ _
    (rename Fr _ _ _ _ => F17)
    (rename News _ _ _ _ => N17)
    have kg17 := Led.keep led14 F17.keep N17 (fun _ hp => hp)
    refine PySem.Calls.call_len_list ⟨_, kg17 _ _ gM, rfl, _, rfl⟩ ?_ ?_
    · show ((ys.length + 2 : Nat) : Int) < 2 ^ 63
      omega
    clear kg17
    k_steps
    show wpAny _ _ _ _ _ _
    refine range_own F17 N17 fun r18 h18 tk18 t18 u18 v18 F18 N18 k18 IR18 => ?_
    clear F17 N17 k18
    try dsimp only
    k_steps
    show wpAny _ _ _ _ _ _
    refine PySem.W.iter_rangeLaw ["plain"] rfl IR18 (range_small (ys.length + 2) (by omega)) (range_size (ys.length + 2)) F18 N18 ?_ ?_
    · intro kj tj uj h19 tk19 own19 kj0 kj1 F19 N19
      clear F18 N18 IR18
      obtain ⟨mj, vKj, Rj, ⟨qj, eMj, Mj⟩, ⟨eKj, rKj⟩, ⟨tRj, eRj⟩, xj, eVj, Vj⟩ := at4 hm hK hR hV kj0 kj1 hm.length.symm
      have sub19 : ∀ p ∈ all14, p ∈ own19 ++ all14 := fun p hp => List.mem_append_right _ hp
      generalize own19 ++ all14 = all19 at *
      have led19 : Led _ _ all19 := fun b o e => (led14 b o e).imp_right (sub19 _)
      clear sub19
      try dsimp only
      k_steps
      show wpAny _ _ _ _ _ _
      (rename Fr _ _ _ _ => Fa)
      (rename News _ _ _ _ => Na)
      have ka := Led.keep led19 Fa.keep Na (fun _ hp => hp)
      refine item_listL ⟨_, ka _ _ gK, rfl, _, rfl⟩ ki0 (by omega) eKi ?_ (by with_unfolding_all rfl) (by intro _; with_unfolding_all rfl)
      try dsimp only
      k_steps
      show wpAny _ _ _ _ _ _
      refine item_listL ⟨_, ka _ _ gK, rfl, _, rfl⟩ kj0 (by omega) eKj ?_ (by with_unfolding_all rfl) (by intro _; with_unfolding_all rfl)
      try dsimp only
      k_steps
      show wpAny _ _ _ _ _ _
      refine' wpAny_call (c218 _ ?sba ?sbb ?sbX ?sbT ?sbS ?sbk)
      case sba => exact Nat.le_of_ble_eq_true rfl
      case sbb => exact Nat.le_of_ble_eq_true rfl
      case sbX => exact Frag.In.keeps hX Fa.keep
      case sbT => exact TopRead.keeps hTR Fa.keep
      case sbS => exact (six_rd _ (Nat.le_of_ble_eq_true rfl) (Rd.keeps ka rKi) (Rd.keeps ka rKj) (plain_can Ri Rj))
      intro lb hb tkb qb rb
      have Fb := Fr.kept Fa qb
      have Nb := News.grown Na qb
      have kb := Keep.trans ka qb
      clear Fa Na ka
      try dsimp only
      k_steps
      show wpAny _ _ _ _ _ _
      refine item_listL ⟨_, kb _ _ gR, rfl, _, rfl⟩ ki0 (by omega) eRi ?_ (by with_unfolding_all rfl) (by intro _; with_unfolding_all rfl)
      try dsimp only
      k_steps
      show wpAny _ _ _ _ _ _
      refine item_listL ⟨_, kb _ _ gR, rfl, _, rfl⟩ kj0 (by omega) eRj ?_ (by with_unfolding_all rfl) (by intro _; with_unfolding_all rfl)
      try dsimp only
      k_steps
      show wpAny _ _ _ _ _ _
      refine' wpAny_call (c218 _ ?sca ?scb ?scX ?scT ?scS ?sck)
      case sca => exact Nat.le_of_ble_eq_true rfl
      case scb => exact Nat.le_of_ble_eq_true rfl
      case scX => exact Frag.In.keeps hX Fb.keep
      case scT => exact TopRead.keeps hTR Fb.keep
      case scS => exact (six_rd _ (Nat.le_of_ble_eq_true rfl) (Rd.int _ _) (Rd.int _ _) (int_can _ _))
      intro lc hc tkc qc rc
      have Fc := Fr.kept Fb qc
      have Nc := News.grown Nb qc
      have kc := Keep.trans kb qc
      clear Fb Nb kb
      try dsimp only
      k_steps
      show wpAny _ _ _ _ _ _
      refine ne_dataH (Reads.keeps qc rb) (rc) rfl rfl ?_ ?_
      · exact Nat.le_of_ble_eq_true rfl
      rw [six_ne (f := fun op => cmpA op (keyQ mi) (keyQ mj)) (g := fun op => cmpA op (.int (rankQ mi)) (.int (rankQ mj))) fun op h6 => plain_cmp h6 Ri Rj]
      try dsimp only
      clear rb rc qb qc
      k_steps
      show wpAny _ _ _ _ _ _
      refine item_listL ⟨_, kc _ _ gV, rfl, _, rfl⟩ ki0 (by omega) eVi ?_ (by with_unfolding_all rfl) (by intro _; with_unfolding_all rfl)
      try dsimp only
      k_steps
      show wpAny _ _ _ _ _ _
      refine item_listL ⟨_, kc _ _ gV, rfl, _, rfl⟩ kj0 (by omega) eVj ?_ (by with_unfolding_all rfl) (by intro _; with_unfolding_all rfl)
      try dsimp only
      k_steps
      refine Stop.in ⟨kc, ?_⟩
      try dsimp only [List.nil_append, List.cons_append]
      show wpAny _ _ (call _ _ _) _ _ _
      refine' wpAny_call (told_a _ ?tda ?tdb ?tdX ?tdT (CompAt.keeps kc CA9) (VerAt.keeps kc Vi) (VerAt.keeps kc Vj) ?tdk)
      case tda => exact Nat.le_of_ble_eq_true rfl
      case tdb => exact Nat.le_of_ble_eq_true rfl
      case tdX => exact Frag.In.keeps hX Fc.keep
      case tdT => exact TopRead.keeps hTR Fc.keep
      intro vd hd tkd qd rd
      have Fd := Fr.kept Fc qd
      have Nd := News.grown Nc qd
      have kd := Keep.trans kc qd
      clear Fc Nc kc
      try dsimp only
      obtain ⟨avd, ovd, vsd, nvd, rfl, _⟩ := rd_tup rd
      replace rd := rd_hideL Fd rd
      have xd := rebase Fd Nd
      clear Nd
      obtain ⟨alld, Nd, ledd, subd⟩ := xd
      have gd := keep_hid kd
      k_steps
      show wpAny _ _ _ _ _ _
      refine item_listL ⟨_, kd _ _ gK, rfl, _, rfl⟩ ki0 (by omega) eKi ?_ (by with_unfolding_all rfl) (by intro _; with_unfolding_all rfl)
      try dsimp only
      k_steps
      show wpAny _ _ _ _ _ _
      refine item_listL ⟨_, kd _ _ gK, rfl, _, rfl⟩ kj0 (by omega) eKj ?_ (by with_unfolding_all rfl) (by intro _; with_unfolding_all rfl)
      try dsimp only
      k_steps
      show wpAny _ _ _ _ _ _
      (rename Fr _ _ _ _ => Fe)
      (rename News _ _ _ _ => Ne)
      have ke := Led.keep ledd Fe.keep Ne (fun _ hp => List.Mem.tail _ hp)
      replace gd := Keep.trans gd ke
      refine ne_dataH (Rd.keeps ke rd) (Rd.tup (News.get Ne (List.Mem.head _)) rfl rfl (RdAll.cons (Rd.keeps gd rKi) (RdAll.cons (Rd.keeps gd rKj) RdAll.nil))) (pair_sh (key_fine Ri) (key_fine Rj)) (pair_sh (key_fine Ri) (key_fine Rj)) ?_ ?_
      · exact Nat.le_of_ble_eq_true rfl
      rw [pair_ne Ri Rj]
      try dsimp only
      replace Ne : News _ _ _ all19 := fun p hp => Ne p (List.Mem.tail _ (subd p hp))
      replace ke := gd
      clear gd subd rd ledd
      k_steps
      show wpAny _ _ _ _ _ _
      refine item_listL ⟨_, ke _ _ gV, rfl, _, rfl⟩ ki0 (by omega) eVi ?_ (by with_unfolding_all rfl) (by intro _; with_unfolding_all rfl)
      try dsimp only
      k_steps
      show wpAny _ _ _ _ _ _
      refine item_listL ⟨_, ke _ _ gV, rfl, _, rfl⟩ kj0 (by omega) eVj ?_ (by with_unfolding_all rfl) (by intro _; with_unfolding_all rfl)
      try dsimp only
      k_steps
      refine Stop.in ⟨ke, ?_⟩
      try dsimp only [List.nil_append, List.cons_append]
      show wpAny _ _ (call _ _ _) _ _ _
      refine' wpAny_call (word_a _ ?tfa ?tfb ?tfX ?tfT (CompAt.keeps ke CA10) (VerAt.keeps ke Vi) (VerAt.keeps ke Vj) ?tfk)
      case tfa => exact Nat.le_of_ble_eq_true rfl
      case tfb => exact Nat.le_of_ble_eq_true rfl
      case tfX => exact Frag.In.keeps hX Fe.keep
      case tfT => exact TopRead.keeps hTR Fe.keep
      intro tf hf tkf qf
      have Ff := Fr.kept Fe qf
      have Nf := News.grown Ne qf
      have kf := Keep.trans ke qf
      clear Fe Ne ke
      try dsimp only
      k_steps
      show wpAny _ _ _ _ _ _
      obtain ⟨yj, ityj, eyj, ytj, yrj⟩ := rels_at _ hX Rj.b1 Rj.b1'
      refine item_listL ⟨_, kf _ _ gM, rfl, _, rfl⟩ kj0 (by omega) eMj ?_ (by with_unfolding_all rfl) (by intro _; with_unfolding_all rfl)
      try dsimp only
      k_steps
      show wpAny _ _ _ _ _ _
      refine item_made0 (MadeAt.keeps Mj kf) (fun tp => ?_) (by with_unfolding_all rfl)
      try dsimp only
      k_steps
      show wpAny _ _ _ _ _ _
      refine item_sym (vs := relsV) (rels_tup _ (Frag.In.keeps hX Ff.keep)) Rj.b1 (by (show _ < ((6 : Nat) : Int)); exact Rj.b1') (by decide) ?_ (by with_unfolding_all rfl)
      rw [eyj]
      try dsimp only
      k_steps
      show wpAny _ _ _ _ _ _
      (rename Fr _ _ _ _ => Fg)
      (rename News _ _ _ _ => Ng)
      have kg := Led.keep led19 Fg.keep Ng (fun _ hp => hp)
      refine item_listL ⟨_, kg _ _ gV, rfl, _, rfl⟩ ki0 (by omega) eVi ?_ (by with_unfolding_all rfl) (by intro _; with_unfolding_all rfl)
      try dsimp only
      k_steps
      refine Stop.in ⟨kg, ?_⟩
      try dsimp only [List.nil_append, List.cons_append]
      show wpAny _ _ (call _ _ _) _ _ _
      refine' wpAny_call (told_b _ ?tha ?thb ?thX ?thT (CompAt.keeps kg CA9) (VerAt.keeps kg Vi) (IsTup.keeps ytj Fg.keep) (Rd.keeps Fg.keep yrj) ?thk)
      case tha => exact Nat.le_of_ble_eq_true rfl
      case thb => exact Nat.le_of_ble_eq_true rfl
      case thX => exact Frag.In.keeps hX Fg.keep
      case thT => exact TopRead.keeps hTR Fg.keep
      intro vh hh tkh qh rh
      have Fh := Fr.kept Fg qh
      have Nh := News.grown Ng qh
      have kh := Keep.trans kg qh
      clear Fg Ng kg
      try dsimp only
      obtain ⟨avh, ovh, vsh, nvh, rfl, _⟩ := rd_tup rh
      replace rh := rd_hideL Fh rh
      have xh := rebase Fh Nh
      clear Nh
      obtain ⟨allh, Nh, ledh, subh⟩ := xh
      have gh := keep_hid kh
      k_steps
      show wpAny _ _ _ _ _ _
      refine item_listL ⟨_, kh _ _ gK, rfl, _, rfl⟩ ki0 (by omega) eKi ?_ (by with_unfolding_all rfl) (by intro _; with_unfolding_all rfl)
      try dsimp only
      k_steps
      show wpAny _ _ _ _ _ _
      refine' wpAny_call (c39 _ ?coa ?cob ?coX ?coT (Rd.keeps Fh.keep yrj) PreV.no OptV.no OptV.no ?cok)
      case coa => exact Nat.le_of_ble_eq_true rfl
      case cob => exact Nat.le_of_ble_eq_true rfl
      case coX => exact Frag.In.keeps hX Fh.keep
      case coT => exact TopRead.keeps hTR Fh.keep
      intro vo ho tko qo ro
      have Fo := Fr.kept Fh qo
      have No := News.grown Nh qo
      have ko := Keep.trans kh qo
      clear Fh Nh kh
      try dsimp only
      replace ro := rd_hideL Fo ro
      have gx := keep_hid (Keep.trans hid_sub qo : Keep (hideAll hh [sB.heap.objs.size]) ho)
      replace rh := Rd.keeps gx rh
      have xo := rebase Fo No
      clear No
      obtain ⟨allo, No, ledo, subo⟩ := xo
      have go := keep_hid ko
      k_steps
      show wpAny _ _ _ _ _ _
      (rename Fr _ _ _ _ => Fm)
      (rename News _ _ _ _ => Nm)
      have km := Led.keep ledo Fm.keep Nm (fun _ hp => List.Mem.tail _ hp)
      have gm := Keep.trans go km
      refine ne_dataH (Rd.keeps km rh) (Rd.tup (News.get Nm (List.Mem.head _)) rfl rfl (RdAll.cons (Rd.keeps gm rKi) (RdAll.cons (Rd.keeps km ro) RdAll.nil))) (pair_sh (key_fine Ri) (key_fine (inR_plain Rj.b1 Rj.b1'))) (pair_sh (key_fine Ri) (key_fine (inR_plain Rj.b1 Rj.b1'))) ?_ ?_
      · exact Nat.le_of_ble_eq_true rfl
      rw [show (!PyData.eqv (.tuple [keyQ mi, keyD (relsD.getD mj.fst.toNat PyData.none) none none none]) (.tuple [keyQ mi, keyD (relsD.getD mj.fst.toNat PyData.none) none none none])) = false from pair_ne Ri (inR_plain Rj.b1 Rj.b1')]
      try dsimp only
      replace Nm : News _ _ _ all19 := fun p hp => Nm p (List.Mem.tail _ (subo p (subh p hp)))
      replace km := gm
      clear gm go gh gx subo subh rh ro ledo ledh
      k_steps
      show wpAny _ _ _ _ _ _
      refine item_listL ⟨_, km _ _ gV, rfl, _, rfl⟩ ki0 (by omega) eVi ?_ (by with_unfolding_all rfl) (by intro _; with_unfolding_all rfl)
      try dsimp only
      k_steps
      show wpAny _ _ _ _ _ _
      refine' wpAny_call (c218 _ ?sna ?snb ?snX ?snT ?snS ?snk)
      case sna => exact Nat.le_of_ble_eq_true rfl
      case snb => exact Nat.le_of_ble_eq_true rfl
      case snX => exact Frag.In.keeps hX Fm.keep
      case snT => exact TopRead.keeps hTR Fm.keep
      case snS => exact (six_tv _ (Nat.le_of_ble_eq_true rfl) (Nat.le_of_ble_eq_true rfl) (Wd.keeps W11 km) (VerAt.keeps km Vi) (IsTup.keeps ytj Fm.keep) (Rd.keeps Fm.keep yrj) (plain_can Ri (inR_plain Rj.b1 Rj.b1')))
      intro ln hn tkn qn rn
      have Fn := Fr.kept Fm qn
      have Nn := News.grown Nm qn
      have kn := Keep.trans km qn
      clear Fm Nm km
      try dsimp only
      replace rn := six_hideL Fn rn
      have xn := rebase Fn Nn
      clear Nn
      obtain ⟨alln, Nn, ledn, subn⟩ := xn
      have gn := keep_hid kn
      k_steps
      show wpAny _ _ _ _ _ _
      refine item_listL ⟨_, kn _ _ gM, rfl, _, rfl⟩ kj0 (by omega) eMj ?_ (by with_unfolding_all rfl) (by intro _; with_unfolding_all rfl)
      try dsimp only
      k_steps
      show wpAny _ _ _ _ _ _
      refine item_made0 (MadeAt.keeps Mj kn) (fun tq => ?_) (by with_unfolding_all rfl)
      try dsimp only
      k_steps
      show wpAny _ _ _ _ _ _
      (rename Fr _ _ _ _ => Fp)
      (rename News _ _ _ _ => Np)
      have kp := Led.keep ledn Fp.keep Np (fun _ hp => List.Mem.tail _ hp)
      replace rn := Reads.keeps kp rn
      replace kp := Keep.trans gn kp
      refine' wpAny_call (c197 _ ?cqa ?cqb ?cqX ?cqT (lit_made Np (List.Mem.head _) Rj.b1 Rj.b1') ?cqk)
      case cqa => exact Nat.le_of_ble_eq_true rfl
      case cqb => exact Nat.le_of_ble_eq_true rfl
      case cqX => exact Frag.In.keeps hX Fp.keep
      case cqT => exact TopRead.keeps hTR Fp.keep
      intro rq tq hq tkq qq eq
      have Fq := Fr.kept Fp qq
      have Nq := News.grown Np qq
      have kq := Keep.trans kp qq
      clear Fp Np kp
      try dsimp only
      subst eq
      replace rn := Reads.keeps qq rn
      k_steps
      show wpAny _ _ _ _ _ _
      refine item_listL ⟨_, kq _ _ gR, rfl, _, rfl⟩ ki0 (by omega) eRi ?_ (by with_unfolding_all rfl) (by intro _; with_unfolding_all rfl)
      try dsimp only
      k_steps
      show wpAny _ _ _ _ _ _
      refine' wpAny_call (c218 _ ?sua ?sub ?suX ?suT ?suS ?suk)
      case sua => exact Nat.le_of_ble_eq_true rfl
      case sub => exact Nat.le_of_ble_eq_true rfl
      case suX => exact Frag.In.keeps hX Fq.keep
      case suT => exact TopRead.keeps hTR Fq.keep
      case suS => exact (six_rd _ (Nat.le_of_ble_eq_true rfl) (Rd.int _ _) (Rd.int _ _) (int_can _ _))
      intro lu hu tku qu ru
      have Fu := Fr.kept Fq qu
      have Nu := News.grown Nq qu
      have ku := Keep.trans kq qu
      clear Fq Nq kq
      try dsimp only
      k_steps
      show wpAny _ _ _ _ _ _
      refine ne_dataH (Reads.keeps qu rn) (ru) rfl rfl ?_ ?_
      · exact Nat.le_of_ble_eq_true rfl
      rw [six_ne (f := fun op => cmpA (revOp op) (keyQ mi) (keyD (relsD.getD mj.fst.toNat PyData.none) none none none)) (g := fun op => cmpA op (.int (rankF mj.fst 0 0 0)) (.int (rankQ mi))) fun op h6 => plain_rev h6 Ri (inR_plain Rj.b1 Rj.b1')]
      try dsimp only
      clear rn ru qu qq gn
      k_steps
      exact PySem.W.TurnEnd.intro Fu Nu (fun p hp => List.Mem.tail _ (subn p hp)) (fun y h1 h2 => by (try dsimp only); rw [if_neg (hne_plain h2), if_neg h1, if_neg (by rw [h2]; exact Bool.false_ne_true)])
    · intro uj h20 tk20 F20 N20
      clear F18 N18 IR18
      try dsimp only
      k_steps
      show wpAny _ _ _ _ _ _
      obtain ⟨jvs, jtup, jall⟩ := junk_tup _ hX
      (rename Fr _ _ _ _ => FA)
      refine iter_tupleLaw [] rfl jtup FA N20 ?_ ?_
      · intro vJ uJ hJ tkJ ownJ memJ FJ NJ
        clear FA N20
        have subJ : ∀ p ∈ all14, p ∈ ownJ ++ all14 := fun p hp => List.mem_append_right _ hp
        generalize ownJ ++ all14 = allJ at *
        have ledJ : Led _ _ allJ := fun b o e => (led14 b o e).imp_right (subJ _)
        clear subJ
        have junkJ := jall _ memJ
        clear memJ jall jtup
        try dsimp only
        k_steps
        show wpAny _ _ _ _ _ _
        (rename Fr _ _ _ _ => FK)
        (rename News _ _ _ _ => NK)
        have kK := Led.keep ledJ FK.keep NK (fun _ hp => hp)
        refine item_listL ⟨_, kK _ _ gV, rfl, _, rfl⟩ ki0 (by omega) eVi ?_ (by with_unfolding_all rfl) (by intro _; with_unfolding_all rfl)
        try dsimp only
        k_steps
        refine Stop.in ⟨kK, ?_⟩
        try dsimp only [List.nil_append, List.cons_append]
        show wpAny _ _ (call _ _ _) _ _ _
        refine' wpAny_call (ccmp_c _ ?tMa ?tMb ?tMX ?tMT (CompAt.keeps kK CA11) (VerAt.keeps kK Vi) junkJ ?tMk)
        case tMa => exact Nat.le_of_ble_eq_true rfl
        case tMb => exact Nat.le_of_ble_eq_true rfl
        case tMX => exact Frag.In.keeps hX FK.keep
        case tMT => exact TopRead.keeps hTR FK.keep
        intro hM tkM qM
        have FM := Fr.kept FK qM
        have NM := News.grown NK qM
        have kM := Keep.trans kK qM
        clear FK NK kK
        try dsimp only
        k_steps
        show wpAny _ _ _ _ _ _
        refine item_listL ⟨_, kM _ _ gV, rfl, _, rfl⟩ ki0 (by omega) eVi ?_ (by with_unfolding_all rfl) (by intro _; with_unfolding_all rfl)
        try dsimp only
        k_steps
        refine Stop.in ?_
        show wpAny _ _ (compareOp _ _ _) _ _ _
        refine' ver_junk_eq _ ?jea ?jeb (Wd.keeps W11 kM) (VerAt.keeps kM Vi) junkJ ?jek
        case jea => exact Nat.le_of_ble_eq_true rfl
        case jeb => exact Nat.le_of_ble_eq_true rfl
        intro hO tkO qO
        have FO := Fr.kept FM qO
        have NO := News.grown NM qO
        have kO := Keep.trans kM qO
        clear FM NM kM
        try dsimp only
        k_steps
        show wpAny _ _ _ _ _ _
        refine item_listL ⟨_, kO _ _ gV, rfl, _, rfl⟩ ki0 (by omega) eVi ?_ (by with_unfolding_all rfl) (by intro _; with_unfolding_all rfl)
        try dsimp only
        k_steps
        refine Stop.in ?_
        show wpAny _ _ (compareOp _ _ _) _ _ _
        refine' ver_junk_ne _ ?jna ?jnb (Wd.keeps W11 kO) (VerAt.keeps kO Vi) junkJ ?jnk
        case jna => exact Nat.le_of_ble_eq_true rfl
        case jnb => exact Nat.le_of_ble_eq_true rfl
        intro hP tkP qP
        have FP := Fr.kept FO qP
        have NP := News.grown NO qP
        clear FO NO kO
        try dsimp only
        k_steps
        try exact PySem.W.TurnEnd.intro FP NP (fun p hp => hp) (fun y h1 h2 => by (try dsimp only); rw [if_neg h1, if_neg (by rw [h2]; exact Bool.false_ne_true)])
      · intro uJ hJ tkJ FJ NJ
        clear FA N20
        try dsimp only
        k_steps
  · intro ui h15 tk15 F15 N15
    clear F13 N13 IR13
    try dsimp only
    k_steps
    show wpAny _ _ _ _ _ _
    (rename Fr _ _ _ _ => F16)
    have kg16 := Led.keep led11 F16.keep N15 (fun _ hp => hp)
    cases hK with
    | cons p0 hK =>
    cases hK with
    | cons p1 hK =>
    refine item_listL ⟨_, kg16 _ _ gK, rfl, _, rfl⟩ (by decide) (by decide) rfl ?_ (by with_unfolding_all rfl) (by intro _; with_unfolding_all rfl)
    try dsimp only
    k_steps
    show wpAny _ _ _ _ _ _
    refine item_listL ⟨_, kg16 _ _ gK, rfl, _, rfl⟩ (by decide) (by decide) rfl ?_ (by with_unfolding_all rfl) (by intro _; with_unfolding_all rfl)
    try dsimp only
    k_steps
    show wpAny _ _ (richCompare .Lt _ _) _ _ _
    refine rich_all (op := .Lt) rfl (Rd.keeps kg16 p0) (Rd.keeps kg16 p1) last_can ?_ ?_
    · exact Nat.le_of_ble_eq_true rfl
    rw [last_lt]
    try dsimp only
    refine ⟨PySem.W.goodW_bool F16 ?zg ?zn ?zp, ?zq⟩
    case zn => (intro c; with_unfolding_all rfl)
    case zp => with_unfolding_all rfl
    case zg => assumption
    case zq =>
      obtain ⟨tps, t1, t2⟩ := W11.TB
      exact ⟨⟨_, kg16 _ _ (by assumption)⟩, True.intro⟩)

end
end Mine
theorem PySem.Challenge.cw_ep5037_01_holds : PySem.Challenge.rw_ep5037_01.Holds := by
  exact Mine.law_X
