import PyProof.Rows.All
import Wide.All
import OpenK.AllK
import Wide.FinOn
import PySem.Challenge.RW_in0168_01
set_option Elab.async false
section
open PySem PySem.W PyProof.Rows
namespace Mine
section
set_option compiler.extract_closed false in
local macro_rules | `(tactic| o_head $H) => `(tactic| (have q := $H; assumption))
set_option maxRecDepth 100000 in
set_option maxHeartbeats 0 in
theorem pre : (OpenLaw.row PySem.Challenge.rw_in0168_01).Holds → (OpenLaw.row PySem.Challenge.rw_in0168_01).Holds := by
  intro h
  km_head
end
noncomputable abbrev addrs : List Addr := [2, 3, 32, 34, 35, 37, 38, 46, 48, 49, 51, 52, 53, 55, 56, 58, 59, 60, 62, 63, 65, 66, 67, 69, 70, 72, 73, 74, 75, 76, 77, 78, 81, 83, 84, 86, 87, 91, 92, 93, 95, 96, 98, 99, 101, 105, 107, 108, 110, 111, 112, 114, 115, 117, 118, 119, 121, 122, 124, 125, 126, 128, 129, 131, 132, 133, 135, 136, 138, 139, 140, 142, 143, 145, 146, 147, 149, 150, 152, 153, 154, 156, 157, 159, 160, 161, 163, 164, 166, 167, 168, 170, 171, 173, 174, 175, 178, 179, 180, 183, 184]
set_option maxRecDepth 100000 in
theorem addrs_eq : ∀ P, addrs = (pre.heap_1 P).map (·.1) := fun _ => by kernel_rfl
noncomputable def view_of (b : List Stmt) {c0 c1 c2 c3 c4 c5 c6 c7 c8 c9 c10 c11 c12 c13 c14 c15 c16 c17 c18 c19 c20 c21 c22 c23 c24 : Stmt} (_ : b = [c0, c1, c2, c3, c4, c5, c6, c7, c8, c9, c10, c11, c12, c13, c14, c15, c16, c17, c18, c19, c20, c21, c22, c23, c24]) : List Stmt :=
  [c0, c1, c3, c4, c6, c7, c9, c10, c12, c13, c15, c16, c17, c18, c19, c21, c22, c23, c24]
set_option maxRecDepth 100000 in
noncomputable def view : Program := { PySem.Challenge.pw_in0168_01 with main := { PySem.Challenge.pw_in0168_01.main with body := view_of PySem.Challenge.pw_in0168_01.main.body rfl } }
noncomputable abbrev loose : List PySem.Str := [PySem.Str.ofString "_twin_re_1", PySem.Str.ofString "_special_chars_map"]
noncomputable abbrev xt : Shared → Bool := fun s => xlAt Mine.view [] s && recOk (RowW.records (OpenRow.toRowW (OpenLaw.row PySem.Challenge.rw_in0168_01))) s
noncomputable abbrev LeftAt (w : World) : Prop := (openEnds treeTable PySem.Challenge.pw_in0168_01 w 4494).map (fun s => (openSeen Mine.view loose (importedModules PySem.Challenge.pw_in0168_01.main.body) xt true s, Hook.obs (kmHook pre.heap_1 addrs addrs_eq [113]) s)) = some (openGood Mine.view loose, Hook.val (kmHook pre.heap_1 addrs addrs_eq [113]) w)
section
theorem left_ff : ∀ w : World, LeftAt ((w.withFollow "special-get-raises" false).withFollow "comprehension-iter-twice" false) := by
  intro w
  delta LeftAt openEnds fencedOpening topFrom
  rewrite [PySem.W.Fast.te10274390034422433532, PySem.W.Fast.te14364793385576792824, PySem.W.Fast.te14289696077712309145, PySem.W.Fast.te1435165496053646825, PySem.W.Fast.te14082659384304107361, PySem.W.Fast.te4187177175401517315]
  kernel_rfl
theorem left_ft : ∀ w : World, LeftAt ((w.withFollow "special-get-raises" true).withFollow "comprehension-iter-twice" false) := by
  intro w
  delta LeftAt openEnds fencedOpening topFrom
  rewrite [PySem.W.Fast.te10274390034422433532, PySem.W.Fast.te14364793385576792824, PySem.W.Fast.te14289696077712309145, PySem.W.Fast.te1435165496053646825, PySem.W.Fast.te14082659384304107361, PySem.W.Fast.te4187177175401517315]
  kernel_rfl
theorem left_tf : ∀ w : World, LeftAt ((w.withFollow "special-get-raises" false).withFollow "comprehension-iter-twice" true) := by
  intro w
  delta LeftAt openEnds fencedOpening topFrom
  rewrite [PySem.W.Fast.te10274390034422433532, PySem.W.Fast.te14364793385576792824, PySem.W.Fast.te14289696077712309145, PySem.W.Fast.te1435165496053646825, PySem.W.Fast.te14082659384304107361, PySem.W.Fast.te4187177175401517315]
  kernel_rfl
theorem left_tt : ∀ w : World, LeftAt ((w.withFollow "special-get-raises" true).withFollow "comprehension-iter-twice" true) := by
  intro w
  delta LeftAt openEnds fencedOpening topFrom
  rewrite [PySem.W.Fast.te10274390034422433532, PySem.W.Fast.te14364793385576792824, PySem.W.Fast.te14289696077712309145, PySem.W.Fast.te1435165496053646825, PySem.W.Fast.te14082659384304107361, PySem.W.Fast.te4187177175401517315]
  kernel_rfl
end
theorem left_all : ∀ w, LeftAt w := byRow2 "comprehension-iter-twice" (byRow2 "special-get-raises" left_ff left_ft) (byRow2 "special-get-raises" left_tf left_tt)
set_option maxRecDepth 100000 in
theorem well : OpenLaw.wellSaid PySem.Challenge.rw_in0168_01 = true := by
  rewrite [PySem.W.Fast.te9446332074065402090]
  kernel_rfl
set_option maxRecDepth 100000 in
set_option maxHeartbeats 0 in
theorem hd {d : DefRec} {kwd : List (PySem.Str × Expr)} (hdef : defOf Mine.view (OpenLaw.row PySem.Challenge.rw_in0168_01).name = some (d, kwd)) (hp : (OpenLaw.row PySem.Challenge.rw_in0168_01).prog.theDef (OpenLaw.row PySem.Challenge.rw_in0168_01).name = some (d.params, d.body, d.scope)) (hk : kwWritten? d.params.kwonlyargs d.params.kw_defaults = some kwd)
    (walk : WalkO Mine.view loose (XL Mine.view []) (Hook.says (kmHook pre.heap_1 addrs addrs_eq [113])) (OpenRow.toRowW (OpenLaw.row PySem.Challenge.rw_in0168_01)) d kwd fun f vs => PySem.call f vs) : PySem.Challenge.rw_in0168_01.Holds := by
  w_on
  refine holds_law well fun said => ?_
  refine holds_open (q := Mine.view) (loose := loose) (Xt := xt) (XP := XL Mine.view []) (N := 4494) left_all (Hook.of _) (Hook.keeps _) (fun s e => xl_of s (Bool.and_eq_true_iff.mp e).1) XL.keeps hdef hp hk (fun s e => recFacts_of (Bool.and_eq_true_iff.mp e).2) (by rfl) (by first | assumption | decide +kernel) (by decide +kernel) ⟨rfl, rfl, rfl, rfl, rfl, by decide +kernel⟩ ?hw ?hc
  case hw => w_witness2
  case hc => exact walk
end Mine
end
section
open PySem PySem.W PySem.Calls PyProof.Rows PySem.SeqAt
set_option maxRecDepth 100000
namespace Mine
section
set_option maxRecDepth 100000
theorem four_of {α : Type} {es : List α} (h : es.length = 4) : ∃ e0 e1 e2 e3, es = [e0, e1, e2, e3] := by
  match es, h with
  | [a, b, c, d], _ => exact ⟨a, b, c, d, rfl⟩
theorem three_of {α : Type} {es : List α} (h : es.length = 3) : ∃ e0 e1 e2, es = [e0, e1, e2] := by
  match es, h with
  | [a, b, c], _ => exact ⟨a, b, c, rfl⟩
theorem two_more {α β : Type} {l : List α} {f : α → β} {a b : β} {r : List β} (h : l.map f = a :: b :: r) : ∃ x y z, l = x :: y :: z := by
  match l, h with
  | x :: y :: z, _ => exact ⟨x, y, z, rfl⟩
theorem om_or4 {x : Nat} (h : x < 4) : x = 0 ∨ x = 1 ∨ x = 2 ∨ x = 3 := by omega
theorem om_or4' {x : Nat} (h : x ≤ 3) : x = 0 ∨ x = 1 ∨ x = 2 ∨ x = 3 := om_or4 (Nat.lt_succ_of_le h)
theorem om_or3 {x : Nat} (h : x < 3) : x = 0 ∨ x = 1 ∨ x = 2 := by omega
theorem om_or234 {x y : Nat} (h : y = 2 ∨ y = 3 ∨ y = 4) (e : x = y) : x = 2 ∨ x = 3 ∨ x = 4 := by rw [e]; exact h
theorem om_sub_dec {n x k : Nat} (h : x < n) : n - (x + (k + 1)) < n - x := Nat.sub_lt_sub_left h (Nat.lt_add_of_pos_right (Nat.succ_pos k))
theorem om_sub_dec1 {n x k : Nat} (h : x ≤ n) : n + 1 - (x + (k + 1)) < n + 1 - x := om_sub_dec (Nat.lt_succ_of_le h)
theorem om_sub_dec10 {n x k : Nat} (h : x + 3 < n) : n + 10 - (x + (k + 1)) < n + 10 - x := om_sub_dec (by omega)
theorem om_sub_dec41 {x : Nat} (h : x < 40) : 41 - (x + 1) < 41 - x := om_sub_dec (by omega)
theorem om_sub_keep {n x m : Nat} (h : n - x = m + 1) : n - (x + 1) = m := by omega
theorem om_lt_of_size {n : Nat} (h : n ≤ sizeLine) : n < 2 ^ 62 := Nat.lt_of_le_of_lt h (by decide)
theorem om_cast_lt {n m : Nat} (h : n < m) (hm : m ≤ 2 ^ 63) : (n : Int) < 2 ^ 63 := by omega
theorem om_cast_lt' {n m : Nat} (h : n ≤ m) (hm : m < 2 ^ 63) : (n : Int) < 2 ^ 63 := by omega
theorem om_succ_le {n m k : Nat} (h : n ≤ m) (hm : m + 1 ≤ k) : n + 1 ≤ k := Nat.le_trans (Nat.succ_le_succ h) hm
theorem om_succ_lt {n m k : Nat} (h : n ≤ m) (hm : m + 1 < k) : n + 1 < k := Nat.lt_of_le_of_lt (Nat.succ_le_succ h) hm
theorem om_le_eq {n m k : Nat} (e : n = m) (h : m ≤ k) : n ≤ k := e ▸ h
theorem om_min_le {a n k : Nat} (h : n ≤ k) : min a n ≤ k := Nat.le_trans (Nat.min_le_right _ _) h
theorem om_zero_mul1 {i : Nat} : (0 : Int) + (i : Int) * 1 = (i : Int) := by omega
noncomputable abbrev NoE : Value → Shared → Prop := fun _ _ => False
noncomputable abbrev Led := List (Addr × Obj)
noncomputable abbrev Kns := List (Str × Value)
noncomputable def Kn (m : Str → Option Value) (kn : Kns) : Prop := ∀ x v, kn.lookup x = some v → m x = some v

structure St (g : Heap) (L : Addr) (h : Heap) (kn : Kns) (led : Led) : Prop where
  keep : ∀ b o, g.get? b = some o → h.get? b = some o
  ns : ∃ m, h.Ns L m ∧ Kn m kn
  nw : ∀ p ∈ led, h.get? p.1 = some p.2 ∧ g.get? p.1 = none ∧ p.1 ≠ L

structure Cx (w : World) (A : Around) (g : Heap) (k : Nat) : Prop where
  X : (pre.heap_1 w.params).In g
  T : ∃ p loose mg mb, TopRead p loose mg mb g
  hh : A.handled = none
  hd : A.depth + k < recursionLimit
  hu : A.units + 8 * k < cLine

theorem Cx.keeps {w : World} {A : Around} {g g' : Heap} {k : Nat} (C : Cx w A g k) (hk : ∀ b o, g.get? b = some o → g'.get? b = some o) : Cx w A g' k :=
  ⟨C.X.keeps hk, (let ⟨p, l, a, b, t⟩ := C.T; ⟨p, l, a, b, t.keeps hk⟩), C.hh, C.hd, C.hu⟩
theorem Cx.le {w : World} {A : Around} {g : Heap} {k j : Nat} (C : Cx w A g k) (hj : j ≤ k) : Cx w A g j :=
  ⟨C.X, C.T, C.hh, by have := C.hd; omega, by have := C.hu; omega⟩
theorem Cx.deeper {w : World} {A : Around} {g : Heap} {k : Nat} {env : Env} (C : Cx w A g (k + 1)) : Cx w (A.deeper env) g k :=
  ⟨C.X, C.T, C.hh, by have := C.hd; show A.depth + 1 + k < _; omega, by have := C.hu; show A.units + 3 + 8 * k < _; omega⟩

section
variable {g h h' : Heap} {L : Addr} {kn : Kns} {led : Led}
theorem St.mem (S : St g L h kn led) {a : Addr} {o : Obj} (hm : (a, o) ∈ led) : h.get? a = some o := (S.nw _ hm).1
theorem St.lt (S : St g L h kn led) : ∀ p ∈ led, p.1 < h.objs.size := fun p hp => Heap.lt_size (S.nw p hp).1
theorem St.ltL (S : St g L h kn led) : L < h.objs.size := let ⟨_, n, _⟩ := S.ns; n.lt
theorem St.drop (S : St g L h kn led) {led' : Led} (hs : ∀ p ∈ led', p ∈ led) : St g L h kn led' := ⟨S.keep, S.ns, fun p hp => S.nw p (hs p hp)⟩
theorem St.re (S : St g L h kn led) {kn' : Kns} (hs : ∀ x v, kn'.lookup x = some v → kn.lookup x = some v) : St g L h kn' led :=
  ⟨S.keep, let ⟨m, a, b⟩ := S.ns; ⟨m, a, fun x v e => b x v (hs x v e)⟩, S.nw⟩
theorem St.keeps (S : St g L h kn led) (hk : ∀ b o, h.get? b = some o → h'.get? b = some o) : St g L h' kn led :=
  ⟨fun b o e => hk b o (S.keep b o e), let ⟨m, a, b⟩ := S.ns; ⟨m, a.keeps hk, b⟩, fun p hp => ⟨hk _ _ (S.nw p hp).1, (S.nw p hp).2⟩⟩
theorem St.none_of_le (S : St g L h kn led) {a : Addr} (ha : h.objs.size ≤ a) : g.get? a = none := by
  cases q : g.get? a with
  | none => rfl
  | some o => exact absurd (Heap.lt_size (S.keep a o q)) (Nat.not_lt.mpr ha)
theorem St.add (S : St g L h kn led) {a : Addr} {o : Obj} (ha : h.get? a = some o) (hg : g.get? a = none) (hL : a ≠ L) : St g L h kn ((a, o) :: led) :=
  ⟨S.keep, S.ns, fun p hp => by rcases List.mem_cons.mp hp with rfl | hp; exact ⟨ha, hg, hL⟩; exact S.nw p hp⟩
theorem St.push (S : St g L h kn led) {o : Obj} (hf : o.isFreed = false) : St g L (h.push o) kn ((h.objs.size, o) :: led) :=
  (S.keeps fun _ _ e => Heap.get?_push_of_some _ e).add (Heap.get?_push_size _ hf) (S.none_of_le (Nat.le_refl _)) (Nat.ne_of_gt S.ltL)
/-- one object of the ledger is changed -/
theorem St.set (S : St g L h kn ((d, o) :: led)) {o' : Obj} (hs : Heap.SameBut d h h') (ho : h'.get? d = some o') (hne : ∀ p ∈ led, p.1 ≠ d) : St g L h' kn ((d, o') :: led) := by
  have z := S.nw (d, o) (.head _)
  refine ⟨fun b ob e => (hs.2 b (fun q => ?_)).trans (S.keep b ob e), ?_, fun p hp => ?_⟩
  · rw [q, z.2.1] at e; cases e
  · obtain ⟨m, a, b⟩ := S.ns
    exact ⟨m, a.sameBut hs (Ne.symm z.2.2), b⟩
  · rcases List.mem_cons.mp hp with rfl | hp
    · exact ⟨ho, z.2⟩
    · have y := S.nw p (.tail _ hp)
      exact ⟨(hs.2 _ (hne p hp)).trans y.1, y.2⟩
end

/-- all but some objects stand as they stood -/
noncomputable def KB (ds : List Addr) (h h' : Heap) : Prop := ∀ b o, h.get? b = some o → b ∉ ds → h'.get? b = some o
theorem KB.refl {ds : List Addr} {h : Heap} : KB ds h h := fun _ _ e _ => e
theorem KB.trans {ds : List Addr} {h h' h'' : Heap} (a : KB ds h h') (b : KB ds h' h'') : KB ds h h'' := fun c o e n => b c o (a c o e n) n


noncomputable def Fn (w : World) (f : Addr) (k : Nat) (args : List Value) (ds : List Addr) (h : Heap) (Post : Value → Heap → Prop) : Prop :=
  ∀ (prog : Program) (A : Around) (g : Heap) (G : Array GenState) (D : Drawn) (tk : Nat) (o : OsState) (Q E : Value → Shared → Prop), Cx w A g k → (∀ b o, g.get? b = some o → h.get? b = some o ∧ b ∉ ds) →
    (∀ v h' tk', KB ds h h' → Post v h' → Q v ⟨h', G, D, tk', o⟩) → wpAny (model prog w) A (call (.ref f) args) Q E ⟨h, G, D, tk, o⟩

noncomputable def retv : Flow → Value
  | .ret v => v
  | _ => .none
noncomputable def Ret (G : Array GenState) (D : Drawn) (o : OsState) (g : Heap) (Post : Value → Heap → Prop) (fl : Flow) (s' : Shared) : Prop :=
  ∃ h' tk', s' = ⟨h', G, D, tk', o⟩ ∧ (∀ b o, g.get? b = some o → h'.get? b = some o) ∧ Post (retv fl) h'
theorem Ret.intro {G : Array GenState} {D : Drawn} {o : OsState} {g h' : Heap} {L : Addr} {kn : Kns} {led : Led} {tk' : Nat} {Post : Value → Heap → Prop} {fl : Flow} (S : St g L h' kn led) (hp : Post (retv fl) h') : Ret G D o g Post fl ⟨h', G, D, tk', o⟩ :=
  ⟨h', tk', rfl, S.keep, hp⟩

/-- the same at the level of the code, for a call that another built-in makes -/
noncomputable def FnC (w : World) (f : Addr) (k : Nat) (args : List Value) (ds : List Addr) (h : Heap) (Post : Value → Heap → Prop) : Prop :=
  ∀ (prog : Program) (A : Around) (g : Heap) (G : Array GenState) (D : Drawn) (tk : Nat) (o : OsState) (R : Result → Shared → Prop), Cx w A g k → (∀ b o, g.get? b = some o → h.get? b = some o ∧ b ∉ ds) →
    (∀ v h' tk', KB ds h h' → Post v h' → R (.ok (.ret v)) ⟨h', G, D, tk', o⟩) → codeAny (model prog w) A (.call (.ref f) ⟨args, []⟩) R ⟨h, G, D, tk, o⟩
theorem FnC.fn {w : World} {f : Addr} {k : Nat} {args : List Value} {ds : List Addr} {h : Heap} {Post : Value → Heap → Prop} (F : FnC w f k args ds h Post) : Fn w f k args ds h Post :=
  fun prog A g G D tk o _ _ C hg hQ => wpAny_call (F prog A g G D tk o _ C hg hQ)
theorem enterC {w : World} {f : Addr} {k : Nat} {args : List Value} {ds : List Addr} {h : Heap} {Post : Value → Heap → Prop} {name qual : Str} {params : Arguments} {body : List Stmt} {scope : Scope} {dV kV doc pm cdv ct oc : Value} {an od : Option Addr} {osl : Array (Option Value)} (kn : Kns) (led : Led) {binds : Kns}
    (ho : (pre.heap_1 w.params).lookup f = some ⟨oc, od, .func (fnOf name qual params body scope dV kV doc pm an cdv ct), osl⟩) (hcd : codeIn (pre.heap_1 w.params) cdv qual = true)
    (hbind : ∀ s, BindsTo s (fnOf name qual params body scope dV kV doc pm an cdv ct) ⟨args, []⟩ binds) (hloc : (binds.all fun x => decide (scope.names.lookup x.1 = some .local)) = true)
    (hkn : binds.reverse = kn)
    (hcell : ∀ x ∈ scope.names, x.2 ≠ .cell) (hco : scope.isCoroutine = false) (hgen : scope.isGenerator = false) (hk : scope.kind = .function)
    (hled : ∀ p ∈ led, h.get? p.1 = some p.2 ∧ p.1 ∈ ds)
    (hb : ∀ (prog : Program) (A : Around) (g : Heap) (hp : Heap) (G : Array GenState) (D : Drawn) (tk : Nat) (o : OsState) (L : Addr), Cx w A g k → (∀ b o, h.get? b = some o → b ∉ ds → g.get? b = some o) → (∀ b, b ∈ ds → g.get? b = none) → g.get? L = none → St g L hp kn led →
      wpAny (model prog w) A (execs body (envOf qual scope L f cdv)) (Ret G D o g Post) NoE ⟨hp, G, D, tk, o⟩) : FnC w f (k + 1) args ds h Post := by
  intro prog A g G D tk o R C hg hQ
  subst hkn
  have st : ∀ b o, g.get? b = some o → (hideAll h ds).get? b = some o := fun b o e => hideAll_get _ (hg b o e).1 (hg b o e).2
  have X' : (pre.heap_1 w.params).In h := C.X.keeps fun b o e => (hg b o e).1
  obtain ⟨p, l, mg, mb, T⟩ := C.T
  have hnl : h.NoLimit := T.nolimit.keeps fun b o e => (hg b o e).1
  have hroom : A.depth < recursionLimit := by have := C.hd; omega
  refine (codeAny_call_def (fd := fnOf name qual params body scope dV kV doc pm an cdv ct) (body := body) (binds := binds) hroom (X' _ _ ho) rfl hnl (codeRec_of X' hcd) rfl (hbind _) hcell (locs hloc) (fun h₁ hns hk₁ => ?_) hco hgen hk)
  have hLn : (hideAll h ds).get? h.objs.size = none := by
    cases q : (hideAll h ds).get? h.objs.size with
    | none => rfl
    | some o => exact absurd (Heap.lt_size (of_hideAll _ q)) (Nat.lt_irrefl _)
  have S : St (hideAll h ds) h.objs.size h₁ binds.reverse led := by
    refine ⟨fun b o e => hk₁ b o (of_hideAll _ e), ⟨_, hns, fun _ _ e => e⟩, fun p hp => ⟨hk₁ _ _ (hled p hp).1, hideAll_none _ (hled p hp).2, Nat.ne_of_lt (Heap.lt_size (hled p hp).1)⟩⟩
  refine wpAny_mono (hb prog _ (hideAll h ds) h₁ G D (tk + binds.length) o h.objs.size ((C.deeper).keeps st) (fun b o e n => hideAll_get _ e n) (fun b m => hideAll_none _ m) hLn S) (fun fl s' hr => ?_) fun _ _ e => e.elim
  obtain ⟨h', tk', rfl, hkp, hp⟩ := hr
  have y := hQ _ h' tk' (fun b o e n => hkp b o (hideAll_get _ e n)) hp
  cases fl <;> exact y

theorem enter {w : World} {f : Addr} {k : Nat} {args : List Value} {ds : List Addr} {h : Heap} {Post : Value → Heap → Prop} {name qual : Str} {params : Arguments} {body : List Stmt} {scope : Scope} {dV kV doc pm cdv ct oc : Value} {an od : Option Addr} {osl : Array (Option Value)} (kn : Kns) (led : Led) {binds : Kns}
    (ho : (pre.heap_1 w.params).lookup f = some ⟨oc, od, .func (fnOf name qual params body scope dV kV doc pm an cdv ct), osl⟩) (hcd : codeIn (pre.heap_1 w.params) cdv qual = true)
    (hbind : ∀ s, BindsTo s (fnOf name qual params body scope dV kV doc pm an cdv ct) ⟨args, []⟩ binds) (hloc : (binds.all fun x => decide (scope.names.lookup x.1 = some .local)) = true)
    (hkn : binds.reverse = kn)
    (hcell : ∀ x ∈ scope.names, x.2 ≠ .cell) (hco : scope.isCoroutine = false) (hgen : scope.isGenerator = false) (hk : scope.kind = .function)
    (hled : ∀ p ∈ led, h.get? p.1 = some p.2 ∧ p.1 ∈ ds)
    (hb : ∀ (prog : Program) (A : Around) (g : Heap) (hp : Heap) (G : Array GenState) (D : Drawn) (tk : Nat) (o : OsState) (L : Addr), Cx w A g k → (∀ b o, h.get? b = some o → b ∉ ds → g.get? b = some o) → (∀ b, b ∈ ds → g.get? b = none) → g.get? L = none → St g L hp kn led →
      wpAny (model prog w) A (execs body (envOf qual scope L f cdv)) (Ret G D o g Post) NoE ⟨hp, G, D, tk, o⟩) : Fn w f (k + 1) args ds h Post :=
  (enterC (name := name) (params := params) (scope := scope) (dV := dV) (kV := kV) (doc := doc) (pm := pm) (cdv := cdv) (ct := ct) (oc := oc) (an := an) (od := od) (osl := osl) kn led ho hcd hbind hloc hkn hcell hco hgen hk hled hb).fn
section
variable {prog : Program} {w : World} {M : Model} {A : Around} {E : Value → Shared → Prop} {hp g : Heap} {G : Array GenState} {D : Drawn} {tk : Nat} {o : OsState} {L : Addr} {kn : Kns} {led : Led} {env : Env} {k : Nat} {x : Str} {v : Value} {pos : Pos}
theorem r_name {Q : Value → Shared → Prop} (S : St g L hp kn led) (hv : kn.lookup x = some v) (h : Q v ⟨hp, G, D, tk, o⟩) (hL : env.locals = L) (hk : env.scope.kind = .function)
    (hx : env.kindOf x = some .local) (hd : (x == ("__debug__" : Str)) = false) : wpAny M A (eval (.Name x pos) env) Q E ⟨hp, G, D, tk, o⟩ := by
  obtain ⟨m, n, f⟩ := S.ns
  subst hL
  exact wpAny_Name (wpAny_loadName_local hk hx n (f _ _ hv) h) hd
theorem r_load {Q : Value → Shared → Prop} (S : St g L hp kn led) (hv : kn.lookup x = some v) (h : Q v ⟨hp, G, D, tk, o⟩) (hL : env.locals = L) (hk : env.scope.kind = .function)
    (hx : env.kindOf x = some .local) : wpAny M A (loadName env x) Q E ⟨hp, G, D, tk, o⟩ := by
  obtain ⟨m, n, f⟩ := S.ns
  subst hL
  exact wpAny_loadName_local hk hx n (f _ _ hv) h
theorem r_global {Q : Value → Shared → Prop} (C : Cx w A g k) (S : St g L hp kn led) (e : nsIn (pre.heap_1 w.params) mainGlobals x = some (some v)) (h : Q v ⟨hp, G, D, tk, o⟩) (hgl : env.globals = mainGlobals) (hk : env.scope.kind = .function)
    (hx : env.kindOf x = some .globalImplicit) (hd : (x == ("__debug__" : Str)) = false) : wpAny M A (eval (.Name x pos) env) Q E ⟨hp, G, D, tk, o⟩ := by
  obtain ⟨p, l, mg, mb, T⟩ := C.T
  exact Name_function_global hk hx (loadGlobal_global (hgl ▸ T.g.keeps S.keep) (mg_of C.X T.g e) h) hd
theorem r_builtin {Q : Value → Shared → Prop} (C : Cx w A g k) (S : St g L hp kn led) (e : nsIn (pre.heap_1 w.params) mainGlobals x = some none) (hv : bootBuiltins x = some v) (hn : x ≠ "__name__") (h : Q v ⟨hp, G, D, tk, o⟩) (hgl : env.globals = mainGlobals) (hbl : env.builtins = builtinsNs) (hk : env.scope.kind = .function)
    (hx : env.kindOf x = some .globalImplicit) (hd : (x == ("__debug__" : Str)) = false) : wpAny M A (eval (.Name x pos) env) Q E ⟨hp, G, D, tk, o⟩ := by
  obtain ⟨p, l, mg, mb, T⟩ := C.T
  exact Name_function_global hk hx (loadGlobal_builtin (hgl ▸ T.g.keeps S.keep) (mg_none_of C.X T.g e) (hbl ▸ T.b.keeps S.keep) ((T.builtins x hn).trans hv) h) hd
theorem r_store {Q : Unit → Shared → Prop} (S : St g L hp kn led) (hg : g.get? L = none) (h : ∀ h' tk', St g L h' ((x, v) :: kn) led → Q () ⟨h', G, D, tk', o⟩) (hL : env.locals = L) (hk : env.scope.kind = .function)
    (hx : env.kindOf x = some .local) : wpAny M A (storeName env x v) Q E ⟨hp, G, D, tk, o⟩ := by
  obtain ⟨m, n, f⟩ := S.ns
  subst hL
  refine wpAny_storeName_local hx n (fun h' hn hs => h h' _ ⟨fun b o e => hs.extBut b o (fun q => by rw [q, hg] at e; cases e) (S.keep b o e), ⟨_, hn, fun y u e => ?_⟩, fun p hp => ⟨hs.extBut _ _ (S.nw p hp).2.2 (S.nw p hp).1, (S.nw p hp).2⟩⟩) (by rw [hk]; rfl)
  rw [List.lookup_cons] at e
  by_cases hxy : y = x
  · subst hxy
    simp at e
    simp [e]
  · have : (y == x) = false := by simpa using hxy
    rw [this] at e
    simp only [if_neg hxy]
    exact f y u e
theorem r_call {f : Addr} {args : List Value} {ds : List Addr} {Post : Value → Heap → Prop} {Q : Value → Shared → Prop} {j : Nat} (C : Cx w A g k) (S : St g L hp kn led) (F : Fn w f j args ds hp Post) (hj : j ≤ k) (hds : ∀ d ∈ ds, g.get? d = none)
    (h : ∀ v h' tk', KB ds hp h' → Post v h' → Q v ⟨h', G, D, tk', o⟩) : wpAny (model prog w) A (call (.ref f) args) Q E ⟨hp, G, D, tk, o⟩ :=
  F prog A g G D tk o Q E (C.le hj) (fun b o e => ⟨S.keep b o e, fun hm => by rw [hds b hm] at e; cases e⟩) h
end
end
set_option compiler.extract_closed false in
local macro_rules | `(tactic| walk_at "om") => `(tactic| with_reducible first
  | exact Int.natCast_nonneg _
  | exact Nat.le_of_lt (by assumption)
  | exact Nat.succ_le_of_lt (by assumption)
  | exact om_or4 (by assumption) | exact om_or4' (by assumption) | exact om_or3 (by assumption) | exact om_or234 (by assumption) (by assumption)
  | exact om_sub_dec (by assumption) | exact om_sub_dec1 (by assumption) | exact om_sub_dec10 (by assumption) | exact om_sub_dec41 (by assumption) | exact om_sub_keep (by assumption)
  | exact om_zero_mul1
  | exact Nat.le_trans (by assumption) (by decide) | exact Nat.lt_of_le_of_lt (by assumption) (by decide)
  | exact om_succ_le (by assumption) (by decide) | exact om_succ_lt (by assumption) (by decide)
  | exact om_cast_lt (by assumption) (by decide) | exact om_cast_lt' (by assumption) (by decide)
  | exact om_lt_of_size (by assumption)
  | exact om_le_eq (by assumption) (by assumption))
set_option compiler.extract_closed false in
local macro_rules | `(tactic| walk_at "wp") => `(tactic| first
  | (with_reducible first | assumption | refine wpAny_pure ?_ | refine wpAny_bind ?_ | refine wpAny_holding ?_ | refine wpAny_rule ?_ | refine wpAny_fresh' ?_ | refine wpAny_attempt ?_ | refine wpAny_of_eq (by assumption) ?_ | refine wpAny_typeOf (by assumption) ?_ | refine wpAny_specialOf_val (by assumption) (by assumption) ?_ | refine wpAny_isInstance (by assumption) (by assumption) ?_ | refine wpAny_call ?_)
  | ((with_reducible refine PySem.wpAny_loadPart' ?_ ?_); focus (first | (with_reducible assumption) | heap_get; done))
  | ((with_reducible refine PySem.wpAny_ite_false ?_ ?_); focus (rfl; done))
  | ((with_reducible refine PySem.wpAny_ite_true ?_ ?_); focus (rfl; done))
  | wp_delta
  | wp_step)
section
set_option maxRecDepth 100000
noncomputable abbrev lo (vs : List Value) (n : Nat) : Obj := { cls := .type "list", data := .seq vs.toArray n }
noncomputable abbrev tu (vs : List Value) : Obj := { cls := .type "tuple", data := .seq vs.toArray }
theorem ifs {b : Bool} {P R : Prop} (h1 : b = true → P) (h2 : b = false → R) : if b = true then P else R := by
  cases b with
  | true => simpa using h1 rfl
  | false => simpa using h2 rfl
theorem if_tt {P R : Prop} (h : P) : if true = true then P else R := by simpa using h
theorem if_ff {P R : Prop} (h : R) : if false = true then P else R := by simpa using h
noncomputable def KnAll (kn : Kns) : Kns → Prop
  | [] => True
  | p :: r => kn.lookup p.1 = some p.2 ∧ KnAll kn r
theorem kn_sub {kn : Kns} : ∀ {kn' : Kns}, KnAll kn kn' → ∀ x v, kn'.lookup x = some v → kn.lookup x = some v
  | [], _, _, _, e => by cases e
  | (y, u) :: r, h, x, v, e => by
    rw [List.lookup_cons] at e
    cases q : x == y with
    | true =>
      rw [q] at e
      cases e
      rw [beq_iff_eq.mp q]
      exact h.1
    | false =>
      rw [q] at e
      exact kn_sub h.2 x v e
theorem St.is {g h : Heap} {L : Addr} {kn kn' : Kns} {led led' : Led} (S : St g L h kn led) (hk : KnAll kn kn') (hl : led' = led) : St g L h kn' led' := hl ▸ S.re (kn_sub hk)
section
variable {prog : Program} {w : World} {M : Model} {A : Around} {E : Value → Shared → Prop} {hp g : Heap} {G : Array GenState} {D : Drawn} {tk : Nat} {o : OsState} {L : Addr} {kn : Kns} {led : Led} {env : Env} {k : Nat} {x : Str} {v : Value} {pos : Pos}

theorem r_int {i : Int} {kd : Nat} {Q : Value → Shared → Prop} (h : ∀ t tk', Q (.int i t) ⟨hp, G, D, tk', o⟩) : wpAny M A (eval (.Constant (.int i) kd pos) env) Q E ⟨hp, G, D, tk, o⟩ := wpAny_Constant_int (h _ _)
theorem r_str {i : Str} {kd : Nat} {Q : Value → Shared → Prop} (h : ∀ t tk', Q (.str i t) ⟨hp, G, D, tk', o⟩) : wpAny M A (eval (.Constant (.str i) kd pos) env) Q E ⟨hp, G, D, tk, o⟩ := wpAny_Constant_str (h _ _)
theorem r_add {a b : Int} {t u : Tok} {Q : Value → Shared → Prop} (h : ∀ t tk', Q (.int (a + b) t) ⟨hp, G, D, tk', o⟩) : wpAny (model prog w) A (binaryOp .Add (.int a t) (.int b u)) Q E ⟨hp, G, D, tk, o⟩ := add_int (h _ _)
theorem r_iadd {a b : Int} {t u : Tok} {Q : Value → Shared → Prop} (h : ∀ t tk', Q (.int (a + b) t) ⟨hp, G, D, tk', o⟩) : wpAny (model prog w) A (inplaceOp .Add (.int a t) (.int b u)) Q E ⟨hp, G, D, tk, o⟩ := iadd_int (h _ _)
theorem r_sub {a b : Int} {t u : Tok} {Q : Value → Shared → Prop} (h : ∀ t tk', Q (.int (a - b) t) ⟨hp, G, D, tk', o⟩) : wpAny (model prog w) A (binaryOp .Sub (.int a t) (.int b u)) Q E ⟨hp, G, D, tk, o⟩ := sub_int (h _ _)
theorem r_shr1 {a : Int} {t u : Tok} {Q : Value → Shared → Prop} (h : ∀ t tk', Q (.int (a / 2) t) ⟨hp, G, D, tk', o⟩) : wpAny (model prog w) A (binaryOp .RShift (.int a t) (.int 1 u)) Q E ⟨hp, G, D, tk, o⟩ :=
  rshift_int (by decide) (by rw [fdiv_two]; exact h _ _)

noncomputable def TurnEnd {σ : Type} (G : Array GenState) (D : Drawn) (o : OsState) (g : Heap) (L : Addr) (kns : σ → Kns) (leds : σ → Led) (P : σ → Prop) (μ : σ → Nat) (c : σ) (s₃ : Shared) : Prop :=
  ∃ c' h' t', s₃ = ⟨h', G, D, t', o⟩ ∧ P c' ∧ μ c' < μ c ∧ St g L h' (kns c') (leds c')
theorem TurnEnd.intro {σ : Type} {kns : σ → Kns} {leds : σ → Led} {P : σ → Prop} {μ : σ → Nat} {c : σ} {h' : Heap} {t' : Nat} (c' : σ) (S : St g L h' (kns c') (leds c')) (hp : P c') (hm : μ c' < μ c) :
    TurnEnd G D o g L kns leds P μ c ⟨h', G, D, t', o⟩ := ⟨c', h', t', rfl, hp, hm, S⟩

noncomputable def TurnPost {σ : Type} (G : Array GenState) (D : Drawn) (o : OsState) (g : Heap) (L : Addr) (kns : σ → Kns) (leds : σ → Led) (P : σ → Prop) (μ : σ → Nat) (Q : Flow → Shared → Prop) (c : σ) (fl : Flow) (s₃ : Shared) : Prop :=
  match fl with
  | .brk => Q .next s₃
  | .ret v => Q (.ret v) s₃
  | _ => TurnEnd G D o g L kns leds P μ c s₃

/-- a post-condition of which just this is known: it follows from another -/
noncomputable def Imp (T₀ T : Flow → Shared → Prop) : Prop := ∀ fl s, T₀ fl s → T fl s
theorem Imp.app {T₀ T : Flow → Shared → Prop} {fl : Flow} {s : Shared} (h : Imp T₀ T) (x : T₀ fl s) : T fl s := h fl s x
noncomputable def GenP (T₀ : Flow → Shared → Prop) (F : (Flow → Shared → Prop) → Prop) : Prop := ∀ T, Imp T₀ T → F T
theorem GenP.intro {T₀ : Flow → Shared → Prop} {F : (Flow → Shared → Prop) → Prop} (h : ∀ T, Imp T₀ T → F T) : GenP T₀ F := h
theorem GenP.use {T₀ : Flow → Shared → Prop} {F : (Flow → Shared → Prop) → Prop} (h : GenP T₀ F) : F T₀ := h T₀ fun _ _ x => x

/-- what is known of the post-condition behind one statement of a row of them -/
noncomputable def Nx (M : Model) (A : Around) (rest : List Stmt) (env : Env) (Q : Flow → Shared → Prop) (E : Value → Shared → Prop) (T : Flow → Shared → Prop) : Prop :=
  ∀ f s, (match f with | .next => wpAny M A (execs rest env) Q E s | f => Q f s) → T f s
theorem Nx.next {rest : List Stmt} {Q T : Flow → Shared → Prop} {s : Shared} (h : Nx M A rest env Q E T) (x : wpAny M A (execs rest env) Q E s) : T .next s := h .next s x
theorem Nx.brk {rest : List Stmt} {Q T : Flow → Shared → Prop} {s : Shared} (h : Nx M A rest env Q E T) (x : Q .brk s) : T .brk s := h .brk s x
theorem Nx.cont {rest : List Stmt} {Q T : Flow → Shared → Prop} {s : Shared} (h : Nx M A rest env Q E T) (x : Q .cont s) : T .cont s := h .cont s x
theorem Nx.ret {rest : List Stmt} {Q T : Flow → Shared → Prop} {s : Shared} {v : Value} (h : Nx M A rest env Q E T) (x : Q (.ret v) s) : T (.ret v) s := h (.ret v) s x
theorem r_cons {st : Stmt} {rest : List Stmt} {Q : Flow → Shared → Prop} {s : Shared} (h : ∀ T, Nx M A rest env Q E T → wpAny M A (exec st env) T E s) : wpAny M A (execs (st :: rest) env) Q E s :=
  wpAny_execs_cons (h _ fun f _ x => by cases f <;> exact x)

theorem r_while {σ : Type} {test : Expr} {body : List Stmt} {pos : Pos} {Q : Flow → Shared → Prop} (kns : σ → Kns) (leds : σ → Led) (P : σ → Prop) (μ : σ → Nat) (c₀ : σ)
    (S : St g L hp (kns c₀) (leds c₀)) (h0 : P c₀)
    (turn : ∀ (c : σ) h t, P c → St g L h (kns c) (leds c) → GenP (TurnPost G D o g L kns leds P μ Q c) fun T => wpAny (model prog w) A (isTrue test env (eval test env)) (fun b s₂ =>
      if b = true then wpAny (model prog w) A (execs body env) T NoE s₂ else T .brk s₂) NoE ⟨h, G, D, t, o⟩) :
    wpAny (model prog w) A (exec (.While test body [] pos) env) Q NoE ⟨hp, G, D, tk, o⟩ := by
  refine wpAny_While (codeAny_whileLoop (fun n s' => ∃ c h t, s' = ⟨h, G, D, t, o⟩ ∧ P c ∧ μ c = n ∧ St g L h (kns c) (leds c)) ?_ (μ c₀) ⟨c₀, hp, tk, rfl, h0, rfl, S⟩)
  rintro n s' ⟨c, h, t, rfl, hp, rfl, S'⟩
  refine wpAny_mono (turn c h t hp S').use (fun b s₂ h₂ => ?_) fun _ _ e => e.elim
  cases b with
  | false => exact wpAny_execs_nil (show TurnPost G D o g L kns leds P μ Q c .brk s₂ by simpa using h₂)
  | true =>
    simp only [if_true] at h₂ ⊢
    refine wpAny_mono h₂ (fun fl s₃ h₃ => ?_) fun _ _ e => e.elim
    cases fl with
    | brk => exact h₃
    | ret v => exact h₃
    | next => obtain ⟨c', h', t', rfl, hp', hm, S''⟩ := h₃; exact ⟨μ c', hm, c', h', t', rfl, hp', rfl, S''⟩
    | cont => obtain ⟨c', h', t', rfl, hp', hm, S''⟩ := h₃; exact ⟨μ c', hm, c', h', t', rfl, hp', rfl, S''⟩

noncomputable def ForEnd {σ : Type} (G : Array GenState) (D : Drawn) (o : OsState) (g : Heap) (L : Addr) (kns : Nat → σ → Kns) (leds : Nat → σ → Led) (PP : Nat → σ → Prop) (own : Led) (i : Nat) (s₃ : Shared) : Prop :=
  ∃ c' h' t', s₃ = ⟨h', G, D, t', o⟩ ∧ PP (i + 1) c' ∧ St g L h' (kns (i + 1) c') (leds (i + 1) c' ++ own)
theorem ForEnd.intro {σ : Type} {kns : Nat → σ → Kns} {leds : Nat → σ → Led} {PP : Nat → σ → Prop} {own : Led} {i : Nat} {h' : Heap} {t' : Nat} (c' : σ) (S : St g L h' (kns (i + 1) c') (leds (i + 1) c' ++ own)) (hp : PP (i + 1) c') :
    ForEnd G D o g L kns leds PP own i ⟨h', G, D, t', o⟩ := ⟨c', h', t', rfl, hp, S⟩
noncomputable def ForPost {σ : Type} (G : Array GenState) (D : Drawn) (o : OsState) (g : Heap) (L : Addr) (kns : Nat → σ → Kns) (leds : Nat → σ → Led) (PP : Nat → σ → Prop) (own : Led) (Q : Flow → Shared → Prop) (i : Nat) (fl : Flow) (s₃ : Shared) : Prop :=
  match fl with
  | .brk => Q .next s₃
  | .ret v => Q (.ret v) s₃
  | _ => ForEnd G D o g L kns leds PP own i s₃

noncomputable def Join {σ : Type} (G : Array GenState) (D : Drawn) (o : OsState) (g : Heap) (L : Addr) (kns : σ → Kns) (leds : σ → Led) (P : σ → Prop) (fl : Flow) (s₃ : Shared) : Prop :=
  fl = .next ∧ ∃ c h' t', s₃ = ⟨h', G, D, t', o⟩ ∧ P c ∧ St g L h' (kns c) (leds c)
theorem Join.intro {σ : Type} {kns : σ → Kns} {leds : σ → Led} {P : σ → Prop} {h' : Heap} {t' : Nat} (c : σ) (S : St g L h' (kns c) (leds c)) (hp : P c) : Join G D o g L kns leds P .next ⟨h', G, D, t', o⟩ := ⟨rfl, c, h', t', rfl, hp, S⟩
theorem r_join {σ : Type} {st : Stmt} {Q : Flow → Shared → Prop} (kns : σ → Kns) (leds : σ → Led) (P : σ → Prop)
    (h : wpAny (model prog w) A (exec st env) (Join G D o g L kns leds P) NoE ⟨hp, G, D, tk, o⟩)
    (h2 : ∀ c h' t', P c → St g L h' (kns c) (leds c) → Q .next ⟨h', G, D, t', o⟩) : wpAny (model prog w) A (exec st env) Q NoE ⟨hp, G, D, tk, o⟩ := by
  refine wpAny_mono h (fun fl s₃ h₃ => ?_) fun _ _ e => e.elim
  obtain ⟨rfl, c, h', t', rfl, hp, S⟩ := h₃
  exact h2 c h' t' hp S

/-- a list's object -/
theorem isList_of {h : Heap} {l : Addr} {vs : List Value} {n : Nat} (e : h.get? l = some (lo vs n)) : h.IsList l vs.toArray := ⟨_, e, rfl, n, rfl⟩

theorem r_item {value slice : Expr} {l : Addr} {vs : List Value} {n : Nat} {k : Int} {u : Tok} {v : Value} {Q : Value → Shared → Prop}
    (hl : hp.get? l = some (lo vs n)) (h0 : 0 ≤ k) (hhi : k < 2 ^ 63) (hx : vs[k.toNat]? = some v) (h : Q v ⟨hp, G, D, tk, o⟩)
    (hs : subscripted slice false (.ref l) (.int k u) = operate [.ref l, .int k u] (getItem (.ref l) (.int k u)) := by with_unfolding_all rfl) :
    wpAny (model prog w) A (subscriptTail value slice (.ref l) (.int k u)) Q E ⟨hp, G, D, tk, o⟩ :=
  tail_any (isList_of hl).typeIs slot_list_getitem.lookup (wpAny_getItem_list (isList_of hl) h0 hhi (by simpa using hx) h) hs

theorem r_setitem {l : Addr} {vs : List Value} {n : Nat} {k : Int} {j : Nat} {u : Tok} {v : Value} {Q : Unit → Shared → Prop}
    (S : St g L hp kn ((l, lo vs n) :: led)) (hne : ∀ p ∈ led, p.1 ≠ l) (hk : k = (j : Int)) (hj : j < vs.length) (hfit : vs.length < 2 ^ 63)
    (h : ∀ h', St g L h' kn ((l, lo (vs.set j v) n) :: led) → Q () ⟨h', G, D, tk, o⟩) : wpAny (model prog w) A (setItem (.ref l) (.int k u) v) Q E ⟨hp, G, D, tk, o⟩ := by
  have ho := S.mem (.head _)
  have hl := isList_of ho
  have hj' : j < vs.toArray.size := by simpa using hj
  unfold setItem
  try with_reducible refine wpAny_holding ?_
  first | refine wpAny_bind (wpAny_pure ?_) | skip
  refine wpAny_bind (wpAny_sequenceKey hl.typeIs (by decide) ?_)
  refine wpAny_bind (wpAny_callSpecial?_slot (name := Str.ofString "__setitem__") hl.typeIs slot_list_setitem
    (wpAny_call_entry slot_list_setitem hl.typeIs entry_list_setitem ?_ (args_list_setitem _ _ _)))
  show wpAny _ _ (Builtin.List.listSubscript? (.int k u) >>= _) _ _ _
  refine wpAny_bind (wpAny_listSubscript_int (fitsIndex_of (by (first | walk_at "om" | omega)) (by (first | walk_at "om" | omega))) ?_)
  subst hk
  have hx' : vs.toArray[j]? = some vs.toArray[j] := Array.getElem?_eq_getElem hj'
  show wpAny _ _ ((seqItemAt l j >>= fun r => pure (r.map (j, ·))) >>= _) _ _ _
  refine wpAny_bind (wpAny_bind (wpAny_seqItemAt ho rfl (wpAny_pure ?_)))
  rw [hx']
  show wpAny _ _ (setSeqItemAt l j v >>= _) _ _ _
  have hm : Obj.mapSeq (·.setIfInBounds j v) (lo vs n) = lo (vs.set j v) n := by
    simp [Obj.mapSeq]
  have hfin := Heap.get?_update_self (h := hp) (Obj.mapSeq (·.setIfInBounds j v)) ho (by rw [hm]; rfl)
  have S' := S.set (Heap.SameBut.update ..) (by rw [hfin, hm]) hne
  refine wpAny_bind (wpAny_setSeqItemAt ho rfl ?_)
  first
    | exact wpAny_bind (wpAny_pure (wpAny_pure ⟨.none, rfl, wpAny_pure (h _ S')⟩))
    | exact wpAny_pure ⟨.none, rfl, wpAny_pure (h _ S')⟩
end
end
section
set_option maxRecDepth 100000
/-- the items of a list compare by lt, in every heap that keeps h but for ds -/
noncomputable def CmpOk (w : World) (h : Heap) (ds : List Addr) (lt : Value → Value → Bool) (vs : List Value) : Prop :=
  ∀ u ∈ vs, ∀ v ∈ vs, ∀ (prog : Program) (A : Around) (hp : Heap) (G : Array GenState) (D : Drawn) (tk : Nat) (o : OsState) (Q E : Value → Shared → Prop), A.units < cLine → (∀ b o, h.get? b = some o → b ∉ ds → hp.get? b = some o) →
    (∀ tk', Q (.bool (lt u v)) ⟨hp, G, D, tk', o⟩) → wpAny (model prog w) A (compareOp .Lt u v) Q E ⟨hp, G, D, tk, o⟩

noncomputable def sdl {α : Type} (lt : α → α → Bool) (sp : Nat) (item : α) : Nat → List α → Nat → List α
  | 0, vs, pos => vs.set pos item
  | n + 1, vs, pos => if sp < pos then (match vs[(pos - 1) / 2]? with
      | none => vs.set pos item
      | some p => if lt item p then sdl lt sp item n (vs.set pos p) ((pos - 1) / 2) else vs.set pos item) else vs.set pos item
noncomputable def sdown {α : Type} (lt : α → α → Bool) (sp : Nat) (vs : List α) (pos : Nat) : List α := match vs[pos]? with
  | none => vs
  | some item => sdl lt sp item pos vs pos

section
variable {α β : Type} {lt : α → α → Bool} {sp : Nat} {item : α}
theorem sdl_len : ∀ (n : Nat) (vs : List α) (pos : Nat), (sdl lt sp item n vs pos).length = vs.length
  | 0, vs, pos => by simp [sdl]
  | n + 1, vs, pos => by
    unfold sdl
    split
    · split
      · simp
      · split
        · rw [sdl_len n]; simp
        · simp
    · simp
theorem sdown_len (vs : List α) (pos : Nat) : (sdown lt sp vs pos).length = vs.length := by
  unfold sdown
  split
  · rfl
  · exact sdl_len _ _ _
theorem sdl_fuel : ∀ (n : Nat) (vs : List α) (pos : Nat), pos ≤ n → sdl lt sp item n vs pos = sdl lt sp item pos vs pos
  | 0, vs, pos, h => by
    have : pos = 0 := by (first | walk_at "om" | lia | omega)
    subst this; rfl
  | n + 1, vs, 0, _ => by
    unfold sdl
    rw [if_neg (by (first | walk_at "om" | lia | omega))]
  | n + 1, vs, p + 1, h => by
    conv => lhs; unfold sdl
    conv => rhs; unfold sdl
    by_cases hs : sp < p + 1
    · rw [if_pos hs, if_pos hs]
      split
      · rfl
      · split
        · rw [sdl_fuel n _ _ (by (first | walk_at "om" | lia | omega)), sdl_fuel p _ _ (by (first | walk_at "om" | lia | omega))]
        · rfl
    · rw [if_neg hs, if_neg hs]
theorem sdl_stop (n : Nat) (vs : List α) (pos : Nat) (h : ¬ sp < pos) : sdl lt sp item n vs pos = vs.set pos item := by
  cases n with
  | zero => rfl
  | succ n => unfold sdl; rw [if_neg h]
theorem sdl_brk (vs : List α) (pos : Nat) {p : α} (hp : vs[(pos - 1) / 2]? = some p) (h : lt item p = false) : sdl lt sp item pos vs pos = vs.set pos item := by
  cases pos with
  | zero => rfl
  | succ n => unfold sdl; rw [hp]; simp [h]
theorem sdl_go (vs : List α) (pos : Nat) {p : α} (hs : sp < pos) (hp : vs[(pos - 1) / 2]? = some p) (h : lt item p = true) :
    sdl lt sp item pos vs pos = sdl lt sp item ((pos - 1) / 2) (vs.set pos p) ((pos - 1) / 2) := by
  cases pos with
  | zero => (first | walk_at "om" | lia | omega)
  | succ n =>
    conv => lhs; unfold sdl
    rw [if_pos hs, hp]
    try dsimp only
    rw [if_pos h, sdl_fuel n _ _ (by (first | walk_at "om" | lia | omega))]
theorem sdl_mem : ∀ (n : Nat) (vs : List α) (pos : Nat), ∀ v ∈ sdl lt sp item n vs pos, v ∈ vs ∨ v = item
  | 0, vs, pos, v, h => List.mem_or_eq_of_mem_set h
  | n + 1, vs, pos, v, h => by
    unfold sdl at h
    split at h
    · split at h
      · exact List.mem_or_eq_of_mem_set h
      · rename_i p hp
        split at h
        · rcases sdl_mem n _ _ v h with h' | h'
          · rcases List.mem_or_eq_of_mem_set h' with h' | h'
            · exact .inl h'
            · exact .inl (h' ▸ List.mem_of_getElem? hp)
          · exact .inr h'
        · exact List.mem_or_eq_of_mem_set h
    · exact List.mem_or_eq_of_mem_set h
theorem sdown_mem (vs : List α) (pos : Nat) : ∀ v ∈ sdown lt sp vs pos, v ∈ vs := by
  intro v h
  unfold sdown at h
  split at h
  · exact h
  · rename_i it hit
    rcases sdl_mem _ _ _ v h with h' | h'
    · exact h'
    · exact h' ▸ List.mem_of_getElem? hit
theorem sdl_map {lt' : β → β → Bool} (f : α → β) (hlt : ∀ a b, lt' (f a) (f b) = lt a b) : ∀ (n : Nat) (vs : List α) (pos : Nat), (sdl lt sp item n vs pos).map f = sdl lt' sp (f item) n (vs.map f) pos
  | 0, vs, pos => by simp [sdl, List.map_set]
  | n + 1, vs, pos => by
    unfold sdl
    by_cases hs : sp < pos
    · rw [if_pos hs, if_pos hs, List.getElem?_map]
      cases vs[(pos - 1) / 2]? with
      | none => simp [List.map_set]
      | some p =>
        dsimp only [Option.map]
        rw [hlt]
        split
        · rw [sdl_map f hlt n, List.map_set]
        · rw [List.map_set]
    · rw [if_neg hs, if_neg hs, List.map_set]
theorem sdown_map {lt' : β → β → Bool} (f : α → β) (hlt : ∀ a b, lt' (f a) (f b) = lt a b) (vs : List α) (pos : Nat) : (sdown lt sp vs pos).map f = sdown lt' sp (vs.map f) pos := by
  unfold sdown
  rw [List.getElem?_map]
  cases vs[pos]? with
  | none => rfl
  | some p => exact sdl_map f hlt _ _ _
end
end
set_option compiler.extract_closed false in
local macro_rules | `(tactic| o_head $c) => `(tactic| with_reducible show wpAny _ _ $c _ _ _)
set_option compiler.extract_closed false in
local macro_rules | `(tactic| walk_at "y") => `(tactic| first | (with_reducible first | refine Nx.next (by assumption) ?_ | refine Nx.ret (by assumption) ?_ | refine Nx.brk (by assumption) ?_ | refine Nx.cont (by assumption) ?_) | (with_reducible refine Imp.app (by assumption) ?_; (try dsimp only [TurnPost, ForPost])))
set_option compiler.extract_closed false in
local macro_rules | `(tactic| walk_at "x") => `(tactic| repeat walk_at "y")
set_option compiler.extract_closed false in
local macro_rules | `(tactic| walk_at "kn") => `(tactic| (repeat (first | refine And.intro rfl ?_ | refine And.intro (congrArg (fun z => some (Value.int z _)) (by omega)) ?_)); exact trivial)
set_option compiler.extract_closed false in
local macro_rules | `(tactic| walk_at "en") => `(tactic| (
  case ho => k_is
  case hcd => k_is
  case hb => exact fun s => BindsTo.of_eq rfl
  case hl => exact rfl
  case hkn => exact rfl
  case hc => decide
  case h1 => exact rfl
  case h2 => exact rfl
  case h3 => exact rfl))
set_option compiler.extract_closed false in
local macro_rules | `(tactic| walk_at "join") => `(tactic| (walk_at "x"; apply Join.intro; (refine St.is (by assumption) ?_ rfl; walk_at "kn"); (first | exact trivial | skip)))
set_option compiler.extract_closed false in
local macro_rules | `(tactic| walk_at "mem") => `(tactic| (repeat (first | exact List.Mem.head _ | refine List.Mem.tail _ ?_)))
set_option compiler.extract_closed false in
local macro_rules | `(tactic| walk_at "led") => `(tactic| ((repeat (refine And.intro ?lm ?_; (case lm => walk_at "mem"))); exact trivial))
set_option compiler.extract_closed false in
local macro_rules | `(tactic| walk_at "v") => `(tactic| first
  | (with_reducible refine r_cons ?_; intro T hT)
  | (with_reducible refine GenP.intro ?_; intro T hT)
  | with_reducible refine if_tt ?_
  | with_reducible refine if_ff ?_
  | (with_reducible refine wpAny_execs_nil ?_; walk_at "x")
  | (o_head (exec (Stmt.Assign [Expr.Name _ _] _ _) _); refine wpAny_Assign_Name ?_)
  | (o_head (eval (Expr.Tuple _ _ _) _); refine Tuple_ ?_)
  | (o_head (eval (Expr.List _ _) _); refine List_ ?_)
  | (o_head (bindName _ _ _); (with_reducible refine wpAny_bindName ?_))
  | (o_head (exec (Stmt.Assign [Expr.Attribute _ _ _] _ _) _); refine plainObj_wpAny_Assign_Attribute ?_)
  | (o_head (exec (Stmt.Assign [Expr.Subscript _ _ _] _ _) _); refine wpAny_Assign_Subscript ?_)
  | ((fail_if_success (with_reducible show wpAny _ _ (eval (Expr.Subscript _ (Expr.Slice _ _ _ _) _) _) _ _ _)); with_reducible refine Subscript_ ?_)
  | (o_head (eval (Expr.Attribute (Expr.Name _ _) _ _) _); refine Attribute_name ?_)
  | (o_head (getMethod (Value.str _ _) _ _); first | with_reducible refine GM.lower ?_ | with_reducible refine GM.split ?_ | with_reducible refine GM.find ?_ | with_reducible refine GM.rfind ?_ | with_reducible refine GM.join ?_)
  | with_reducible refine wpAny_Constant_none ?_
  | (o_head (evalPart (some _) _); refine evalPart_some_step ?_)
  | (o_head (evalPart none _); refine evalPart_none_step ?_)
  | with_reducible refine wpAny_Constant_bool ?_
  | with_reducible refine wpAny_BinOp ?_
  | with_reducible refine wpAny_isTrue_Compare1 ?_
  | with_reducible refine wpAny_Compare1 ?_
  | ((with_reducible first | refine r_int ?_ | refine r_str ?_ | refine r_add ?_ | refine r_sub ?_ | refine r_iadd ?_); intro t' tk')
  | with_reducible refine wpAny_truthy_bool ?_
  | (with_reducible refine wpAny_Break ?_; walk_at "x")
  | (with_reducible refine wpAny_Continue ?_; walk_at "x")
  | (o_head (exec (Stmt.AugAssign (Expr.Name _ _) _ _ _) _); refine wpAny_AugAssign_Name ?_)
  | (o_head (loadName _ _); refine' r_load ?S ?hv ?_ ?hL ?hk ?hx; (case S => assumption); (case hL | hv | hk | hx => exact rfl))
  | (o_head (eval (Expr.JoinedStr (_ :: _ :: _) _) _); refine JoinedStr_many ?_)
  | with_reducible refine lt_int ?_
  | with_reducible refine PyProof.Rows.eq_int ?_
  | with_reducible refine wpAny_UnaryOp ?_
  | with_reducible refine spliced_none ?_
  | (o_head (spliced (backTo _ (starEach (_ :: _) _))); refine spliced_more ?_)
  | (o_head (eval (Expr.Call (Expr.Attribute _ _ _) _ [] _) _); refine MethodCall_ ?_)
  | (o_head (eval (Expr.Call (Expr.Name _ _) _ [] _) _); refine Call_ ?_)
  | (o_head (eval (Expr.IfExp _ _ _ _) _); refine wpAny_IfExp ?_)
  | (o_head (callWith _ (Value.builtin _) [] (backTo _ (starEach (_ :: _) _)) []); refine PyProof.Rows.callWith_builtin1 ?_)
  | (o_head (callWith _ (Value.builtin _) _ (backTo _ (starEach [] _)) []); refine PyProof.Rows.callWith_method0 ?_)
  | (o_head (callWith _ (Value.builtin _) _ (backTo _ (starEach (_ :: _) _)) []); refine PyProof.Rows.callWith_method1 ?_)
  | (o_head (callWith _ (Value.type _) [] (backTo _ (starEach (_ :: _) _)) []); refine PyProof.Rows.callWith_type1 ?_)
  | (o_head (callWith _ (Value.type _) [] (backTo _ (starEach [] _)) []); refine PyProof.Rows.callWith_type0 ?_)
  | (with_reducible refine isTrue_and ?_)
  | (with_reducible refine isTrue_and_nil ?_)
  | (with_reducible refine isTrue_or ?_)
  | (with_reducible refine isTrue_or_nil ?_)
  | (with_reducible refine isTrue_not ?_)
  | (o_head (isTrue (Expr.Name _ _) _ _); refine isTrue_plain ?_)
  | (o_head (isTrue (Expr.Call _ _ _ _) _ _); refine isTrue_plain ?_)
  | (with_reducible refine wpAny_Return_some ?_)
  | (with_reducible refine wpAny_Return_none ?_)
  | with_reducible refine gt_int ?_
  | (o_head (eval (Expr.Name _ _) _); first | (refine' r_name ?S ?hv ?_ ?hL ?hk ?hx ?hd; (case S => assumption); (case hL | hv | hk | hx => exact rfl); (case hd => decide)) | (refine' r_global ?C ?S ?e ?_ ?hgl ?hk ?hx ?hd; (case C | S => assumption); (case hgl | hk | hx => exact rfl); (case hd => decide); (case e => k_is)) | (refine' r_builtin ?C ?S ?e ?v ?n ?_ ?hgl ?hbl ?hk ?hx ?hd; (case C | S => assumption); (case hgl | hbl | hk | hx => exact rfl); (case hd => decide); (case e => k_is); (case v => boot_fast); (case n => decide)))
  | (o_head (storeName _ _ _); refine' r_store ?S ?hg ?_ ?hL ?hk ?hx; (case S => assumption); (case hL => exact rfl); (case hg => assumption); (case hk | hx => exact rfl); intro h' tk' S'; (try dsimp only))
  | (walk_at "y"; walk_at "x"))
section
set_option maxRecDepth 100000
theorem siftdown_fn {w : World} {h : Heap} {d : Addr} {n : Nat} {vs : List Value} {lt : Value → Value → Bool} (hd : h.get? d = some (lo vs n)) (hz : vs.length < 2 ^ 62)
    (hc : CmpOk w h [d] lt vs) (sp pos : Nat) (hpos : pos < vs.length) (t1 t2 : Tok) :
    Fn w 153 1 [.ref d, .int sp t1, .int pos t2] [d] h (fun v h' => v = .none ∧ h'.get? d = some (lo (sdown lt sp vs pos) n)) := by
  refine' enter [(Str.ofString "pos", .int pos t2), (Str.ofString "startpos", .int sp t1), (Str.ofString "heap", .ref d)] [(d, lo vs n)] ?ho ?hcd ?hb ?hl ?hkn ?hc ?h1 ?h2 ?h3 ?hled ?_
  walk_at "en"
  case hled => simp [hd]
  intro prog A g hp G D tk o L C gk gn gL S
  obtain ⟨it, hi⟩ : ∃ it, vs[pos]? = some it := ⟨_, List.getElem?_eq_getElem hpos⟩
  have him : it ∈ vs := List.mem_of_getElem? hi
  have hsd : sdown lt sp vs pos = sdl lt sp it pos vs pos := by unfold sdown; rw [hi]
  repeat walk_at "v"
  refine r_item (S.mem (.head _)) (by (first | walk_at "om" | lia | omega)) (by (first | walk_at "om" | lia | omega)) hi ?_
  repeat walk_at "v"
  refine r_while (g := g) (L := L) (σ := List Value × Nat × Tok) (fun c => [(Str.ofString "newitem", it), (Str.ofString "pos", .int c.2.1 c.2.2), (Str.ofString "heap", .ref d), (Str.ofString "startpos", .int sp t1)]) (fun c => [(d, lo c.1 n)])
    (fun c => c.2.1 < c.1.length ∧ c.1.length = vs.length ∧ sdl lt sp it c.2.1 c.1 c.2.1 = sdl lt sp it pos vs pos ∧ ∀ v ∈ c.1, v ∈ vs) (fun c => c.2.1) (vs, pos, t2) (St.is (by assumption) (by walk_at "kn") rfl) ⟨hpos, rfl, rfl, fun _ h => h⟩ ?_
  rintro ⟨xs, p, t⟩ h t' ⟨h1, h2, h3, h4⟩ S
  try dsimp only at h1 h2 h3 h4 S ⊢
  repeat walk_at "v"
  with_reducible refine ifs (fun hb => ?_) (fun hb => ?_)
  · have hs : sp < p := by have := of_decide_eq_true hb; (first | walk_at "om" | lia | omega)
    have e : ((p : Int) - 1) / 2 = (((p - 1) / 2 : Nat) : Int) := by (first | walk_at "om" | lia | omega)
    have hlt : (p - 1) / 2 < xs.length := by (first | walk_at "om" | lia | omega)
    obtain ⟨pt, hj⟩ : ∃ pt, xs[(p - 1) / 2]? = some pt := ⟨_, List.getElem?_eq_getElem hlt⟩
    have hjm : pt ∈ vs := h4 _ (List.mem_of_getElem? hj)
    repeat walk_at "v"
    refine r_shr1 ?_
    rw [e]
    intro t₂ tk₂
    repeat walk_at "v"
    refine r_item (St.mem (by assumption) (.head _)) (by (first | walk_at "om" | lia | omega)) (by (first | walk_at "om" | lia | omega)) hj ?_
    repeat walk_at "v"
    refine wpAny_If ?_
    repeat walk_at "v"
    refine hc _ him _ hjm _ _ _ _ _ _ _ _ _ (by have := C.hu; (first | walk_at "om" | lia | omega)) (fun b o e n => St.keep (by assumption) b o (gk b o e n)) (fun tk' => ?_)
    repeat walk_at "v"
    with_reducible refine ifs (fun hb => ?_) (fun hb => ?_)
    · repeat walk_at "v"
      refine r_setitem (by assumption) (by simp) rfl h1 (by (first | walk_at "om" | lia | omega)) (fun h' S' => ?_)
      try dsimp only
      repeat walk_at "v"
      walk_at "x"; exact TurnEnd.intro (xs.set p pt, (p - 1) / 2, t₂) (St.is (by assumption) (by walk_at "kn") rfl)
        ⟨by simp; (first | walk_at "om" | lia | omega), by simp [h2], by dsimp only; rw [← h3]; exact (sdl_go xs p hs hj hb).symm, fun v hv => (List.mem_or_eq_of_mem_set hv).elim (h4 v) (fun e => e ▸ hjm)⟩ (by dsimp only; (first | walk_at "om" | lia | omega))
    · repeat walk_at "v"
      refine r_setitem (by assumption) (by simp) rfl h1 (by (first | walk_at "om" | lia | omega)) (fun h' S' => ?_)
      try dsimp only
      repeat walk_at "v"
      walk_at "x"; refine Ret.intro S' ⟨rfl, ?_⟩
      rw [hsd, ← h3, sdl_brk _ _ hj hb]
      exact S'.mem (.head _)
  · have hs : ¬ sp < p := by have := of_decide_eq_false hb; (first | walk_at "om" | lia | omega)
    repeat walk_at "v"
    refine r_setitem (by assumption) (by simp) rfl h1 (by (first | walk_at "om" | lia | omega)) (fun h' S' => ?_)
    try dsimp only
    repeat walk_at "v"
    walk_at "x"; refine Ret.intro S' ⟨rfl, ?_⟩
    rw [hsd, ← h3, sdl_stop _ _ _ hs]
    exact S'.mem (.head _)
theorem siftdown_at {w : World} {h : Heap} {d : Addr} {n : Nat} {vs : List Value} {lt : Value → Value → Bool} {i j : Int} (sp pos : Nat) {t1 t2 : Tok} (hd : h.get? d = some (lo vs n)) (hz : vs.length < 2 ^ 62)
    (hc : CmpOk w h [d] lt vs) (hi : i = (sp : Int)) (hj : j = (pos : Int)) (hpos : pos < vs.length) :
    Fn w 153 1 [.ref d, .int i t1, .int j t2] [d] h (fun v h' => v = .none ∧ h'.get? d = some (lo (sdown lt sp vs pos) n)) := by
  subst hi hj
  exact siftdown_fn hd hz hc sp pos hpos t1 t2
theorem CmpOk.keeps {w : World} {h h' : Heap} {ds : List Addr} {lt : Value → Value → Bool} {vs : List Value} (hc : CmpOk w h ds lt vs) (hk : ∀ b o, h.get? b = some o → b ∉ ds → h'.get? b = some o) : CmpOk w h' ds lt vs :=
  fun a ha b hb prog A hp G D tk o Q E hA hk' hQ => hc a ha b hb prog A hp G D tk o Q E hA (fun b o e n => hk' b o (hk b o e n) n) hQ
theorem CmpOk.sub {w : World} {h : Heap} {ds : List Addr} {lt : Value → Value → Bool} {vs us : List Value} (hc : CmpOk w h ds lt vs) (hs : ∀ u ∈ us, u ∈ vs) : CmpOk w h ds lt us :=
  fun a ha b hb => hc a (hs a ha) b (hs b hb)
end
section
set_option maxRecDepth 100000
noncomputable def LtAt (A : Around) (s : Shared) (p q : Value) (c : Bool) : Prop :=
  ∀ (prog : Program) (w : World) (E : Value → Shared → Prop) (Q : Value → Shared → Prop), Q (.bool c) s → wpAny (model prog w) A (richCompare .Lt p q) Q E s
theorem LtAt.int (A : Around) (s : Shared) (a : Int) (t : Tok) (b : Int) (u : Tok) : LtAt A s (.int a t) (.int b u) (decide (a < b)) := fun prog w E Q h =>
  richCompare_gives (typeIs_int s a t) (typeIs_int s b u) F.slot_int_lt F.entry_int_lt (F.args_int_lt_2 _ _) (gives_int_lt a b t u) (fun x => nomatch x) h

theorem lt2_tree {prog : Program} {w : World} {A : Around} {s : Shared} {a b : Addr} {p1 p2 q1 q2 : Value} {b1 b2 c1 c2 : Bool} {P : Fin → Shared → Prop} {E : Value → Shared → Prop}
    (ha : s.heap.get? a = some (tu [p1, p2])) (hb : s.heap.get? b = some (tu [q1, q2])) (e1 : EqAt A s p1 q1 b1) (e2 : EqAt A s p2 q2 b2) (l1 : LtAt A s p1 q1 c1) (l2 : LtAt A s p2 q2 c2)
    (h : P (.done (.ret (.bool (if b1 then (if b2 then false else c2) else c1)))) s) : wpAny (model prog w) A (Builtin.«tuple.__lt__» ⟨[.ref a, .ref b], []⟩) P E s := by
  have hTb : s.TypeIs (.ref b) "tuple" := ⟨_, hb, rfl⟩
  show wpAny _ _ (isInstance (.ref b) (.type "tuple") >>= _) _ _ s
  refine wpAny_bind (wpAny_isInstance hTb isSubtype_tuple_tuple ?_)
  simp only [Bool.not_true, Bool.false_eq_true, if_false]
  refine wpAny_bind (wpAny_tupleItemsOf ha rfl ?_)
  refine wpAny_bind (wpAny_tupleItemsOf hb rfl ?_)
  refine wpAny_bind ?_
  show wpAny _ _ (forIn [(p1, q1), (p2, q2)] _ _) _ _ s
  rw [List.forIn_cons]
  refine wpAny_bind ?_
  refine wpAny_bind (e1 _ _ _ _ ?_)
  cases b1 with
  | false =>
    simp only [Bool.not_false, if_true]
    refine wpAny_bind (wpAny_rule (wpAny_bind (l1 _ _ _ _ ?_)))
    exact wpAny_bind (wpAny_pure (wpAny_pure (wpAny_pure (wpAny_pure (by simpa using h)))))
  | true =>
    simp only [Bool.not_true, Bool.false_eq_true, if_false]
    refine wpAny_pure ?_
    try dsimp only
    rw [List.forIn_cons]
    refine wpAny_bind (wpAny_bind (e2 _ _ _ _ ?_))
    cases b2 with
    | false =>
      simp only [Bool.not_false, if_true]
      refine wpAny_bind (wpAny_rule (wpAny_bind (l2 _ _ _ _ ?_)))
      exact wpAny_bind (wpAny_pure (wpAny_pure (wpAny_pure (wpAny_pure (by simpa using h)))))
    | true =>
      simp only [Bool.not_true, Bool.false_eq_true, if_false]
      refine wpAny_pure ?_
      try dsimp only
      rw [List.forIn_nil]
      refine wpAny_pure ?_
      exact wpAny_pure (by simpa [Builtin.Tuple.tupleCompareSizes] using h)

theorem r_lt2 {prog : Program} {w : World} {A : Around} {s : Shared} {a b : Addr} {p1 p2 q1 q2 : Value} {b1 b2 c1 c2 : Bool} {Q E : Value → Shared → Prop} (hu : A.units < cLine)
    (ha : s.heap.get? a = some (tu [p1, p2])) (hb : s.heap.get? b = some (tu [q1, q2])) (e1 : EqAt A.in1 s p1 q1 b1) (e2 : EqAt A.in1 s p2 q2 b2) (l1 : LtAt A.in1 s p1 q1 c1) (l2 : LtAt A.in1 s p2 q2 c2)
    (h : Q (.bool (if b1 then (if b2 then false else c2) else c1)) s) : wpAny (model prog w) A (compareOp .Lt (.ref a) (.ref b)) Q E s := by
  show wpAny _ _ (richCompare .Lt (.ref a) (.ref b)) Q E s
  have hTa : s.TypeIs (.ref a) "tuple" := ⟨_, ha, rfl⟩
  have hTb : s.TypeIs (.ref b) "tuple" := ⟨_, hb, rfl⟩
  exact wpAny_richCompare_same_room (op := .Lt) hTa hTb F.slot_tuple_lt
    (wpAny_call_entry F.slot_tuple_lt hTa F.entry_tuple_lt (lt2_tree ha hb e1 e2 l1 l2 ⟨_, rfl, (fun e => nomatch e), h⟩) (F.args_tuple_lt_2 _ _)) hu
theorem LtAt.str (A : Around) (s : Shared) (a : Str) (t : Tok) (b : Str) (u : Tok) : LtAt A s (.str a t) (.str b u) (decide (a.cps.toList < b.cps.toList)) := fun prog w E Q h =>
  richCompare_gives (typeIs_str s a t) (typeIs_str s b u) F.slot_str_lt F.entry_str_lt (F.args_str_lt_2 _ _) (gives_str_lt a b t u) (fun x => nomatch x) h
end
section
set_option maxRecDepth 100000
theorem St.call0 {g h h' : Heap} {L : Addr} {kn : Kns} {led : Led} (S : St g L h kn led) (K : KB [] h h') : St g L h' kn led := S.keeps fun b o e => K b o e (by simp)
theorem St.call1 {g h h' : Heap} {L d : Addr} {o o' : Obj} {kn : Kns} {led : Led} (S : St g L h kn ((d, o) :: led)) (K : KB [d] h h') (ho : h'.get? d = some o') (hne : ∀ p ∈ led, p.1 ≠ d) : St g L h' kn ((d, o') :: led) := by
  have z := S.nw (d, o) (.head _)
  have off : ∀ b ob, h.get? b = some ob → b ≠ d → h'.get? b = some ob := fun b ob e n => K b ob e (by simpa using n)
  refine ⟨fun b ob e => off b ob (S.keep b ob e) (fun q => by rw [q, z.2.1] at e; cases e), ?_, fun p hp => ?_⟩
  · obtain ⟨m, ⟨ol, es, ep, a, r⟩, b⟩ := S.ns
    exact ⟨m, ⟨ol, es, ep, off L ol a (Ne.symm z.2.2), r⟩, b⟩
  · rcases List.mem_cons.mp hp with rfl | hp
    · exact ⟨ho, z.2⟩
    · have y := S.nw p (.tail _ hp)
      exact ⟨off _ _ y.1 (hne p hp), y.2⟩
section
variable {prog : Program} {w : World} {M : Model} {A : Around} {E : Value → Shared → Prop} {hp g : Heap} {G : Array GenState} {D : Drawn} {tk : Nat} {o : OsState} {L : Addr} {kn : Kns} {led : Led} {env : Env} {k : Nat} {x : Str} {v : Value} {pos : Pos}

theorem r_cw {f : Value} {first : List Value} {e : Expr} {rest : List Expr} {Q : Value → Shared → Prop} (C : Cx w A g k) (hk : keepIn (pre.heap_1 w.params) f = true)
    (h : wpAny (model prog w) A (spliced (backTo pos (starEach (e :: rest) env))) (fun vs s₁ => (pre.heap_1 w.params).In s₁.heap ∧ wpAny (model prog w) A (call f (first ++ vs)) Q E s₁) E ⟨hp, G, D, tk, o⟩)
    (he : starEach (e :: rest) env = (false, eval e env) :: starEach rest env) (hplain : (backTo pos (starEach rest env)).any (·.1) = false) :
    wpAny (model prog w) A (callWith pos f first (backTo pos (starEach (e :: rest) env)) []) Q E ⟨hp, G, D, tk, o⟩ := callWith_K C.X hk h he hplain
theorem r_in {P : Prop} (C : Cx w A g k) (S : St g L hp kn led) (h : P) : (pre.heap_1 w.params).In hp ∧ P := ⟨C.X.keeps S.keep, h⟩

theorem r_lmeth {name : Str} {id : String} {pl : Sem Bool} {l : Addr} {vs : List Value} {n : Nat} {Q : Value × List Value → Shared → Prop} (slot : Slot "list" name id)
    (hty : typeOf (.builtin id) = pure (.type "method_descriptor")) (hl : hp.get? l = some (lo vs n)) (h : Q (.builtin id, [.ref l]) ⟨hp, G, D, tk, o⟩) :
    wpAny (model prog w) A (getMethod (.ref l) name pl) Q E ⟨hp, G, D, tk, o⟩ :=
  getMethod_builtin ⟨_, hl, rfl⟩ PySem.F.plainAttrs_list slot hty (fun a e => by cases e; exact ⟨_, hl, rfl⟩) h

theorem r_append {l : Addr} {vs : List Value} {n : Nat} {Q : Value → Shared → Prop} (S : St g L hp kn ((l, lo vs n) :: led)) (hne : ∀ p ∈ led, p.1 ≠ l) (hz : vs.length ≤ sizeLine)
    (h : ∀ h', St g L h' kn ((l, lo (vs ++ [v]) (n + 1)) :: led) → Q .none ⟨h', G, D, tk, o⟩) : wpAny (model prog w) A (call (.builtin "list.append") [.ref l, v]) Q E ⟨hp, G, D, tk, o⟩ :=
  append_at (its := vs.toArray) (S.mem (.head _)) (fun h' hs ho => h h' (S.set hs (by rw [ho]; simp) hne)) (by simpa using hz)

theorem r_pop {l : Addr} {vs : List Value} {n : Nat} {Q : Value → Shared → Prop} (S : St g L hp kn ((l, lo (vs ++ [v]) n) :: led)) (hne : ∀ p ∈ led, p.1 ≠ l) (hz : vs.length + 1 ≤ sizeLine)
    (h : ∀ h', St g L h' kn ((l, lo vs (n + 1)) :: led) → Q v ⟨h', G, D, tk, o⟩) : wpAny (model prog w) A (call (.builtin "list.pop") [.ref l]) Q E ⟨hp, G, D, tk, o⟩ := by
  have ho := S.mem (.head _)
  refine call_meets PySem.F.slot_list_pop ⟨_, ho, rfl⟩ PySem.F.entry_list_pop (PySem.F.args_list_pop_1 _) (PySem.MeetsSeq.list_pop_last l _ n v (by simp) (by simpa using hz)) ⟨ho, ?_⟩
  have hm : Obj.mapSeq (fun xs => xs.eraseIdxIfInBounds ((vs ++ [v]).toArray.size - 1)) (lo (vs ++ [v]) n) = lo vs (n + 1) := by
    have e : (vs ++ [v]).eraseIdx vs.length = vs := by
      rw [List.eraseIdx_append_of_length_le (Nat.le_refl _)]
      simp
    simp [Obj.mapSeq, e]
  have hfin := Heap.get?_update_self (h := hp) (Obj.mapSeq (fun xs => xs.eraseIdxIfInBounds ((vs ++ [v]).toArray.size - 1))) ho (by rw [hm]; rfl)
  exact h _ (S.set (Heap.SameBut.update ..) (by rw [hfin, hm]) hne)

theorem r_len {l : Addr} {vs : List Value} {n : Nat} {Q : Value → Shared → Prop} (hl : hp.get? l = some (lo vs n)) (hz : vs.length < 2 ^ 62)
    (h : ∀ t tk', Q (.int vs.length t) ⟨hp, G, D, tk', o⟩) : wpAny (model prog w) A (call (.builtin "len") [.ref l]) Q E ⟨hp, G, D, tk, o⟩ :=
  call_len_list (isList_of hl) (by simp; (first | walk_at "om" | omega)) (by simpa using h _ _)
theorem r_truthy {l : Addr} {vs : List Value} {n : Nat} {Q : Bool → Shared → Prop} (hl : hp.get? l = some (lo vs n)) (hz : vs.length < 2 ^ 62)
    (h : ∀ tk', Q (!vs.isEmpty) ⟨hp, G, D, tk', o⟩) : wpAny (model prog w) A (truthy (.ref l)) Q E ⟨hp, G, D, tk, o⟩ :=
  wpAny_truthy_list (isList_of hl) (by simp; (first | walk_at "om" | omega)) (by simpa using h _)
theorem r_mul2 {b : Int} {t u : Tok} {Q : Value → Shared → Prop} (h : ∀ t tk', Q (.int (2 * b) t) ⟨hp, G, D, tk', o⟩) : wpAny (model prog w) A (binaryOp .Mult (.int 2 t) (.int b u)) Q E ⟨hp, G, D, tk, o⟩ :=
  PyProof.Rows.mul_int (h _ _) (IntMulOk.of_left (by decide))
theorem r_expr {e : Expr} {Q : Flow → Shared → Prop} (h : wpAny M A (eval e env) (fun v s' => v = .none ∧ Q .next s') E ⟨hp, G, D, tk, o⟩)
    (hi : interactive env = false) (hs : swapsWith e none pos.line env = pure false) : wpAny M A (exec (.Expr e pos) env) Q E ⟨hp, G, D, tk, o⟩ :=
  wpAny_Expr (wpAny_mono h (fun v s' hq => by obtain ⟨rfl, hq⟩ := hq; exact hq) fun _ _ e => e) hi hs
end
end
set_option compiler.extract_closed false in
local macro_rules | `(tactic| walk_at "v") => `(tactic| first
  | (o_head (callWith _ (Value.ref _) _ _ []); refine' r_cw ?C ?hk ?_ ?he ?hp; (case C => assumption); (case hk => k_is); (case he | hp => exact rfl))
  | ((with_reducible show Frag.In _ _ ∧ _); (refine r_in (by assumption) (by assumption) ?_); (try dsimp only [List.nil_append, List.cons_append]))
  | (o_head (exec (Stmt.Expr _ _) _); refine' r_expr ?_ ?hi ?hs; (case hi | hs => exact rfl)))
section
set_option maxRecDepth 100000
theorem KB.list {h h' : Heap} {ds : List Addr} (x : KB ds h h') {b : Addr} {o : Obj} (e : h.get? b = some o) (n : b ∉ ds) : h'.get? b = some o := x b o e n
theorem heappush_fn {w : World} {h : Heap} {d : Addr} {n : Nat} {vs : List Value} {lt : Value → Value → Bool} {v : Value} (hd : h.get? d = some (lo vs n)) (hz : vs.length + 1 ≤ sizeLine)
    (hc : CmpOk w h [d] lt (vs ++ [v])) :
    Fn w 132 2 [.ref d, v] [d] h (fun r h' => r = .none ∧ h'.get? d = some (lo (sdown lt 0 (vs ++ [v]) vs.length) (n + 1))) := by
  refine' enter [(Str.ofString "item", v), (Str.ofString "heap", .ref d)] [(d, lo vs n)] ?ho ?hcd ?hb ?hl ?hkn ?hc ?h1 ?h2 ?h3 ?hled ?_
  walk_at "en"
  case hled => simp [hd]
  intro prog A g hp G D tk o L C gk gn gL S
  repeat walk_at "v"
  refine r_lmeth PySem.F.slot_list_append PySem.F.type_list_append (S.mem (.head _)) ?_
  repeat walk_at "v"
  refine r_append (by assumption) (by simp) (by (first | walk_at "om" | omega)) (fun h' S' => ⟨rfl, ?_⟩)
  try dsimp only
  repeat walk_at "v"
  have hs24 : sizeLine = 16777216 := rfl
  refine r_len (S'.mem (.head _)) (by simp; (first | walk_at "om" | omega)) (fun t tk' => ?_)
  repeat walk_at "v"
  try dsimp only
  refine r_call C S' (siftdown_at 0 vs.length (S'.mem (.head _)) (by simp; (first | walk_at "om" | omega)) (hc.keeps fun b o e n => S'.keep b o (gk b o e n)) rfl (by simp) (by simp)) (Nat.le_refl _) gn (fun v h'' tk' K hp => ⟨hp.1, ?_⟩)
  have S'' := S'.call1 K hp.2 (by simp)
  try dsimp only
  repeat walk_at "v"
  walk_at "x"; exact Ret.intro S'' ⟨rfl, S''.mem (.head _)⟩

/-- the child of two that goes up -/
noncomputable def pick {α : Type} (lt : α → α → Bool) (vs : List α) (c : Nat) : Nat := match vs[c]?, vs[c + 1]? with
  | some a, some b => if lt a b then c else c + 1
  | _, _ => c
noncomputable def sul {α : Type} (lt : α → α → Bool) : Nat → List α → Nat → List α × Nat
  | 0, vs, pos => (vs, pos)
  | n + 1, vs, pos => match vs[pick lt vs (2 * pos + 1)]? with
    | some x => sul lt n (vs.set pos x) (pick lt vs (2 * pos + 1))
    | none => (vs, pos)
noncomputable def sup {α : Type} (lt : α → α → Bool) (vs : List α) (pos : Nat) : List α := match vs[pos]? with
  | none => vs
  | some it => sdown lt pos ((sul lt vs.length vs pos).1.set (sul lt vs.length vs pos).2 it) (sul lt vs.length vs pos).2

section
variable {α β : Type} {lt : α → α → Bool}
theorem pick_le (vs : List α) (c : Nat) : c ≤ pick lt vs c ∧ pick lt vs c ≤ c + 1 ∧ (c < vs.length → pick lt vs c < vs.length) ∧ (vs.length ≤ c → pick lt vs c = c) := by
  unfold pick
  split
  · rename_i a b h1 h2
    have := (List.getElem?_eq_some_iff.mp h2).1
    split <;> refine ⟨by (first | walk_at "om" | omega), by (first | walk_at "om" | omega), by (first | walk_at "om" | omega), by (first | walk_at "om" | omega)⟩
  · refine ⟨by (first | walk_at "om" | omega), by (first | walk_at "om" | omega), by (first | walk_at "om" | omega), fun _ => rfl⟩
theorem sul_stop (n : Nat) (vs : List α) (pos : Nat) (h : vs.length ≤ 2 * pos + 1) : sul lt n vs pos = (vs, pos) := by
  cases n with
  | zero => rfl
  | succ n =>
    unfold sul
    rw [(pick_le vs (2 * pos + 1)).2.2.2 h, List.getElem?_eq_none h]
theorem sul_fuel : ∀ (n m : Nat) (vs : List α) (pos : Nat), vs.length - pos ≤ n → vs.length - pos ≤ m → sul lt n vs pos = sul lt m vs pos
  | 0, m, vs, pos, h, _ => by rw [sul_stop _ _ _ (by (first | walk_at "om" | omega)), sul_stop _ _ _ (by (first | walk_at "om" | omega))]
  | n + 1, 0, vs, pos, _, h => by rw [sul_stop _ _ _ (by (first | walk_at "om" | omega)), sul_stop _ _ _ (by (first | walk_at "om" | omega))]
  | n + 1, m + 1, vs, pos, h1, h2 => by
    by_cases hc : 2 * pos + 1 < vs.length
    · unfold sul
      have e := List.getElem?_eq_getElem ((pick_le (lt := lt) vs (2 * pos + 1)).2.2.1 hc)
      have := (pick_le (lt := lt) vs (2 * pos + 1)).1
      rw [e]
      try dsimp only
      exact sul_fuel n m _ _ (by simp; (first | walk_at "om" | omega)) (by simp; (first | walk_at "om" | omega))
    · rw [sul_stop _ _ _ (by (first | walk_at "om" | omega)), sul_stop _ _ _ (by (first | walk_at "om" | omega))]
theorem sul_go (vs : List α) (pos : Nat) {x : α} (hc : 2 * pos + 1 < vs.length) (e : vs[pick lt vs (2 * pos + 1)]? = some x) :
    sul lt vs.length vs pos = sul lt vs.length (vs.set pos x) (pick lt vs (2 * pos + 1)) := by
  have := (pick_le (lt := lt) vs (2 * pos + 1)).1
  obtain ⟨n, hn⟩ : ∃ n, vs.length = n + 1 := ⟨vs.length - 1, by (first | walk_at "om" | omega)⟩
  conv => lhs; rw [hn]; unfold sul
  rw [e]
  try dsimp only
  exact sul_fuel _ _ _ _ (by simp; (first | walk_at "om" | omega)) (by simp)
theorem sul_len : ∀ (n : Nat) (vs : List α) (pos : Nat), (sul lt n vs pos).1.length = vs.length
  | 0, _, _ => rfl
  | n + 1, vs, pos => by
    unfold sul
    split
    · rw [sul_len n]; simp
    · rfl
end
end
section
set_option maxRecDepth 100000
theorem siftup_fn {w : World} {h : Heap} {d : Addr} {n : Nat} {vs : List Value} {lt : Value → Value → Bool} (hd : h.get? d = some (lo vs n)) (hz : vs.length ≤ sizeLine)
    (hc : CmpOk w h [d] lt vs) (pi : Int) (p0 : Nat) (hpi : pi = (p0 : Int)) (hpos : p0 < vs.length) (t1 : Tok) :
    Fn w 160 2 [.ref d, .int pi t1] [d] h (fun r h' => r = .none ∧ h'.get? d = some (lo (sup lt vs p0) n)) := by
  subst hpi
  have hs24 : sizeLine = 16777216 := rfl
  refine' enter [(Str.ofString "pos", .int p0 t1), (Str.ofString "heap", .ref d)] [(d, lo vs n)] ?ho ?hcd ?hb ?hl ?hkn ?hc ?h1 ?h2 ?h3 ?hled ?_
  walk_at "en"
  case hled => simp [hd]
  intro prog A g hp G D tk o L C gk gn gL S
  obtain ⟨it, hi⟩ : ∃ it, vs[p0]? = some it := ⟨_, List.getElem?_eq_getElem hpos⟩
  have him : it ∈ vs := List.mem_of_getElem? hi
  repeat walk_at "v"
  refine r_len (S.mem (.head _)) (by (first | walk_at "om" | lia | omega)) (fun t tk' => ?_)
  repeat walk_at "v"
  refine r_item (St.mem (by assumption) (.head _)) (by (first | walk_at "om" | lia | omega)) (by (first | walk_at "om" | lia | omega)) hi ?_
  repeat walk_at "v"
  refine r_mul2 (fun t₂ tk₂ => ?_)
  repeat walk_at "v"
  refine r_while (g := g) (L := L) (σ := List Value × Nat × Tok × Tok) (fun c => [(Str.ofString "childpos", .int (2 * c.2.1 + 1) c.2.2.1), (Str.ofString "newitem", it), (Str.ofString "startpos", .int p0 t1), (Str.ofString "endpos", .int vs.length t), (Str.ofString "pos", .int c.2.1 c.2.2.2), (Str.ofString "heap", .ref d)]) (fun c => [(d, lo c.1 n)])
    (fun c => c.2.1 < c.1.length ∧ c.1.length = vs.length ∧ sul lt vs.length c.1 c.2.1 = sul lt vs.length vs p0 ∧ ∀ v ∈ c.1, v ∈ vs) (fun c => vs.length - c.2.1) (vs, p0, _, t1) (St.is (by assumption) (by walk_at "kn") rfl) ⟨hpos, rfl, rfl, fun _ h => h⟩ ?_
  rintro ⟨xs, p, tc, tp⟩ h₂ t' ⟨h1, h2, h3, h4⟩ S
  try dsimp only at h1 h2 h3 h4 S ⊢
  have pk := pick_le (lt := lt) xs (2 * p + 1)
  repeat walk_at "v"
  with_reducible refine ifs (fun hb => ?_) (fun hb => ?_)
  · have hs : 2 * p + 1 < xs.length := by have := of_decide_eq_true hb; (first | walk_at "om" | lia | omega)
    obtain ⟨x1, hx1⟩ : ∃ x1, xs[2 * p + 1]? = some x1 := ⟨_, List.getElem?_eq_getElem hs⟩
    obtain ⟨xk, hxk⟩ : ∃ xk, xs[pick lt xs (2 * p + 1)]? = some xk := ⟨_, List.getElem?_eq_getElem (pk.2.2.1 hs)⟩
    repeat walk_at "v"
    refine r_join (g := g) (L := L) (σ := Tok) (fun c => [(Str.ofString "childpos", .int ((pick lt xs (2 * p + 1) : Nat) : Int) c), (Str.ofString "newitem", it), (Str.ofString "startpos", .int p0 t1), (Str.ofString "endpos", .int vs.length t), (Str.ofString "pos", .int p tp), (Str.ofString "heap", .ref d)]) (fun c => [(d, lo xs n)]) (fun _ => True) ?_ ?_
    · refine wpAny_If ?_
      repeat walk_at "v"
      with_reducible refine ifs (fun hb' => ?_) (fun hb' => ?_)
      · have hs' : 2 * p + 2 < xs.length := by have := of_decide_eq_true hb'; (first | walk_at "om" | lia | omega)
        obtain ⟨x2, hx2⟩ : ∃ x2, xs[2 * p + 1 + 1]? = some x2 := ⟨_, List.getElem?_eq_getElem hs'⟩
        have hpk : pick lt xs (2 * p + 1) = if lt x1 x2 then 2 * p + 1 else 2 * p + 1 + 1 := by unfold pick; rw [hx1, hx2]
        repeat walk_at "v"
        refine r_item (v := x1) (St.mem (by assumption) (.head _)) (by (first | walk_at "om" | lia | omega)) (by (first | walk_at "om" | lia | omega)) (by rw [← hx1]; congr 1) ?_
        repeat walk_at "v"
        refine r_item (v := x2) (St.mem (by assumption) (.head _)) (by (first | walk_at "om" | lia | omega)) (by (first | walk_at "om" | lia | omega)) (by rw [← hx2]; congr 1) ?_
        refine hc _ (h4 _ (List.mem_of_getElem? hx1)) _ (h4 _ (List.mem_of_getElem? hx2)) _ _ _ _ _ _ _ _ _ (by have := C.hu; (first | walk_at "om" | lia | omega)) (fun b o e n => St.keep (by assumption) b o (gk b o e n)) (fun tk' => ?_)
        repeat walk_at "v"
        with_reducible refine ifs (fun hb'' => ?_) (fun hb'' => ?_)
        · have hlt : lt x1 x2 = false := by simpa using hb''
          repeat walk_at "v"
          have e : pick lt xs (2 * p + 1) = 2 * p + 2 := by rw [hpk, hlt]; simp
          walk_at "join"
        · have hlt : lt x1 x2 = true := by simpa using hb''
          repeat walk_at "v"
          have e : pick lt xs (2 * p + 1) = 2 * p + 1 := by rw [hpk, hlt]; simp
          walk_at "join"
      · have hs' : ¬ 2 * p + 2 < xs.length := by have := of_decide_eq_false hb'; (first | walk_at "om" | lia | omega)
        have hpk : pick lt xs (2 * p + 1) = 2 * p + 1 := by
          unfold pick
          rw [List.getElem?_eq_none (by (first | walk_at "om" | lia | omega) : xs.length ≤ 2 * p + 1 + 1)]
          split <;> first | rfl | (rename_i q; cases q)
        repeat walk_at "v"
        walk_at "join"
    · intro c h₃ t₃ _ S
      try dsimp only at S ⊢
      repeat walk_at "v"
      refine r_item (St.mem (by assumption) (.head _)) (by (first | walk_at "om" | lia | omega)) (by (first | walk_at "om" | lia | omega)) (by rw [← hxk]; congr 1) ?_
      repeat walk_at "v"
      refine r_setitem (j := p) (by assumption) (by simp) rfl h1 (by (first | walk_at "om" | lia | omega)) (fun h' S' => ?_)
      try dsimp only
      repeat walk_at "v"
      refine r_mul2 (fun t₂ tk₂ => ?_)
      repeat walk_at "v"
      walk_at "x"; refine TurnEnd.intro (xs.set p xk, pick lt xs (2 * p + 1), _, c) (St.is (by assumption) (by walk_at "kn") rfl)
        ⟨?_, by simp [h2], ?_, fun v hv => (List.mem_or_eq_of_mem_set hv).elim (h4 v) (fun e => e ▸ h4 _ (List.mem_of_getElem? hxk))⟩ ?_
      · have := pk.2.2.1 hs
        simpa using this
      · try dsimp only
        rw [← h3, ← h2, sul_go xs p hs hxk]
      · try dsimp only
        (first | walk_at "om" | lia | omega)
  · have hs : xs.length ≤ 2 * p + 1 := by have := of_decide_eq_false hb; (first | walk_at "om" | lia | omega)
    repeat walk_at "v"
    refine r_setitem (j := p) (by assumption) (by simp) rfl h1 (by (first | walk_at "om" | lia | omega)) (fun h' S' => ?_)
    try dsimp only
    repeat walk_at "v"
    refine r_call C S' (siftdown_at p0 p (S'.mem (.head _)) (by simp; (first | walk_at "om" | lia | omega)) ((hc.keeps fun b o e n => S'.keep b o (gk b o e n)).sub fun u hu => (List.mem_or_eq_of_mem_set hu).elim (h4 u) (fun e => e ▸ him)) rfl rfl (by simpa using h1)) (Nat.le_refl _) gn (fun v h'' tk' K hp => ⟨hp.1, ?_⟩)
    have S'' := S'.call1 K hp.2 (by simp)
    try dsimp only
    repeat walk_at "v"
    walk_at "x"; refine Ret.intro S'' ⟨rfl, ?_⟩
    have e : sup lt vs p0 = sdown lt p0 (xs.set p it) p := by
      unfold sup
      rw [hi]
      try dsimp only
      rw [← h3, sul_stop _ _ _ hs]
    rw [e]
    exact S''.mem (.head _)
end
section
set_option maxRecDepth 100000
section
variable {prog : Program} {w : World} {M : Model} {A : Around} {E : Value → Shared → Prop} {hp g : Heap} {G : Array GenState} {D : Drawn} {tk : Nat} {o : OsState} {L : Addr} {kn : Kns} {led : Led} {env : Env} {k : Nat} {x : Str} {v : Value} {pos : Pos}
theorem r_forG {good : Obj → Prop} {σ : Type} {target : Expr} {body : List Stmt} {Q : Flow → Shared → Prop} {n : Nat} {I : Addr} {fp wr : List Addr} {P : Nat → Value → Prop} {Sti : Nat → Heap → Prop} (W : Walks prog w A I fp wr n P Sti) (clsI : Value)
    (hcls : ∀ i h, Sti i h → ∃ o, h.get? I = some o ∧ o.cls = clsI ∧ good o) (hwr : ∀ b ∈ wr, b = I) (kns : Nat → σ → Kns) (leds : Nat → σ → Led) (PP : Nat → σ → Prop) (c₀ : σ)
    (S : St g L hp (kns 0 c₀) (leds 0 c₀)) (hgI : g.get? I = none) (hLI : I ≠ L) (h0 : PP 0 c₀) (hst : Sti 0 hp)
    (hfp : ∀ b ∈ fp, b = I ∨ (∃ o, g.get? b = some o) ∨ ∃ o, ∀ i c, PP i c → (b, o) ∈ leds i c) (hoff : ∀ i c, PP i c → ∀ p ∈ leds i c, good p.2 → p.2.cls ≠ clsI)
    (turn : ∀ i c v h t oI, i < n → P i v → PP i c → St g L h (kns i c) (leds i c ++ [(I, oI)]) → (∀ p ∈ leds i c, p.1 ≠ I) → oI.cls = clsI →
      wpAny (model prog w) A (letOwnedTupleGo target (.ref I) v) (fun _ s₁ => wpAny (model prog w) A (assign target env v) (fun _ s₂ => wpAny (model prog w) A (execs body env) (ForPost G D o g L kns leds PP [(I, oI)] Q i) NoE s₂) NoE s₁) NoE ⟨h, G, D, t, o⟩)
    (done : ∀ c h t, PP n c → St g L h (kns n c) (leds n c) → Q .next ⟨h, G, D, t, o⟩) :
    codeAny (model prog w) A (.forLoop target (.ref I) body [] env) (fun r s' => match r with | .ok f => Q f s' | .error e => cameBackBy (model prog w) A env NoE e s') ⟨hp, G, D, tk, o⟩ := by
  refine codeAny_forLoop_any (fun m s' => ∃ i c h t, s' = ⟨h, G, D, t, o⟩ ∧ i ≤ n ∧ m = n - i ∧ PP i c ∧ Sti i h ∧ St g L h (kns i c) (leds i c)) ?_ n ⟨0, c₀, hp, tk, rfl, Nat.zero_le _, by (first | walk_at "om" | omega), h0, hst, S⟩
  rintro m s' ⟨i, c, h, t, rfl, hin, rfl, hP, hi, S⟩
  have after : ∀ h' : Heap, (∀ b ob, b ∉ wr → h.get? b = some ob → h'.get? b = some ob) → St g L h' (kns i c) (leds i c) ∧ ∀ p ∈ leds i c, p.1 ≠ I := by
    intro h' hk
    obtain ⟨oI, e1, e2, e3⟩ := hcls i h hi
    have off : ∀ p ∈ leds i c, p.1 ≠ I := fun p hp q => by
      have y := (S.nw p hp).1
      rw [q, e1] at y
      cases y
      exact hoff i c hP p hp e3 e2
    refine ⟨⟨fun b ob e => hk b ob (fun hb => by rw [hwr b hb, hgI] at e; cases e) (S.keep b ob e), ?_, fun p hp => ⟨hk _ _ (fun hb => off p hp (hwr _ hb)) (S.nw p hp).1, (S.nw p hp).2⟩⟩, off⟩
    obtain ⟨mm, ⟨ol, es, ep, a, r⟩, b⟩ := S.ns
    exact ⟨mm, ⟨ol, es, ep, hk L ol (fun hb => hLI (hwr _ hb).symm) a, r⟩, b⟩
  rcases Nat.lt_or_ge i n with hlt | hge
  · refine W.item i _ _ _ hlt hi (fun v h' tk' hv hst' hk => ?_)
    obtain ⟨S', off⟩ := after h' hk
    obtain ⟨oI, e1, e2, _⟩ := hcls (i + 1) h' hst'
    have S'' : St g L h' (kns i c) (leds i c ++ [(I, oI)]) := ⟨S'.keep, S'.ns, fun p hp => by
      rcases List.mem_append.mp hp with hp | hp
      · exact S'.nw p hp
      · rw [List.mem_singleton.mp hp]; exact ⟨e1, hgI, hLI⟩⟩
    refine wpAny_mono (turn i c v h' tk' oI hlt hv hP S'' off e2) (fun _ s₁ h₁ => wpAny_mono h₁ (fun _ s₂ h₂ => wpAny_mono h₂ (fun fl s₃ h₃ => ?_) fun _ _ e => e.elim) fun _ _ e => e.elim) fun _ _ e => e.elim
    have fin : ForEnd G D o g L kns leds PP [(I, oI)] i s₃ → ∃ m, m < n - i ∧ ∃ i c h t, s₃ = ⟨h, G, D, t, o⟩ ∧ i ≤ n ∧ m = n - i ∧ PP i c ∧ Sti i h ∧ St g L h (kns i c) (leds i c) := by
      rintro ⟨c', h'', t'', rfl, hP', S₃⟩
      refine ⟨n - (i + 1), by (first | walk_at "om" | omega), i + 1, c', h'', t'', rfl, hlt, rfl, hP', W.frame (i + 1) h' h'' hst' (fun b hb ob e => ?_), S₃.drop fun p hp => List.mem_append_left _ hp⟩
      rcases hfp b hb with rfl | ⟨ob', eg⟩ | ⟨ob', el⟩
      · rw [e1] at e; cases e
        exact (S₃.nw _ (List.mem_append_right _ (.head _))).1
      · have := S'.keep b ob' eg
        rw [this] at e; cases e
        exact S₃.keep b _ eg
      · have := (S'.nw _ (el i c hP)).1
        rw [this] at e; cases e
        exact (S₃.nw _ (List.mem_append_left _ (el (i + 1) c' hP'))).1
    cases fl with
    | brk => exact h₃
    | ret v => exact h₃
    | next => exact fin h₃
    | cont => exact fin h₃
  · have : i = n := by (first | walk_at "om" | omega)
    subst this
    refine W.done _ _ _ hi (fun h' tk' hk => ?_)
    exact wpAny_execs_nil (done c h' tk' hP (after h' hk).1)
theorem r_for {σ : Type} {target : Expr} {body : List Stmt} {Q : Flow → Shared → Prop} {n : Nat} {I : Addr} {fp wr : List Addr} {P : Nat → Value → Prop} {Sti : Nat → Heap → Prop} (W : Walks prog w A I fp wr n P Sti) (clsI : Value)
    (hcls : ∀ i h, Sti i h → ∃ o, h.get? I = some o ∧ o.cls = clsI) (hwr : ∀ b ∈ wr, b = I) (kns : Nat → σ → Kns) (leds : Nat → σ → Led) (PP : Nat → σ → Prop) (c₀ : σ)
    (S : St g L hp (kns 0 c₀) (leds 0 c₀)) (hgI : g.get? I = none) (hLI : I ≠ L) (h0 : PP 0 c₀) (hst : Sti 0 hp)
    (hfp : ∀ b ∈ fp, b = I ∨ (∃ o, g.get? b = some o) ∨ ∃ o, ∀ i c, PP i c → (b, o) ∈ leds i c) (hoff : ∀ i c, PP i c → ∀ p ∈ leds i c, p.2.cls ≠ clsI)
    (turn : ∀ i c v h t oI, i < n → P i v → PP i c → St g L h (kns i c) (leds i c ++ [(I, oI)]) → (∀ p ∈ leds i c, p.1 ≠ I) → oI.cls = clsI →
      wpAny (model prog w) A (letOwnedTupleGo target (.ref I) v) (fun _ s₁ => wpAny (model prog w) A (assign target env v) (fun _ s₂ => wpAny (model prog w) A (execs body env) (ForPost G D o g L kns leds PP [(I, oI)] Q i) NoE s₂) NoE s₁) NoE ⟨h, G, D, t, o⟩)
    (done : ∀ c h t, PP n c → St g L h (kns n c) (leds n c) → Q .next ⟨h, G, D, t, o⟩) :
    codeAny (model prog w) A (.forLoop target (.ref I) body [] env) (fun r s' => match r with | .ok f => Q f s' | .error e => cameBackBy (model prog w) A env NoE e s') ⟨hp, G, D, tk, o⟩ :=
  r_forG (good := fun _ => True) W clsI (fun i h st => (hcls i h st).imp fun _ e => ⟨e.1, e.2, True.intro⟩) hwr kns leds PP c₀ S hgI hLI h0 hst hfp (fun i c hP p hp _ => hoff i c hP p hp) turn done

theorem r_forGo {target iter : Expr} {body : List Stmt} {Q : Flow → Shared → Prop}
    (h : wpAny (model prog w) A (eval iter env) (fun x s₁ => wpAny (model prog w) A (pyIter x) (fun it s₂ =>
      codeAny (model prog w) A (.forLoop target it body [] env) (fun r s' => match r with | .ok f => Q f s' | .error e => cameBackBy (model prog w) A env NoE e s') s₂) NoE s₁) NoE ⟨hp, G, D, tk, o⟩)
    (hs : ∀ x, foldedSetIterable iter env x = pure x) : wpAny (model prog w) A (exec (.For target iter body [] pos) env) Q NoE ⟨hp, G, D, tk, o⟩ := wpAny_For h hs

/-- a name as target -/
theorem r_forName {px : Pos} {it : Value} {Q : Shared → Prop} {E' : Value → Shared → Prop} (S : St g L hp kn led) (hg : g.get? L = none) (h : ∀ h' tk', St g L h' ((x, v) :: kn) led → Q ⟨h', G, D, tk', o⟩) (hL : env.locals = L) (hk : env.scope.kind = .function) (hx : env.kindOf x = some .local) :
    wpAny M A (letOwnedTupleGo (.Name x px) it v) (fun _ s₁ => wpAny M A (assign (.Name x px) env v) (fun _ s₂ => Q s₂) E' s₁) E ⟨hp, G, D, tk, o⟩ := by
  refine wpAny_of_eq (a := ()) rfl ?_
  exact wpAny_assign_Name (r_store S hg (fun h' tk' S' => h h' tk' S') hL hk hx)

/-- a for over a list's items -/
theorem r_forList {σ : Type} {xt : Str} {px : Pos} {body : List Stmt} {Q : Flow → Shared → Prop} {l : Addr} {vs : List Value} {n : Nat} (hh : A.handled = none) (S : St g L hp kn led) (hgL : g.get? L = none) (hl : hp.get? l = some (lo vs n)) (kns : Nat → σ → Kns) (leds : Nat → σ → Led) (PP : Nat → σ → Prop) (c₀ : σ)
    (S0 : KnAll kn (kns 0 c₀)) (hled : leds 0 c₀ = led) (h0 : PP 0 c₀)
    (hfp : (∃ o, g.get? l = some o) ∨ ∀ i c, PP i c → (l, lo vs n) ∈ leds i c) (hoff : ∀ i c, PP i c → ∀ p ∈ leds i c, p.2.cls ≠ .type "list_iterator")
    (turn : ∀ i c v h t I oI, vs[i]? = some v → PP i c → St g L h ((xt, v) :: kns i c) (leds i c ++ [(I, oI)]) → (∀ p ∈ leds i c, p.1 ≠ I) → oI.cls = .type "list_iterator" →
      GenP (ForPost G D o g L kns leds PP [(I, oI)] Q i) fun T => wpAny (model prog w) A (execs body env) T NoE ⟨h, G, D, t, o⟩)
    (done : ∀ c h t, PP vs.length c → St g L h (kns vs.length c) (leds vs.length c) → Q .next ⟨h, G, D, t, o⟩) (hL : env.locals = L) (hk : env.scope.kind = .function) (hx : env.kindOf xt = some .local) :
    wpAny (model prog w) A (pyIter (.ref l)) (fun it s₂ => codeAny (model prog w) A (.forLoop (.Name xt px) it body [] env) (fun r s' => match r with | .ok f => Q f s' | .error e => cameBackBy (model prog w) A env NoE e s') s₂) NoE ⟨hp, G, D, tk, o⟩ := by
  refine wpAny_pyIter_list (isList_of hl) ?_
  have hlt := Heap.lt_size hl
  have up : ∀ b ob, hp.get? b = some ob → (hp.push { cls := .type "list_iterator", data := .fields #[.ref l, .int 0 0] }).get? b = some ob := fun b ob e => Heap.get?_push_of_some _ e
  have W := Walks.list (prog := prog) (w := w) hh hp.objs.size l (Nat.ne_of_lt hlt) vs.toArray
  have hz : vs.toArray.size = vs.length := by simp
  rw [hz] at W
  refine r_for (g := g) (L := L) W (.type "list_iterator") (fun i h st => by obtain ⟨oo, a, b, c⟩ := st.1; exact ⟨oo, a, b⟩) (fun b hb => by simpa using hb) kns leds PP c₀ ((S.keeps up).is S0 hled) (S.none_of_le (Nat.le_refl _)) (Nat.ne_of_gt S.ltL) h0
    ⟨⟨_, Heap.get?_push_size _ rfl, rfl, rfl⟩, (isList_of hl).at fun ob e => up _ _ e⟩ (fun b hb => ?_) hoff (fun i c v h t oI hi hv hP S' off hcl => ?_) done
  · rcases List.mem_cons.mp hb with rfl | hb
    · exact .inl rfl
    · rw [List.mem_singleton.mp hb]
      exact hfp.elim (fun e => .inr (.inl e)) fun e => .inr (.inr ⟨_, e⟩)
  · exact r_forName S' hgL (fun h' tk' S'' => (turn i c v h' tk' _ oI (by simpa using hv) hP S'' off hcl).use) hL hk hx
end
end
set_option compiler.extract_closed false in
local macro_rules | `(tactic| walk_at "v") => `(tactic| first
  | (o_head (exec (Stmt.For _ _ _ _ _) _); refine' r_forGo ?_ ?hs; (case hs => (intro _; rfl))))
section
set_option maxRecDepth 100000
noncomputable def hpop {α : Type} (lt : α → α → Bool) (us : List α) (last : α) : α × List α := match us with
  | [] => (last, [])
  | x :: _ => (x, sup lt (us.set 0 last) 0)
theorem heappop_fn {w : World} {h : Heap} {d : Addr} {n : Nat} {us : List Value} {last : Value} {lt : Value → Value → Bool} (hd : h.get? d = some (lo (us ++ [last]) n)) (hz : us.length + 1 ≤ sizeLine)
    (hc : CmpOk w h [d] lt (us ++ [last])) :
    Fn w 139 3 [.ref d] [d] h (fun r h' => r = (hpop lt us last).1 ∧ h'.get? d = some (lo (hpop lt us last).2 (n + 1))) := by
  have hs24 : sizeLine = 16777216 := rfl
  refine' enter [(Str.ofString "heap", .ref d)] [(d, lo (us ++ [last]) n)] ?ho ?hcd ?hb ?hl ?hkn ?hc ?h1 ?h2 ?h3 ?hled ?_
  walk_at "en"
  case hled => simp [hd]
  intro prog A g hp G D tk o L C gk gn gL S
  repeat walk_at "v"
  refine r_lmeth PySem.F.slot_list_pop PySem.F.type_list_pop (S.mem (.head _)) ?_
  repeat walk_at "v"
  refine r_pop (by assumption) (by simp) (by (first | walk_at "om" | omega)) (fun h' S' => ?_)
  repeat walk_at "v"
  refine wpAny_If ?_
  repeat walk_at "v"
  refine r_truthy (St.mem (by assumption) (.head _)) (by (first | walk_at "om" | omega)) (fun tk' => ?_)
  with_reducible refine ifs (fun hb => ?_) (fun hb => ?_)
  · obtain ⟨x, r, rfl⟩ : ∃ x r, us = x :: r := by
      cases us with
      | nil => simp at hb
      | cons x r => exact ⟨x, r, rfl⟩
    repeat walk_at "v"
    refine r_item (v := x) (St.mem (by assumption) (.head _)) (by decide) (by decide) rfl ?_
    repeat walk_at "v"
    refine r_setitem (j := 0) (by assumption) (by simp) rfl (by simp) (by simp at hz ⊢; (first | walk_at "om" | omega)) (fun h' S' => ?_)
    try dsimp only
    repeat walk_at "v"
    refine r_call C S' (siftup_fn (lt := lt) (S'.mem (.head _)) (by simp at hz ⊢; (first | walk_at "om" | omega)) ((hc.keeps fun b o e n => S'.keep b o (gk b o e n)).sub fun u hu => (List.mem_or_eq_of_mem_set hu).elim (fun m => List.mem_append_left _ m) (fun e => e ▸ by simp)) _ 0 rfl (by simp) _) (Nat.le_refl _) gn (fun v h'' tk' K hp => ⟨hp.1, ?_⟩)
    have S'' := S'.call1 K hp.2 (by simp)
    try dsimp only
    repeat walk_at "v"
    walk_at "x"; exact Ret.intro (by assumption) ⟨rfl, St.mem (by assumption) (.head _)⟩
  · obtain rfl : us = [] := by
      cases us with
      | nil => rfl
      | cons x r => simp at hb
    repeat walk_at "v"
    walk_at "x"; exact Ret.intro (by assumption) ⟨rfl, St.mem (by assumption) (.head _)⟩
end
section
set_option maxRecDepth 100000
section
variable {prog : Program} {w : World} {M : Model} {A : Around} {E : Value → Shared → Prop} {hp g : Heap} {G : Array GenState} {D : Drawn} {tk : Nat} {o : OsState} {L : Addr} {kn : Kns} {led : Led} {env : Env} {k : Nat} {x : Str} {v : Value} {pos : Pos}
theorem r_fdiv {a b : Int} {t u : Tok} {Q : Value → Shared → Prop} (hb : 0 < b) (hl : b.natAbs.log2 < 9000) (h : ∀ t tk', Q (.int (a / b) t) ⟨hp, G, D, tk', o⟩) : wpAny (model prog w) A (binaryOp .FloorDiv (.int a t) (.int b u)) Q E ⟨hp, G, D, tk, o⟩ :=
  floordiv_int (by (first | walk_at "om" | omega)) (by rw [Int.fdiv_eq_ediv_of_nonneg _ (by (first | walk_at "om" | omega))]; exact h _ _) (.inl (PyProof.noPylong_of_log2 hl))
theorem r_mod {a b : Int} {t u : Tok} {Q : Value → Shared → Prop} (hb : 0 < b) (h : ∀ t tk', Q (.int (a % b) t) ⟨hp, G, D, tk', o⟩) : wpAny (model prog w) A (binaryOp .Mod (.int a t) (.int b u)) Q E ⟨hp, G, D, tk, o⟩ :=
  PyProof.Rows.mod_int (by (first | walk_at "om" | omega)) (by rw [Int.fmod_eq_emod_of_nonneg _ (by (first | walk_at "om" | omega))]; exact h _ _)

noncomputable def robj (a b c : Int) (t u v : Tok) : Obj := { cls := .type "range", data := .fields #[.int a t, .int b u, .int c v] }
theorem r_range {n : Int} {t : Tok} {Q : Value → Shared → Prop} (S : St g L hp kn led) (h : ∀ r h' t1 t2 tk', St g L h' kn ((r, robj 0 n 1 t1 t t2) :: led) → (∀ p ∈ led, p.1 < r) → Q (.ref r) ⟨h', G, D, tk', o⟩) :
    wpAny (model prog w) A (call (.type "range") [.int n t]) Q E ⟨hp, G, D, tk, o⟩ :=
  call_range_1 (h _ _ _ _ _ (S.push rfl) S.lt)

theorem code_revrange {r : Addr} {a b c : Int} {t u v : Tok} {Q₁ : Value → Shared → Prop} (hr : hp.get? r = some (robj a b c t u v))
    (hsm : (Builtin.Range.rangeFitsLong a && Builtin.Range.rangeFitsLong b && Builtin.Range.rangeFitsLong c && Builtin.Range.rangeFitsLong (-c) && Builtin.Range.rangeFitsLong (a - c) && Builtin.Range.rangeFitsLong (Builtin.Range.rangeSize a b c)) = true)
    (h : Q₁ (.ref hp.objs.size) ⟨hp.push { cls := .type "range_iterator", data := .fields #[rawInt (a + (Builtin.Range.rangeSize a b c - 1) * c), rawInt (Builtin.Range.rangeSize a b c), rawInt (-c)] }, G, D, tk, o⟩) :
    codeAny (model prog w) A (.call (.builtin "reversed.__new__") ⟨[.type "reversed", .ref r], []⟩) (wants Q₁ E) ⟨hp, G, D, tk, o⟩ := by
  have hT : Shared.TypeIs ⟨hp, G, D, tk, o⟩ (.ref r) "range" := ⟨_, hr, rfl⟩
  refine codeAny_of_tree ?_
  show wpAny _ A.in1 (do checkBuiltinCall "reversed.__new__" ⟨[.type "reversed", .ref r], []⟩; again (.builtin "reversed.__new__" ⟨[.type "reversed", .ref r], []⟩)) _ _ _
  refine wpAny_bind (wpAny_of_eq (F.newCall_reversed_1 _) (wpAny_pure ⟨plainId_quiet F.plain_reversed_new _, codeAny_builtin F.entry_reversed_new ?_⟩))
  rw [Around.under_plainId F.plain_reversed_new _]
  unfold Builtin.«reversed.__new__»
  refine wpAny_bind (wpAny_of_eq (newClass_reversed _) ?_)
  try dsimp only
  refine wpAny_bind (wpAny_of_eq (a := ()) (by first | rfl | kernel_rfl) ?_)
  refine wpAny_bind (wpAny_of_eq (a := ()) (by first | rfl | kernel_rfl) ?_)
  try dsimp only
  refine wpAny_bind (wpAny_specialOf hT F.slot_range_reversed.lookup ?_)
  try dsimp only
  refine wpAny_bind (wpAny_of_eq (F.slot_range_reversed.bind _) ?_)
  try dsimp only
  first
  | rw [if_neg (show ¬ ((Value.builtin "range.__reversed__" == Value.none) = true) from Bool.false_ne_true)]
  | (show wpAny _ _ (if (Value.builtin "range.__reversed__" == Value.none) = true then _ else _) _ _ _; rw [if_neg (show ¬ ((Value.builtin "range.__reversed__" == Value.none) = true) from Bool.false_ne_true)])
  refine wpAny_bind (wpAny_rule ?_)
  have call : wpAny (model prog w) A.in1 (call (.builtin "range.__reversed__") [.ref r]) (fun v s' => v = .ref hp.objs.size ∧ s' = ⟨hp.push { cls := .type "range_iterator", data := .fields #[rawInt (a + (Builtin.Range.rangeSize a b c - 1) * c), rawInt (Builtin.Range.rangeSize a b c), rawInt (-c)] }, G, D, tk, o⟩) (fun e s' => wants Q₁ E (.error e) s') ⟨hp, G, D, tk, o⟩ := by
    refine wpAny_call_entry F.slot_range_reversed hT F.entry_range_reversed ?_ (F.args_range_reversed_1 _)
    unfold Builtin.«range.__reversed__»
    refine wpAny_bind (wpAny_of_eq (a := Value.ref r) rfl ?_)
    unfold Builtin.Range.rangeFields
    refine wpAny_bind (wpAny_bind (wpAny_field (vs := #[.int a t, .int b u, .int c v]) (i := 0) hr rfl rfl ?_))
    refine wpAny_bind (wpAny_of_eq (a := some a) rfl ?_)
    refine wpAny_bind (wpAny_field (vs := #[.int a t, .int b u, .int c v]) (i := 1) hr rfl rfl ?_)
    refine wpAny_bind (wpAny_of_eq (a := some b) rfl ?_)
    refine wpAny_bind (wpAny_field (vs := #[.int a t, .int b u, .int c v]) (i := 2) hr rfl rfl ?_)
    refine wpAny_bind (wpAny_of_eq (a := some c) rfl ?_)
    refine wpAny_pure ?_
    try dsimp only
    rw [hsm]
    simp only [Bool.not_true, Bool.false_eq_true, if_false, if_true]
    exact wpAny_bind (wpAny_newObj_type (wpAny_pure ⟨_, rfl, rfl, rfl⟩))
  refine wpAny_bind (m := runValue (.call (.builtin "range.__reversed__") ⟨[.ref r], []⟩)) (wpAny_mono call (fun v s' q => ?_) fun _ _ e => e)
  obtain ⟨rfl, rfl⟩ := q
  first
  | exact wpAny_pure h
  | exact wpAny_bind (wpAny_pure (wpAny_pure h))
theorem r_revrange {r : Addr} {a b c : Int} {t u v : Tok} {Q : Value → Shared → Prop} (S : St g L hp kn led) (hr : hp.get? r = some (robj a b c t u v))
    (hsm : (Builtin.Range.rangeFitsLong a && Builtin.Range.rangeFitsLong b && Builtin.Range.rangeFitsLong c && Builtin.Range.rangeFitsLong (-c) && Builtin.Range.rangeFitsLong (a - c) && Builtin.Range.rangeFitsLong (Builtin.Range.rangeSize a b c)) = true)
    (h : ∀ I h' tk', St g L h' kn led → g.get? I = none → I ≠ L → (∀ p ∈ led, p.1 < I) → IsRangeIter h' I (a + (Builtin.Range.rangeSize a b c - 1) * c) (Builtin.Range.rangeSize a b c) (-c) → Q (.ref I) ⟨h', G, D, tk', o⟩) :
    wpAny (model prog w) A (call (.type "reversed") [.ref r]) Q E ⟨hp, G, D, tk, o⟩ := by
  refine callType_other (U := "range_iterator") (Q₁ := fun obj s₁ => obj = .ref hp.objs.size ∧ s₁ = ⟨hp.push { cls := .type "range_iterator", data := .fields #[rawInt (a + (Builtin.Range.rangeSize a b c - 1) * c), rawInt (Builtin.Range.rangeSize a b c), rawInt (-c)] }, G, D, tk, o⟩) (by decide +kernel) F.create_reversed ⟨_, _, F.mro_reversed⟩ F.made_reversed (by rw [isSubtype_type]; kernel_rfl) (F.typeCall_reversed_1 _) (code_revrange hr hsm ⟨rfl, rfl⟩) ?_
  rintro obj s₁ ⟨rfl, rfl⟩
  exact ⟨⟨_, Heap.get?_push_size _ rfl, rfl⟩, h _ _ _ (S.keeps fun _ _ e => Heap.get?_push_of_some _ e) (S.none_of_le (Nat.le_refl _)) (Nat.ne_of_gt S.ltL) S.lt (Heap.get?_push_size _ rfl)⟩

/-- a for over a range's iterator, a name as target -/
theorem r_forRI {σ : Type} {xt : Str} {px : Pos} {body : List Stmt} {Q : Flow → Shared → Prop} {I : Addr} {a c : Int} {n : Nat} (hh : A.handled = none) (S : St g L hp kn led) (hgL : g.get? L = none) (hI : IsRangeIter hp I a n c) (hgI : g.get? I = none) (hIL : I ≠ L) (kns : Nat → σ → Kns) (leds : Nat → σ → Led) (PP : Nat → σ → Prop) (c₀ : σ)
    (S0 : KnAll kn (kns 0 c₀)) (hled : leds 0 c₀ = led) (h0 : PP 0 c₀) (hoff : ∀ i c, PP i c → ∀ p ∈ leds i c, p.2.cls ≠ .type "range_iterator")
    (turn : ∀ i d h t u I oI, i < n → PP i d → St g L h ((xt, .int (a + i * c) u) :: kns i d) (leds i d ++ [(I, oI)]) → (∀ p ∈ leds i d, p.1 ≠ I) → oI.cls = .type "range_iterator" →
      GenP (ForPost G D o g L kns leds PP [(I, oI)] Q i) fun T => wpAny (model prog w) A (execs body env) T NoE ⟨h, G, D, t, o⟩)
    (done : ∀ d h t, PP n d → St g L h (kns n d) (leds n d) → Q .next ⟨h, G, D, t, o⟩) (hL : env.locals = L) (hk : env.scope.kind = .function) (hx : env.kindOf xt = some .local) :
    codeAny (model prog w) A (.forLoop (.Name xt px) (.ref I) body [] env) (fun r s' => match r with | .ok f => Q f s' | .error e => cameBackBy (model prog w) A env NoE e s') ⟨hp, G, D, tk, o⟩ := by
  have W := Walks.range (prog := prog) (w := w) hh I a c n
  refine r_for (g := g) (L := L) W (.type "range_iterator") (fun i h st => ⟨_, st, rfl⟩) (fun b hb => by simpa using hb) kns leds PP c₀ (S.is S0 hled) hgI hIL h0 (by simpa using hI) (fun b hb => .inl (by simpa using hb)) hoff (fun i d v h t oI hi hv hP S' off hcl => ?_) done
  obtain ⟨u, rfl⟩ := hv
  exact r_forName S' hgL (fun h' tk' S'' => (turn i d h' tk' u _ oI hi hP S'' off hcl).use) hL hk hx
/-- iterating a range object with written bounds -/
theorem r_iterRange {r : Addr} {a b c : Int} {t u v : Tok} {Q : Value → Shared → Prop} (S : St g L hp kn led) (hr : hp.get? r = some (robj a b c t u v)) (hsm : Builtin.Range.small a b c = true)
    (h : ∀ I h' tk', St g L h' kn led → g.get? I = none → I ≠ L → (∀ p ∈ led, p.1 < I) → IsRangeIter h' I a (Builtin.Range.rangeSize a b c) c → Q (.ref I) ⟨h', G, D, tk', o⟩) :
    wpAny (model prog w) A (pyIter (.ref r)) Q E ⟨hp, G, D, tk, o⟩ :=
  wpAny_pyIter_range hr hsm (h _ _ _ (S.keeps fun _ _ e => Heap.get?_push_of_some _ e) (S.none_of_le (Nat.le_refl _)) (Nat.ne_of_gt S.ltL) S.lt (Heap.get?_push_size _ rfl))
end
end
section
set_option maxRecDepth 100000
theorem sup_len {α : Type} {lt : α → α → Bool} (vs : List α) (pos : Nat) : (sup lt vs pos).length = vs.length := by
  unfold sup
  split
  · rfl
  · rw [sdown_len, List.length_set, sul_len]
theorem sul_mem {α : Type} {lt : α → α → Bool} : ∀ (n : Nat) (vs : List α) (pos : Nat), ∀ v ∈ (sul lt n vs pos).1, v ∈ vs
  | 0, _, _, _, h => h
  | n + 1, vs, pos, v, h => by
    unfold sul at h
    split at h
    · rename_i x hx
      rcases List.mem_or_eq_of_mem_set (sul_mem n _ _ v h) with h' | h'
      · exact h'
      · exact h' ▸ List.mem_of_getElem? hx
    · exact h
theorem sup_mem {α : Type} {lt : α → α → Bool} (vs : List α) (pos : Nat) : ∀ v ∈ sup lt vs pos, v ∈ vs := by
  intro v h
  unfold sup at h
  split at h
  · exact h
  · rename_i it hit
    rcases List.mem_or_eq_of_mem_set (sdown_mem _ _ v h) with h' | h'
    · exact sul_mem _ _ _ v h'
    · exact h' ▸ List.mem_of_getElem? hit
end
set_option compiler.extract_closed false in
local macro_rules | `(tactic| walk_at "v") => `(tactic| first
  | (o_head (binaryOp Operator.FloorDiv (Value.int _ _) (Value.int _ _)); refine r_fdiv (by decide) (by decide) ?_; intro t' tk')
  | (o_head (binaryOp Operator.Mod (Value.int _ _) (Value.int _ _)); refine r_mod (by decide) ?_; intro t' tk'))
section
set_option maxRecDepth 100000
theorem heapify_fn {w : World} {h : Heap} {d : Addr} {n : Nat} {vs : List Value} {lt : Value → Value → Bool} (hd : h.get? d = some (lo vs n)) (h4 : vs.length = 4)
    (hc : CmpOk w h [d] lt vs) :
    Fn w 146 3 [.ref d] [d] h (fun r h' => r = .none ∧ h'.get? d = some (lo (sup lt (sup lt vs 1) 0) n)) := by
  have hs24 : sizeLine = 16777216 := rfl
  refine' enter [(Str.ofString "x", .ref d)] [(d, lo vs n)] ?ho ?hcd ?hb ?hl ?hkn ?hc ?h1 ?h2 ?h3 ?hled ?_
  walk_at "en"
  case hled => simp [hd]
  intro prog A g hp G D tk o L C gk gn gL S
  repeat walk_at "v"
  refine r_len (S.mem (.head _)) (by (first | walk_at "om" | omega)) (fun t tk' => ?_)
  rw [h4]
  repeat walk_at "v"
  refine r_range (by assumption) (fun r h' t1 t2 tk' S' l' => ?_)
  repeat walk_at "v"
  refine r_revrange (by assumption) (S'.mem (.head _)) (by decide) (fun I h'' tk'' S'' gI IL _ it => ?_)
  refine wpAny_pyIter_rangeiter it ?_
  have hr : Builtin.Range.rangeSize 0 (4 / 2) 1 = 2 := by decide
  have S3 := S''.drop (led' := [(d, lo vs n)]) (by simp)
  refine r_forRI (σ := Unit) (g := g) (L := L) (a := 1) (c := -1) (n := 2) C.hh S3 gL it gI IL (fun _ _ => [(Str.ofString "x", .ref d)]) (fun i _ => [(d, lo (match i with | 0 => vs | 1 => sup lt vs 1 | _ => sup lt (sup lt vs 1) 0) n)]) (fun _ _ => True) () (by walk_at "kn") rfl trivial (by simp) ?_ ?_ rfl rfl rfl
  · intro i _ h t u I oI hi _ S off ocl
    have hId : I ≠ d := fun e => off _ (.head _) e.symm
    have hl1 : (sup lt vs 1).length = 4 := by rw [sup_len, h4]
    repeat walk_at "v"
    have key : ∀ (ws xs : List Value) (j : Nat), ws.length = 4 → j < 4 → (∀ v ∈ ws, v ∈ vs) → xs = sup lt ws j → (1 + (i : Int) * -1) = (j : Int) → ∀ hh tt, St g L hh [(Str.ofString "i", .int (1 + (i : Int) * -1) u), (Str.ofString "x", .ref d)] ((d, lo ws n) :: [(I, oI)]) → ∀ (Q' : Value → Shared → Prop),
        (∀ h' tk', St g L h' [(Str.ofString "i", .int (1 + (i : Int) * -1) u), (Str.ofString "x", .ref d)] ((d, lo xs n) :: [(I, oI)]) → Q' .none ⟨h', G, D, tk', o⟩) →
        wpAny (model prog w) A (call (Value.ref 160) [Value.ref d, Value.int (1 + (i : Int) * -1) u]) Q' NoE ⟨hh, G, D, tt, o⟩ := by
      intro ws xs j hw hj hm hx hz hh tt S Q' hQ
      subst hx
      refine r_call C S (siftup_fn (lt := lt) (S.mem (.head _)) (by (first | walk_at "om" | omega)) ((hc.keeps fun b o e n => S.keep b o (gk b o e n)).sub hm) _ j hz (by (first | walk_at "om" | omega)) _) (Nat.le_refl _) gn (fun v h'' tk' K hp => ?_)
      obtain ⟨rfl, hp⟩ := hp
      exact hQ h'' tk' (S.call1 K hp (by simpa using hId))
    have h01 : i = 0 ∨ i = 1 := by (first | walk_at "om" | omega)
    rcases h01 with rfl | rfl
    · refine key vs _ 1 h4 (by decide) (fun _ m => m) rfl (by decide) _ _ S _ (fun h' tk' S' => ⟨rfl, ?_⟩)
      repeat walk_at "v"
      walk_at "x"; exact ForEnd.intro () (S'.is (by walk_at "kn") rfl) trivial
    · refine key (sup lt vs 1) _ 0 hl1 (by decide) (sup_mem _ _) rfl (by decide) _ _ S _ (fun h' tk' S' => ⟨rfl, ?_⟩)
      repeat walk_at "v"
      walk_at "x"; exact ForEnd.intro () (S'.is (by walk_at "kn") rfl) trivial
  · intro _ h t _ S
    try dsimp only at S ⊢
    repeat walk_at "v"
    walk_at "x"; exact Ret.intro S ⟨rfl, S.mem (.head _)⟩
end
section
set_option maxRecDepth 100000
section
variable {prog : Program} {w : World} {M : Model} {A : Around} {E : Value → Shared → Prop} {hp g : Heap} {G : Array GenState} {D : Drawn} {tk : Nat} {o : OsState} {L : Addr} {kn : Kns} {led : Led} {env : Env} {k : Nat} {x y : Str} {v : Value} {pos : Pos} {t u : Tok}
theorem r_strlower {Q : Value → Shared → Prop} (hz : x.length ≤ 5592405) (h : ∀ t tk', Q (.str (Txt.lower x) t) ⟨hp, G, D, tk', o⟩) : wpAny (model prog w) A (call (.builtin "str.lower") [.str x t]) Q E ⟨hp, G, D, tk, o⟩ := SC.lower (fit_lower hz) (h _ _)
theorem r_strfind {Q : Value → Shared → Prop} (h : ∀ t tk', Q (.int (Txt.find x y) t) ⟨hp, G, D, tk', o⟩) : wpAny (model prog w) A (call (.builtin "str.find") [.str x t, .str y u]) Q E ⟨hp, G, D, tk, o⟩ := SC.find (h _ _)
theorem r_strin {Q : Value → Shared → Prop} (h : Q (.bool (Txt.contains x y)) ⟨hp, G, D, tk, o⟩) : wpAny (model prog w) A (compareOp .In (.str y u) (.str x t)) Q E ⟨hp, G, D, tk, o⟩ := P.in_str h
theorem r_streq {Q : Value → Shared → Prop} (h : Q (.bool (x == y)) ⟨hp, G, D, tk, o⟩) : wpAny (model prog w) A (compareOp .Eq (.str x t) (.str y u)) Q E ⟨hp, G, D, tk, o⟩ := PyProof.Rows.eq_str h
theorem r_strne {Q : Value → Shared → Prop} (h : Q (.bool (x != y)) ⟨hp, G, D, tk, o⟩) : wpAny (model prog w) A (compareOp .NotEq (.str x t) (.str y u)) Q E ⟨hp, G, D, tk, o⟩ := PyProof.Rows.ne_str h
theorem r_stradd {Q : Value → Shared → Prop} (hz : x.length + y.length ≤ sizeLine) (h : ∀ t tk', Q (.str (x ++ y) t) ⟨hp, G, D, tk', o⟩) : wpAny (model prog w) A (binaryOp .Add (.str x t) (.str y u)) Q E ⟨hp, G, D, tk, o⟩ := PyProof.Rows.add_str (fun _ _ => h _ _) hz
theorem r_striadd {Q : Value → Shared → Prop} (hz : x.length + y.length ≤ sizeLine) (h : ∀ t tk', Q (.str (x ++ y) t) ⟨hp, G, D, tk', o⟩) : wpAny (model prog w) A (inplaceOp .Add (.str x t) (.str y u)) Q E ⟨hp, G, D, tk, o⟩ := PyProof.Rows.iadd_str (fun _ _ => h _ _) hz
theorem r_strsplit {Q : Value → Shared → Prop} (S : St g L hp kn led) (hy : (y.length == 0) = false) (hz : x.length + 2 ≤ sizeLine)
    (h : ∀ a l h' tk', l.map (·.1) = Txt.split x y → St g L h' kn led → h'.IsList a (strValues l).toArray → Q (.ref a) ⟨h', G, D, tk', o⟩) : wpAny (model prog w) A (call (.builtin "str.split") [.str x t, .str y u]) Q E ⟨hp, G, D, tk, o⟩ := by
  refine SCG.split1 (Fm := fun s => ∃ h' tk', s = ⟨h', G, D, tk', o⟩ ∧ St g L h' kn led) ?_ ⟨hp, tk, rfl, S⟩ hy ?_ (by (first | walk_at "om" | omega)) ?_
  · rintro s ob k ⟨h', tk', rfl, S'⟩
    exact ⟨h'.push ob, k, rfl, S'.keeps fun _ _ e => Heap.get?_push_of_some _ e⟩
  · rintro a l s e ⟨h', tk', rfl, S'⟩ hl
    exact h a l h' tk' e S' hl
  · have e1 := StrLaws.occ_length_le x y 0 x.length (x.length + 1)
    rw [length_partsBetween]; (first | walk_at "om" | omega)
theorem split_ne (x y : Str) : Txt.split x y ≠ [] := by
  unfold Txt.split
  split
  · simp
  · split
    · simp
    · intro e
      have := congrArg List.length e
      rw [length_partsBetween] at this
      simp at this

theorem r_get {xa dx : Addr} {es : List DictEntry} {n : Nat} {name : Str} {attr : Option Value} {expr : Bool} {Q : Value → Shared → Prop} (C : Cx w A g k) (S : St g L hp kn led) (hx : hp.get? xa = some (instObj 76 dx)) (hdx : hp.get? dx = some (dictOf es n))
    (hl : getL name es = some (some v)) (hg : plainGet (pre.heap_1 w.params) 76 name = true) (hh : hasDictIn (pre.heap_1 w.params) 76 = true) (ha : findIn (pre.heap_1 w.params) (.ref 76) name = some attr) (hn : noGet (pre.heap_1 w.params) attr = true)
    (hv : handedIn v = true) (h : ∀ tk', Q v ⟨hp, G, D, tk', o⟩) : wpAny (model prog w) A (getAttr (.ref xa) name expr) Q E ⟨hp, G, D, tk, o⟩ :=
  get_value (s := ⟨hp, G, D, tk, o⟩) (od := some (dictOf es n)) (C.X.keeps S.keep) (I := ⟨hx, rfl, rfl, hdx⟩) (plainGet_of hg).1 (findObj_own (od := dictOf es n) hh ha hn hl) hv (h _)
theorem r_method {xa dx f : Addr} {es : List DictEntry} {n : Nat} {name : Str} {pl : Sem Bool} {Q : Value × List Value → Shared → Prop} (C : Cx w A g k) (S : St g L hp kn led) (hx : hp.get? xa = some (instObj 76 dx)) (hdx : hp.get? dx = some (dictOf es n))
    (hl : getL name es = some none) (hg : plainGet (pre.heap_1 w.params) 76 name = true) (hf : findIn (pre.heap_1 w.params) (.ref 76) name = some (some (.ref f))) (ht : isFn (pre.heap_1 w.params) (.ref f) = true)
    (h : Q (.ref f, [.ref xa]) ⟨hp, G, D, tk, o⟩) : wpAny (model prog w) A (getMethod (.ref xa) name pl) Q E ⟨hp, G, D, tk, o⟩ :=
  method_fn (s := ⟨hp, G, D, tk, o⟩) (od := some (dictOf es n)) (C.X.keeps S.keep) (I := ⟨hx, rfl, rfl, hdx⟩) (plainGet_of hg).1 (plainGet_of hg).2 hf (beq_iff_eq.mp ht) (by show (lookIn name (dictOf es n)).map _ = _; rw [lookIn_dict, hl]; rfl) h
end
end
set_option compiler.extract_closed false in
local macro_rules | `(tactic| walk_at "get") => `(tactic| (refine' r_get ?gC ?gS ?gx ?gd ?gl ?gg ?gh ?ga ?gn ?gv ?_; (case gC | gS => assumption); (case gx | gd => first | assumption | exact St.keep (by assumption) _ _ (by assumption) | exact St.mem (by assumption) (by walk_at "mem")); (case gl => first | assumption | exact rfl); (case gg | gh | ga | gn => k_is); (case gv => exact rfl); intro tk'; (try dsimp only)))
set_option compiler.extract_closed false in
local macro_rules | `(tactic| walk_at "v") => `(tactic| first
  | with_reducible refine r_strin ?_
  | with_reducible refine r_streq ?_
  | with_reducible refine r_strne ?_
  | (with_reducible refine r_strfind ?_; intro t' tk'))
section
set_option maxRecDepth 100000
/-- a name's part ahead of the first slash, in small letters -/
noncomputable def headOf (x : Str) : Str := Txt.lower ((Txt.split x (Str.ofString "/")).headD Str.empty)
noncomputable def meets1 (hd : Str) (a : Str) : Bool := (a != Str.ofString "*") && Txt.contains hd (Txt.lower a)
noncomputable def appl (ags : List Str) (x : Str) : Bool := ags.any (meets1 (headOf x))

theorem applies_fn {w : World} {h : Heap} {xa dx l : Addr} {es : List DictEntry} {m n : Nat} {vs : List Value} {ags : List Str} {x : Str} {t : Tok}
    (hx : h.get? xa = some (instObj 76 dx)) (hdx : h.get? dx = some (dictOf es m)) (hl : getL (Str.ofString "useragents") es = some (some (.ref l))) (hls : h.get? l = some (lo vs n)) (hv : StrsAre vs ags)
    (hz : x.length ≤ 1000) (hza : ∀ a ∈ ags, a.length ≤ 1000) :
    Fn w 66 1 [.ref xa, .str x t] [] h (fun r _ => r = .bool (appl ags x)) := by
  have hs24 : sizeLine = 16777216 := rfl
  refine' enter [(Str.ofString "useragent", .str x t), (Str.ofString "self", .ref xa)] [] ?ho ?hcd ?hb ?hl ?hkn ?hc ?h1 ?h2 ?h3 ?hled ?_
  walk_at "en"
  case hled => simp
  intro prog A g hp G D tk o L C gk gn gL S
  have gx := gk _ _ hx (by simp)
  have gd := gk _ _ hdx (by simp)
  have gl' := gk _ _ hls (by simp)
  repeat walk_at "v"
  refine wpAny_If ?_
  repeat walk_at "v"
  refine is_none ?_
  repeat walk_at "v"
  refine if_ff ?_
  repeat walk_at "v"
  refine r_strsplit (by assumption) (by decide) (by (first | walk_at "om" | omega)) (fun a l' h' tk' e S' hl' => ?_)
  obtain ⟨x0, xr, ex⟩ : ∃ x0 xr, Txt.split x (Str.ofString "/") = x0 :: xr := by
    cases q : Txt.split x (Str.ofString "/") with
    | nil => exact absurd q (split_ne _ _)
    | cons a b => exact ⟨a, b, rfl⟩
  rw [ex] at e
  obtain ⟨t0, lr, rfl, _⟩ := KSpl.cons_of e
  have hx0 : x0.length ≤ x.length := part_short (y := Str.ofString "/") (by rw [ex]; exact .head _)
  repeat walk_at "v"
  refine tail_any hl'.typeIs slot_list_getitem.lookup (wpAny_getItem_list hl' (by decide) (by decide) (x := .str x0 t0) rfl ?_) (by with_unfolding_all rfl)
  repeat walk_at "v"
  refine r_strlower (by (first | walk_at "om" | omega)) (fun t1 tk1 => ?_)
  repeat walk_at "v"
  have hhd : headOf x = Txt.lower x0 := by unfold headOf; rw [ex]; rfl
  walk_at "get"
  refine r_forList (σ := Unit) C.hh (by assumption) gL (St.keep (by assumption) _ _ gl') (fun _ _ => [(Str.ofString "useragent", .str (headOf x) t1), (Str.ofString "self", .ref xa)]) (fun _ _ => []) (fun i _ => (ags.take i).any (meets1 (headOf x)) = false) () (by rw [hhd]; walk_at "kn") rfl (by simp) (.inl ⟨_, gl'⟩) (by simp) ?_ ?_ rfl rfl rfl
  · intro i _ v h t I oI hi hP S off ocl
    obtain ⟨y, ty, rfl, hy⟩ := hv.item i v hi
    have hny : y.length ≤ 1000 := hza y (List.mem_of_getElem? hy)
    have htk : (ags.take (i + 1)).any (meets1 (headOf x)) = meets1 (headOf x) y := by
      rw [List.take_add_one, hy]; simp [hP]
    repeat walk_at "v"
    refine wpAny_If ?_
    repeat walk_at "v"
    with_reducible refine ifs (fun hb => ?_) (fun hb => ?_)
    · repeat walk_at "v"
      refine r_strlower (by (first | walk_at "om" | omega)) (fun t2 tk2 => ?_)
      repeat walk_at "v"
      refine wpAny_If ?_
      repeat walk_at "v"
      with_reducible refine ifs (fun hb' => ?_) (fun hb' => ?_)
      · have hm : meets1 (headOf x) y = true := by unfold meets1; rw [hb, hb']; rfl
        have ha : appl ags x = true := List.any_eq_true.mpr ⟨y, List.mem_of_getElem? hy, hm⟩
        repeat walk_at "v"
        try dsimp only [ForPost]
        walk_at "x"; refine Ret.intro (by assumption) ?_
        rw [ha]; rfl
      · have hm : meets1 (headOf x) y = false := by unfold meets1; rw [hb, hb']; rfl
        repeat walk_at "v"
        walk_at "x"; exact ForEnd.intro () (St.is (by assumption) (by walk_at "kn") rfl) (htk.trans hm)
    · have hm : meets1 (headOf x) y = false := by unfold meets1; rw [hb]; rfl
      repeat walk_at "v"
      walk_at "x"; exact ForEnd.intro () (St.is (by assumption) (by walk_at "kn") rfl) (htk.trans hm)
  · intro _ h t hP S
    repeat walk_at "v"
    walk_at "x"; refine Ret.intro S ?_
    rw [hv.length, List.take_length] at hP
    show _ = Value.bool (appl ags x)
    unfold appl
    rw [hP]; rfl

theorem applies_none_fn {w : World} {h : Heap} {xa dx l : Addr} {es : List DictEntry} {m n : Nat} {vs : List Value} {ags : List Str}
    (hx : h.get? xa = some (instObj 76 dx)) (hdx : h.get? dx = some (dictOf es m)) (hl : getL (Str.ofString "useragents") es = some (some (.ref l))) (hls : h.get? l = some (lo vs n)) (hv : StrsAre vs ags) :
    Fn w 66 1 [.ref xa, .none] [] h (fun r _ => r = .bool (ags.any (· == Str.ofString "*"))) := by
  refine' enter [(Str.ofString "useragent", .none), (Str.ofString "self", .ref xa)] [] ?ho ?hcd ?hb ?hl ?hkn ?hc ?h1 ?h2 ?h3 ?hled ?_
  walk_at "en"
  case hled => simp
  intro prog A g hp G D tk o L C gk gn gL S
  have gx := gk _ _ hx (by simp)
  have gd := gk _ _ hdx (by simp)
  have gl' := gk _ _ hls (by simp)
  repeat walk_at "v"
  refine wpAny_If ?_
  repeat walk_at "v"
  refine is_none ?_
  repeat walk_at "v"
  refine if_tt ?_
  repeat walk_at "v"
  walk_at "get"
  refine in_list_strs (isList_of (St.keep (by assumption) _ _ gl')) hv ?_
  walk_at "x"; exact Ret.intro (by assumption) rfl
end
section
set_option maxRecDepth 100000
set_option maxHeartbeats 0
section
variable {prog : Program} {w : World} {A : Around} {E : Value → Shared → Prop} {s : Shared}
theorem getItem_miss {d : Addr} {K : Type} [DecidableEq K] {knd : KeyKind prog w K} {k : K} {key : Value} {f : K → Option Value} {Q : Value → Shared → Prop} (hkey : knd.is k key = true) (hd : (d == sysModules) = false) (hh : A.handled = none) (hm : s.heap.MapOf knd d f)
    (hp : f k = none) (h : ∀ h' e, Heap.NewExc s.heap h' e "KeyError" → E (.ref e) { s with heap := h', toks := s.toks + 1 }) :
    wpAny (model prog w) A (getItem (.ref d) key) Q E s := by
  unfold getItem
  try with_reducible refine wpAny_holding ?_
  refine wpAny_bind (wpAny_sequenceKey hm.typeIs (by decide) ?_)
  refine wpAny_bind (wpAny_callSpecial?_slot (name := Str.ofString "__getitem__") hm.typeIs slot_dict_getitem
    (wpAny_call_entry slot_dict_getitem hm.typeIs entry_dict_getitem ?_ (args_dict_getitem _ _)))
  show wpAny _ _ (dictGet d key >>= _) _ _ s
  refine wpAny_bind (wpAny_dictGet_of hkey hm ?_)
  rw [hp]
  show wpAny _ _ (Builtin.Dict.missed d key >>= _) _ _ _
  refine wpAny_bind (wpAny_missed_other hd ?_)
  refine wpAny_bind (wpAny_typeOf (s := { s with toks := s.toks + 1 }) hm.typeIs ?_)
  show wpAny _ _ (if (Value.type "dict" != Value.type "dict") = true then _ else _) _ _ _
  rw [if_neg (by decide)]
  exact wpAny_bind (wpAny_rule (wpAny_raise_newExc (A := A.in1) plainExc_KeyError hh h))

theorem tableLookup_miss {d : Addr} {c : Nat} {f : Int → Option Value} {Q : Builtin.Str.Mapped → Shared → Prop} (hd : (d == sysModules) = false) (hh : A.handled = none) (hm : s.heap.MapOf (intKind prog w) d f)
    (hp : f c = none) (h : ∀ h' tk', (∀ b o, s.heap.get? b = some o → h'.get? b = some o) → Q .keep { s with heap := h', toks := tk' }) :
    wpAny (model prog w) A (Builtin.Str.tableLookup (.ref d) c) Q E s := by
  unfold Builtin.Str.tableLookup
  refine wpAny_bind (wpAny_attempt (wpAny_bind (wpAny_mkInt (getItem_miss (intKind_is _ _ _ _) hd hh hm hp (fun h' e hn => ?_)))))
  try dsimp only
  refine wpAny_bind (wpAny_isInstance (T := "KeyError") (b := true) (by obtain ⟨ob, t, a, b, c⟩ := hn.there; exact ⟨ob, a, b⟩) (by rw [isSubtype_type]; kernel_rfl) ?_)
  rw [if_pos rfl]
  exact wpAny_bind (wpAny_rule (wpAny_pure (h _ _ hn.keeps)))

theorem gm_translate {M : Model} {x : Str} {t : Tok} {pl : Sem Bool} {Q : Value × List Value → Shared → Prop} (h : Q (.builtin "str.translate", [.str x t]) s) : wpAny M A (getMethod (.str x t) "translate" pl) Q E s := by
  with_reducible exact GM.of (.str x t) (typeIs_str _ _ _) PySem.F.slot_str_translate PySem.F.type_str_translate GM.noRef h
theorem translate_one {d : Addr} {c : Nat} {t : Tok} {f : Int → Option Value} {Q : Value → Shared → Prop} (hd : (d == sysModules) = false) (hh : A.handled = none) (hc : c < 128) (hm : s.heap.MapOf (intKind prog w) d f)
    (hp : f c = none) (h : ∀ h' t tk', (∀ b o, s.heap.get? b = some o → h'.get? b = some o) → Q (.str ⟨#[c]⟩ t) { s with heap := h', toks := tk' }) :
    wpAny (model prog w) A (call (.builtin "str.translate") [.str ⟨#[c]⟩ t, .ref d]) Q E s := by
  have T : s.TypeIs (.str ⟨#[c]⟩ t) "str" := rfl
  refine wpAny_call_entry PySem.F.slot_str_translate T PySem.F.entry_str_translate ?_ (PySem.F.args_str_translate_2 _ _)
  unfold Builtin.«str.translate»
  refine wpAny_bind (wpAny_of_eq (a := (.str ⟨#[c]⟩ t, ⟨#[c]⟩, .ref d)) rfl ?_)
  try dsimp only
  rw [if_neg (by simp [Str.length])]
  have hall : (Array.all #[c] (fun x => decide (x < 128))) = true := by simp [hc]
  have h0 : Builtin.Str.tooLong 0 = false := by decide
  have h1 : Builtin.Str.tooLong (0 + 1) = false := by decide
  simp only [← Array.forIn_toList, List.forIn_cons, List.forIn_nil, hall, h0, bind_assoc, pure_bind, List.lookup_nil, if_true, Bool.false_eq_true, if_false]
  refine wpAny_bind (tableLookup_miss hd hh hm hp (fun h' tk' hk => ?_))
  simp only [pure_bind, h1, Bool.false_eq_true, if_false]
  refine wpAny_bind (wpAny_mkStr ?_ (by simp [Str.length, sizeLine]))
  exact wpAny_pure ⟨_, rfl, by simpa using h _ _ _ hk⟩
theorem intMap_miss {h : Heap} {d : Addr} {es : List DictEntry} {n : Nat} {c : Int} (e : h.get? d = some (dictOf es n)) (h1 : es.all (fun e => match e.key with | .int i _ => e.hash == hashInt i && i != c | _ => false) = true) :
    ∃ f, h.MapOf (intKind prog w) d f ∧ f c = none := by
  have at_ : ∀ x ∈ es, ∃ i t, x.key = .int i t ∧ x.hash = hashInt i ∧ i ≠ c := fun x hx => by
    have y := List.all_eq_true.mp h1 x hx
    split at y
    · rename_i i t q
      simp only [Bool.and_eq_true, beq_iff_eq, bne_iff_ne] at y
      exact ⟨i, t, q, y.1, y.2⟩
    · cases y
  refine ⟨findBy (intKind prog w).is es.toArray, ⟨_, es.toArray, n, e, ⟨rfl, rfl, rfl⟩, rfl, fun x hx => ?_, fun k => rfl⟩, ?_⟩
  · obtain ⟨i, t, a, b, _⟩ := at_ x (by simpa using hx)
    exact ⟨i, by rw [a]; exact intKind_is _ _ _ _, b⟩
  · unfold findBy
    rw [Array.find?_eq_none.mpr]
    · rfl
    · intro x hx
      obtain ⟨i, t, a, _, b⟩ := at_ x (by simpa using hx)
      rw [a]
      simp [intKind, Value.isInt, b]
end
end
set_option compiler.extract_closed false in
local macro_rules | `(tactic| walk_at "v") => `(tactic| first
  | (o_head (getMethod (Value.str _ _) _ _); with_reducible refine gm_translate ?_))
section
set_option maxRecDepth 100000
set_option maxHeartbeats 0
theorem look {K : Frag} {h : Heap} {a : Addr} {o : Obj} {P : Obj → Prop} (X : K.In h) (e : K.lookup a = some o) (hp : h.get? a = some o → P o) : ∃ o, h.get? a = some o ∧ P o := ⟨o, X _ _ e, hp (X _ _ e)⟩
theorem scm_miss {prog : Program} {w : World} {h : Heap} (X : (pre.heap_1 w.params).In h) {c : Nat} (hc : c = 97 ∨ c = 98 ∨ c = 47) : ∃ f, h.MapOf (intKind prog w) 101 f ∧ f (c : Int) = none := by
  refine' (look (a := 101) (P := fun o => ∃ f, h.MapOf (intKind prog w) 101 f ∧ f (c : Int) = none) X ?e ?_).elim fun _ y => y.2
  case e => k_is
  intro e
  have q := intMap_miss (prog := prog) (w := w) (c := (c : Int)) e (by rcases hc with rfl | rfl | rfl <;> decide +kernel)
  exact q
theorem escape_fn {w : World} {h : Heap} {c : Nat} {t : Tok} (hc : c = 97 ∨ c = 98 ∨ c = 47) : Fn w 111 1 [.str ⟨#[c]⟩ t] [] h (fun r _ => ∃ t, r = .str ⟨#[c]⟩ t) := by
  refine' enter [(Str.ofString "pattern", .str ⟨#[c]⟩ t)] [] ?ho ?hcd ?hb ?hl ?hkn ?hc ?h1 ?h2 ?h3 ?hled ?_
  walk_at "en"
  case hled => simp
  intro prog A g hp G D tk o L C gk gn gL S
  obtain ⟨f, hf1, hf2⟩ := scm_miss (prog := prog) (C.X.keeps S.keep) hc
  repeat walk_at "v"
  refine wpAny_If ?_
  repeat walk_at "v"
  refine call_isinstance_yes (Tx := "str") rfl PySem.F.isi_meta_str PySem.F.sub_str_str ?_
  repeat walk_at "v"
  show wpAny (model prog w) A (call (.builtin "str.translate") [.str ⟨#[c]⟩ t, .ref 101]) _ _ _
  refine translate_one (by decide) C.hh (by (first | walk_at "om" | omega)) hf1 hf2 (fun h' t tk' hk => ?_)
  repeat walk_at "v"
  walk_at "x"; exact Ret.intro (S.keeps hk) ⟨_, rfl⟩
end
section
set_option maxRecDepth 100000
set_option maxHeartbeats 0
noncomputable def bnd (id : String) (v : Value) : Obj := { cls := .type "builtin_function_or_method", data := .fields #[.builtin id, v] }
theorem md_slot_get : Slot "method_descriptor" "__get__" "method_descriptor.__get__" :=
  .of (owner := "method_descriptor") (n := "__get__") (by rw [typeLookup_type, builtinLookup_eq_fast]; kernel_rfl) (by decide +kernel) (by decide +kernel) (by decide +kernel)
    (by first | exact .inl (by decide +kernel) | exact .inr (by decide +kernel)) (by rw [isSubtype_type]; kernel_rfl)
theorem md_no_set : typeLookup (.type "method_descriptor") "__set__" = pure none := by rw [typeLookup_type, builtinLookup_eq_fast]; kernel_rfl
theorem md_no_del : typeLookup (.type "method_descriptor") "__delete__" = pure none := by rw [typeLookup_type, builtinLookup_eq_fast]; kernel_rfl
theorem md_entry_get : entryFor table "method_descriptor.__get__" = some Builtin.«method_descriptor.__get__» := entryFor_of_tree (by kernel_rfl)
theorem md_args_get (a b c : Value) : argsOk "method_descriptor.__get__" ⟨[a, b, c], []⟩ := by unfold argsOk; kernel_rfl
theorem bnd_owner_append : (kfb_private% "nameAndClass") (.builtin "list.append") = pure (Str.ofString "append", .type "list") := by first | decide +kernel | kernel_rfl
theorem bnd_lk_append : typeLookup (.type "list") "append" = pure (some (.builtin "list.append")) := by rw [typeLookup_type, builtinLookup_eq_fast]; kernel_rfl
theorem bnd_sub_list : isSubtype (.type "list") (.type "list") = pure true := by rw [isSubtype_type]; kernel_rfl

section
variable {prog : Program} {w : World} {M : Model} {A : Around} {E : Value → Shared → Prop} {s : Shared} {a : Addr} {o : Obj} {id T : String} {n : Str}
theorem md_get {P : Fin → Shared → Prop} (ho : (kfb_private% "nameAndClass") (.builtin id) = pure (n, .type T)) (hT : s.TypeIs (.ref a) T) (hs : isSubtype (.type T) (.type T) = pure true) (hid : Manifest.toldItsClass.contains id = false)
    (h : P (.done (.ret (.ref s.heap.objs.size))) { s with heap := s.heap.push (bnd id (.ref a)) }) :
    wpAny M A (Builtin.«method_descriptor.__get__» ⟨[.builtin id, .ref a, .type T], []⟩) P E s := by
  unfold Builtin.«method_descriptor.__get__»
  refine wpAny_bind (wpAny_of_eq (a := (.builtin id, some (.ref a), some (.type T))) (by rfl) ?_)
  try dsimp only
  refine KFB.if_not hid ?_
  show wpAny _ _ ((kfb_private% "checkInstance") (.builtin id) (.ref a) >>= fun _ => _) _ _ _
  refine wpAny_bind ?_
  show wpAny _ _ ((kfb_private% "nameAndClass") (.builtin id) >>= fun _ => _) _ _ _
  refine wpAny_bind (wpAny_of_eq ho ?_)
  refine wpAny_bind (wpAny_isInstance hT hs ?_)
  refine KFB.if_not rfl ?_
  refine wpAny_pure ?_
  unfold newFields
  refine wpAny_bind (wpAny_newObj_type (wpAny_pure h))

theorem bnd_get_append {Q : Value → Shared → Prop} {h : Heap} {g : Array GenState} {d : Drawn} {t : Nat} {os : OsState} {vs : List Value} {n : Nat} (hx : h.get? a = some (lo vs n))
    (hq : Q (.ref h.objs.size) ⟨h.push (bnd "list.append" (.ref a)), g, d, t + 1, os⟩) :
    wpAny (model prog w) A (getAttr (.ref a) "append" true) Q E ⟨h, g, d, t, os⟩ := by
  have hT : ∀ tk', (⟨h, g, d, tk', os⟩ : Shared).TypeIs (.ref a) "list" := fun _ => ⟨_, hx, rfl⟩
  have f3 := PySem.F.slot_list_getattribute.lookup
  have f4 := PySem.F.slot_list_getattribute.bind (.ref a)
  have f5 := PySem.F.type_list_append
  have f6 := bnd_lk_append
  unfold getAttr getAttrBy
  repeat (any_goals (walk_at "wp"))
  refine codeAny_call_builtin PySem.F.slot_list_getattribute.plain am_entry_list_getattribute (PySem.F.slot_list_getattribute.check _ _ _ _ _ _ _ _ (hT _) (PySem.F.args_list_getattribute_2 _ _) ?_)
  have f7 := md_slot_get.lookup
  have f8 := md_no_set
  have f9 := md_no_del
  unfold Builtin.«object.__getattribute__»
  repeat (any_goals (walk_at "wp"))
  refine codeAny_call_builtin md_slot_get.plain md_entry_get (md_slot_get.check _ _ _ _ _ _ _ _ (by exact PySem.F.type_list_append) (md_args_get _ _ _) (md_get bnd_owner_append (hT _) bnd_sub_list (by decide +kernel) ?_))
  repeat (any_goals (walk_at "wp"))

theorem bnd_fields {u : Addr} {v : Value} {pos : Pos} {first : List Value} {args : List (Bool × Sem Value)} {Q : Value → Shared → Prop} (hplain : args.any (·.1) = false)
    (h : wpAny M A (evalArgs (.ref u) true args []) (fun x s₁ => s₁.heap.get? u = some (bnd id v) ∧ wpAny M A (call (.ref u) (first ++ x.pos) x.kw) Q E s₁) E s) : wpAny M A (callWith pos (.ref u) first args []) Q E s := by
  unfold callWith
  refine wpAny_bind (wpAny_holding (wpAny_mono h (fun x s₁ h₁ => wpAny_bind (wpAny_standAt ?_)) fun _ _ x => x))
  obtain ⟨ho, hcall⟩ := h₁
  simp only [hplain, List.any_nil, Bool.or_false]
  refine wpAny_bind (m := keeperOf (.ref u)) ?_
  unfold keeperOf
  refine wpAny_bind (wpAny_load ho ?_)
  simp only [bnd, show (Value.type "builtin_function_or_method" != Value.type "method") = true by decide, show (Value.type "builtin_function_or_method" == Value.type "builtin_function_or_method" || Value.type "builtin_function_or_method" == Value.type "method-wrapper") = true by decide, if_true]
  refine wpAny_pure ?_
  exact wpAny_bind (wpAny_mono hcall (fun r s₂ hr => wpAny_bind (wpAny_holding (wpAny_point (wpAny_pure hr)))) fun _ _ x => x)
/-- a bound method of a builtin is called -/
theorem bnd_callWith {u : Addr} {v : Value} {first : List Value} {pos : Pos} {env : Env} {e : Expr} {rest : List Expr} {Q : Value → Shared → Prop}
    (h : wpAny M A (spliced (backTo pos (starEach (e :: rest) env))) (fun vs s₁ => s₁.heap.get? u = some (bnd id v) ∧ wpAny M A (call (.ref u) (first ++ vs)) Q E s₁) E s)
    (he : starEach (e :: rest) env = (false, eval e env) :: starEach rest env) (hplain : (backTo pos (starEach rest env)).any (·.1) = false) :
    wpAny M A (callWith pos (.ref u) first (backTo pos (starEach (e :: rest) env)) []) Q E s := by
  rw [he] at h ⊢
  refine bnd_fields (id := id) (v := v) (by show (false || (backTo pos (starEach rest env)).any (·.1)) = false; rw [hplain]; rfl) ?_
  exact evalArgs_plain h

theorem bnd_call {u : Addr} {v : Value} {args : List Value} {Q : Value → Shared → Prop} {b : Builtin} (ho : s.heap.get? u = some (bnd id v)) (hcheck : wpAny (model prog w) A.in1 (checkBoundCall id ⟨v :: args, []⟩) (fun _ s' => s' = s) (fun _ _ => False) s)
    (hquiet : ∀ as, (Code.builtin id as).quiet = true) (hpl : plainId id = true) (hentry : entryFor table id = some b) (h : wpAny (model prog w) A.in1 (b ⟨v :: args, []⟩) (fun f s' => ∃ r, f = .done (.ret r) ∧ Q r s') E s) :
    wpAny (model prog w) A (call (.ref u) args) Q E s := by
  refine wpAny_call (codeAny_of_tree ?_)
  show wpAny _ A.in1 (callAny (.ref u) ⟨args, []⟩) _ _ s
  simp only [callAny]
  refine wpAny_bind (wpAny_load ho ?_)
  simp only [bnd, show (Value.type "builtin_function_or_method" == Value.type "method" || Value.type "builtin_function_or_method" == Value.type "builtin_function_or_method" || Value.type "builtin_function_or_method" == Value.type "method-wrapper") = true by decide, if_true]
  refine KFB.if_so (by decide) ?_
  refine wpAny_bind (wpAny_mono hcheck (fun _ s' q => ?_) fun _ _ e => e.elim)
  subst q
  refine wpAny_bind (wpAny_pure (wpAny_pure ?_))
  refine ⟨hquiet _, codeAny_builtin hentry ?_⟩
  rw [Around.under_plainId hpl _]
  refine wpAny_mono h (fun f s' hf => ?_) fun _ _ e => e
  obtain ⟨r, rfl, hq⟩ := hf
  exact hq

theorem bnd_append_check (v : Value) (h : Heap) (l : Addr) (vs : List Value) (n : Nat) (e : s.heap.get? l = some (lo vs n)) : wpAny (model prog w) A (checkBoundCall "list.append" ⟨[.ref l, v], []⟩) (fun _ s' => s' = s) (fun _ _ => False) s := by
  have hT : s.TypeIs (.ref l) "list" := ⟨_, e, rfl⟩
  have f1 : isSubtype (.type "list") (.type "module") = pure false := by rw [isSubtype_type]; kernel_rfl
  have f2 : isSubtype (.type "list") (.type "type") = pure false := by rw [isSubtype_type]; kernel_rfl
  unfold checkBoundCall
  repeat (any_goals (walk_at "wp"))
  rfl
end
end
section
set_option maxRecDepth 100000
set_option maxHeartbeats 0
noncomputable def LedAll (led : Led) : Led → Prop
  | [] => True
  | p :: r => p ∈ led ∧ LedAll led r
theorem led_sub {led : Led} : ∀ {led' : Led}, LedAll led led' → ∀ p ∈ led', p ∈ led
  | [], _, _, hp => nomatch hp
  | q :: r, h, p, hp => by
    rcases List.mem_cons.mp hp with rfl | hp
    · exact h.1
    · exact led_sub h.2 p hp
theorem ne_nil {l : Addr} : ∀ p ∈ ([] : Led), p.1 ≠ l := fun _ h => nomatch h
theorem ne_cons {a l : Addr} {ob : Obj} {led : Led} (h : a ≠ l) (hr : ∀ p ∈ led, p.1 ≠ l) : ∀ p ∈ (a, ob) :: led, p.1 ≠ l := fun p hp => by
  rcases List.mem_cons.mp hp with rfl | hp
  · exact h
  · exact hr p hp
theorem ne_lt {a l : Addr} (h : a < l) : a ≠ l := Nat.ne_of_lt h
theorem ne_gt {a l : Addr} (h : l < a) : a ≠ l := Nat.ne_of_gt h
theorem called_object : TypeCalled "object" "object.__new__" "object.__init__" :=
  ⟨by decide, by decide +kernel, ⟨.type "object", [], by kernel_rfl⟩, by kernel_rfl, by decide +kernel, by rw [isSubtype_type]; kernel_rfl, 
   .of (owner := "object") (n := "__init__") (by rw [typeLookup_type, builtinLookup_eq_fast]; kernel_rfl) (by decide +kernel) (by decide +kernel) (by decide +kernel)
    (by first | exact .inl (by decide +kernel) | exact .inr (by decide +kernel)) (by rw [isSubtype_type]; kernel_rfl)⟩
theorem args_object_init (obj : Value) : argsOk "object.__init__" ⟨[obj], []⟩ := by
  unfold argsOk; rw [signature?_of (id := "object.__init__") (n := ['_', '_', 't', 'i', 'n', 'i', '_', '_']) (o := ['t', 'c', 'e', 'j', 'b', 'o']) (by kernel_rfl) PySem.F.owner_object]; kernel_rfl
noncomputable def plainObj : Obj := { cls := .type "object", data := .plain }
theorem meets_object_new : Meets (Builtin.«object.__new__» ⟨[.type "object"], []⟩) (fun _ R s => R (.ok (.ret (.ref s.heap.objs.size))) { s with heap := s.heap.push plainObj }) :=
  Meets.of_wp fun prog w A R s h => by
    have hsub : isSubtype (.type "object") (.type "object") = pure true := by rw [isSubtype_type]; kernel_rfl
    obtain ⟨hp, g, d, tk, os⟩ := s
    have hm : Bind.madeHere "object.__new__" (.type "object") = pure () := by kernel_rfl
    have ht : isType (.type "object") = pure true := by first | rfl | kernel_rfl
    unfold Builtin.«object.__new__»
    refine wpAny_bind (wpAny_of_eq ht ?_)
    refine KFB.if_not rfl ?_
    refine KFB.if_not (by decide +kernel) ?_
    refine wpAny_bind (wpAny_of_eq hm ?_)
    repeat (any_goals (walk_at "wp"))
    exact ⟨_, rfl, h⟩
theorem meets_object_init (obj : Value) : Meets (Builtin.«object.__init__» ⟨[obj], []⟩) (fun _ R s => R (.ok (.ret .none)) s) :=
  Meets.of_wp fun prog w A R s h => by
    obtain ⟨hp, g, d, tk, os⟩ := s
    unfold Builtin.«object.__init__»
    repeat (any_goals (walk_at "wp"))
    exact ⟨_, rfl, h⟩
theorem typeCall_object : checkTypeCall "object" ⟨[], []⟩ = pure () := by kernel_rfl
theorem newCall_object : checkBuiltinCall "object.__new__" ⟨[.type "object"], []⟩ = pure () := by kernel_rfl
section
variable {prog : Program} {w : World} {M : Model} {A : Around} {E : Value → Shared → Prop} {hp g : Heap} {G : Array GenState} {D : Drawn} {tk : Nat} {o : OsState} {L : Addr} {kn : Kns} {led : Led} {env : Env} {k : Nat} {x y : Str} {v : Value} {pos : Pos} {t u : Tok}
theorem St.new (S : St g L hp kn led) {ob : Obj} (hf : ob.isFreed = false) : St g L (hp.push ob) kn ((hp.objs.size, ob) :: led) ∧ (∀ p ∈ led, p.1 < hp.objs.size) ∧ L < hp.objs.size ∧ g.get? hp.objs.size = none :=
  ⟨S.push hf, S.lt, S.ltL, S.none_of_le (Nat.le_refl _)⟩
theorem St.call_new {h' : Heap} {a : Addr} {ob : Obj} (S : St g L hp kn led) (K : KB [] hp h') (hl : h'.get? a = some ob) (h0 : hp.get? a = none) : St g L h' kn ((a, ob) :: led) ∧ (∀ p ∈ led, p.1 ≠ a) ∧ g.get? a = none := by
  have gl : g.get? a = none := by
    cases q : g.get? a with
    | none => rfl
    | some ob => rw [S.keep _ _ q] at h0; cases h0
  refine ⟨(S.call0 K).add hl gl ?_, fun p hp q => ?_, gl⟩
  · rintro rfl
    obtain ⟨m, ⟨ol, es, ep, e, _⟩, _⟩ := S.ns
    rw [e] at h0; cases h0
  · have := (S.nw p hp).1
    rw [q, h0] at this; cases this
theorem St.to {kn' : Kns} {led' : Led} (S : St g L hp kn led) (hk : KnAll kn kn') (hl : LedAll led led') : St g L hp kn' led' := (S.re (kn_sub hk)).drop (led_sub hl)
theorem r_object {Q : Value → Shared → Prop} (S : St g L hp kn led) (h : ∀ a h', St g L h' kn ((a, plainObj) :: led) → (∀ p ∈ led, p.1 < a) → L < a → g.get? a = none → Q (.ref a) ⟨h', G, D, tk, o⟩) :
    wpAny (model prog w) A (call (.type "object") []) Q E ⟨hp, G, D, tk, o⟩ := by
  obtain ⟨a, b, c, d⟩ := S.new (ob := plainObj) rfl
  refine callType_meets called_object typeCall_object newCall_object PySem.F.entry_object_new PySem.F.entry_object_init meets_object_new (Q₁ := fun r s₁ => r = .ref hp.objs.size ∧ s₁ = ⟨hp.push plainObj, G, D, tk, o⟩) ⟨rfl, rfl⟩ ?_
  rintro obj s₁ ⟨rfl, rfl⟩
  refine ⟨⟨plainObj, Heap.get?_push_size _ rfl, rfl⟩, args_object_init _, _, meets_object_init _, ⟨rfl, h _ _ a b c d⟩⟩
theorem r_newList {vs : List Value} {Q : Value → Shared → Prop} (S : St g L hp kn led) (hz : vs.length ≤ sizeLine) (h : ∀ a h', St g L h' kn ((a, lo vs 0) :: led) → (∀ p ∈ led, p.1 < a) → L < a → g.get? a = none → Q (.ref a) ⟨h', G, D, tk, o⟩) :
    wpAny M A (newList vs) Q E ⟨hp, G, D, tk, o⟩ := by
  obtain ⟨a, b, c, d⟩ := S.new (ob := lo vs 0) rfl
  unfold newList
  exact wpAny_newObj_type (h _ _ a b c d) (show vs.toArray.size ≤ sizeLine by simpa using hz)
theorem r_newTuple {vs : List Value} {Q : Value → Shared → Prop} (S : St g L hp kn led) (hz : vs.length ≤ sizeLine) (h : ∀ a h', St g L h' kn ((a, tu vs) :: led) → (∀ p ∈ led, p.1 < a) → L < a → g.get? a = none → Q (.ref a) ⟨h', G, D, tk, o⟩) :
    wpAny M A (newTuple vs) Q E ⟨hp, G, D, tk, o⟩ := by
  obtain ⟨a, b, c, d⟩ := S.new (ob := tu vs) rfl
  unfold newTuple
  exact wpAny_newObj_type (h _ _ a b c d) (show vs.toArray.size ≤ sizeLine by simpa using hz)
theorem r_bndappend {l : Addr} {vs : List Value} {n : Nat} {Q : Value → Shared → Prop} (S : St g L hp kn led) (hx : hp.get? l = some (lo vs n)) (h : ∀ a h' tk', St g L h' kn ((a, bnd "list.append" (.ref l)) :: led) → (∀ p ∈ led, p.1 < a) → L < a → g.get? a = none → Q (.ref a) ⟨h', G, D, tk', o⟩) :
    wpAny (model prog w) A (getAttr (.ref l) "append" true) Q E ⟨hp, G, D, tk, o⟩ := by
  obtain ⟨a, b, c, d⟩ := S.new (ob := bnd "list.append" (.ref l)) rfl
  exact bnd_get_append hx (h _ _ _ a b c d)
theorem r_addcall {l a : Addr} {vs : List Value} {n : Nat} {Q : Value → Shared → Prop} (S : St g L hp kn ((l, lo vs n) :: led)) (hm : (a, bnd "list.append" (.ref l)) ∈ led) (hne : ∀ p ∈ led, p.1 ≠ l) (hz : vs.length ≤ sizeLine)
    (h : ∀ h', St g L h' kn ((l, lo (vs ++ [v]) (n + 1)) :: led) → Q .none ⟨h', G, D, tk, o⟩) : wpAny (model prog w) A (call (.ref a) [v]) Q E ⟨hp, G, D, tk, o⟩ := by
  have ho := S.mem (.head _)
  refine bnd_call (S.mem (.tail _ hm)) (bnd_append_check v hp l vs n ho) (fun _ => Code.quiet_builtin _ (by decide +kernel)) (by decide +kernel) PySem.F.entry_list_append ?_
  show wpAny _ _ (updateSeq l (·.push v) >>= fun _ => ret .none) _ _ _
  refine wpAny_bind ?_
  refine wpAny_updateSeq ho rfl (wpAny_pure ⟨.none, rfl, h _ (S.set (Heap.SameBut.update ..) ?_ hne)⟩)
  rw [Heap.get?_update_self _ ho (by rw [mapSeq_push]; rfl), mapSeq_push]
  simp
theorem r_addcw {l a : Addr} {first : List Value} {e : Expr} {rest : List Expr} {Q : Value → Shared → Prop}
    (h : wpAny M A (spliced (backTo pos (starEach (e :: rest) env))) (fun vs s₁ => s₁.heap.get? a = some (bnd "list.append" (.ref l)) ∧ wpAny M A (call (.ref a) (first ++ vs)) Q E s₁) E ⟨hp, G, D, tk, o⟩)
    (he : starEach (e :: rest) env = (false, eval e env) :: starEach rest env) (hplain : (backTo pos (starEach rest env)).any (·.1) = false) :
    wpAny M A (callWith pos (.ref a) first (backTo pos (starEach (e :: rest) env)) []) Q E ⟨hp, G, D, tk, o⟩ := bnd_callWith h he hplain
theorem r_unpackItems {t : Addr} {vs : List Value} {n : Nat} {Q : List Value → Shared → Prop} (S : St g L hp kn led) (ht : hp.get? t = some (tu vs)) (hh : A.handled = none) (hn : n = vs.length) (h : ∀ h', St g L h' kn led → Q vs ⟨h', G, D, tk, o⟩) :
    wpAny (model prog w) A (unpackItems (.ref t) n none) Q E ⟨hp, G, D, tk, o⟩ := by
  subst hn
  have hT : IsTup hp t vs.toArray := ⟨_, ht, rfl, _, rfl⟩
  have hlt : ∀ b ob, hp.get? b = some ob → b ≠ hp.objs.size := fun b ob e => Nat.ne_of_lt (Heap.lt_size e)
  have := unpackItems_tuple (s := ⟨hp, G, D, tk, o⟩) (prog := prog) (w := w) (A := A) (E := E) (Q := Q) hh hT (fun h' he => by
    have := h h' (S.keeps fun b ob e => he b ob (hlt b ob e) e)
    simpa using this)
  simpa using this
end
end
section
set_option maxRecDepth 100000
set_option maxHeartbeats 0
/-- the parts that a pattern of stars and plain signs falls into -/
noncomputable def tstep (ps : List (Option Nat)) (c : Nat) : List (Option Nat) := if c = 42 then (if ps.getLast? = some none then ps else ps ++ [none]) else ps ++ [some c]
noncomputable def tparts (s : List Nat) : List (Option Nat) := s.foldl tstep []
theorem nil_or_snoc {α : Type} (vs : List α) : vs = [] ∨ ∃ us v, vs = us ++ [v] := by
  rcases List.eq_nil_or_concat vs with h | ⟨us, v, h⟩
  · exact .inl h
  · exact .inr ⟨us, v, by rw [h]; simp⟩
noncomputable def PartIs (star : Addr) (v : Value) : Option Nat → Prop
  | none => v = .ref star
  | some c => ∃ t, v = .str ⟨#[c]⟩ t
noncomputable def PartsAre (star : Addr) : List Value → List (Option Nat) → Prop
  | [], [] => True
  | v :: vs, p :: ps => PartIs star v p ∧ PartsAre star vs ps
  | _, _ => False
theorem PartsAre.len {star : Addr} : ∀ {vs : List Value} {ps : List (Option Nat)}, PartsAre star vs ps → vs.length = ps.length
  | [], [], _ => rfl
  | _ :: _, _ :: _, h => congrArg (· + 1) (PartsAre.len h.2)
  | [], _ :: _, h => h.elim
  | _ :: _, [], h => h.elim
theorem PartsAre.snoc {star : Addr} {v : Value} {p : Option Nat} (hp : PartIs star v p) : ∀ {vs : List Value} {ps : List (Option Nat)}, PartsAre star vs ps → PartsAre star (vs ++ [v]) (ps ++ [p])
  | [], [], _ => ⟨hp, trivial⟩
  | _ :: _, _ :: _, h => ⟨h.1, PartsAre.snoc hp h.2⟩
  | [], _ :: _, h => h.elim
  | _ :: _, [], h => h.elim
theorem PartsAre.at {star : Addr} : ∀ {vs : List Value} {ps : List (Option Nat)} {i : Nat} {v : Value}, PartsAre star vs ps → vs[i]? = some v → ∃ p, ps[i]? = some p ∧ PartIs star v p
  | [], [], _, _, _, e => by simp at e
  | _ :: _, _ :: _, 0, _, h, e => by simp at e; exact ⟨_, rfl, e ▸ h.1⟩
  | _ :: _, _ :: _, i + 1, _, h, e => by simp at e; exact PartsAre.at (i := i) h.2 e
  | [], _ :: _, _, _, h, _ => h.elim
  | _ :: _, [], _, _, h, _ => h.elim
section
variable {prog : Program} {w : World} {M : Model} {A : Around} {E : Value → Shared → Prop} {hp g : Heap} {G : Array GenState} {D : Drawn} {tk : Nat} {o : OsState} {L : Addr} {kn : Kns} {led : Led} {env : Env} {k : Nat} {x y : Str} {v : Value} {pos : Pos} {t u : Tok}
theorem r_bind2 {f f' : Value → Sem Unit} {a b : Value} {s : Shared} {Q : Unit → Shared → Prop} (h : wpAny M A (f b) (fun _ s₁ => wpAny M A (f' a) Q E s₁) E s) : wpAny M A (assignInOrder [f, f'] [a, b].reverse) Q E s :=
  assignInOrder_cons (wpAny_mono h (fun _ _ x => assignInOrder_cons (wpAny_mono x (fun _ _ y => assignInOrder_nil y) fun _ _ e => e)) fun _ _ e => e)
theorem r_swap2 {n1 n2 : Str} {p1 p2 tpos : Pos} {value : Expr} {k : Nat} {s : Shared} {Q : Flow → Shared → Prop}
    (h : wpAny M A (eval value env) (fun v s₁ => wpAny M A (unpackItems v 2 none) (fun items s₂ => wpAny M A (assignInOrder [fun v => bindName env n2 v, fun v => bindName env n1 v] items.reverse) (fun _ => Q .next) E s₂) E s₁) E s)
    (hs : swapsWithSole [.Tuple [.Name n1 p1, .Name n2 p2] k tpos] value pos.line env = pure false)
    (hw : swappedStores [.Tuple [.Name n1 p1, .Name n2 p2] k tpos] value env = pure (some [n1, n2])) :
    wpAny M A (exec (.Assign [.Tuple [.Name n1 p1, .Name n2 p2] k tpos] value pos) env) Q E s :=
  Assign_Tuple_swapped (names := [n1, n2]) (by simpa only [List.length_cons, List.length_nil, List.reverse_cons, List.reverse_nil, List.nil_append, List.cons_append, List.map_cons, List.map_nil] using h) hs hw
theorem r_neg {a : Int} {t : Tok} {Q : Value → Shared → Prop} (h : ∀ t tk', Q (.int (-a) t) ⟨hp, G, D, tk', o⟩) : wpAny (model prog w) A (unaryOp .USub (.int a t)) Q E ⟨hp, G, D, tk, o⟩ := PyProof.Rows.neg_int (h _ _)
theorem r_itemlast {value slice : Expr} {l : Addr} {vs : List Value} {n : Nat} {u : Tok} {v : Value} {Q : Value → Shared → Prop}
    (hl : hp.get? l = some (lo (vs ++ [v]) n)) (h : Q v ⟨hp, G, D, tk, o⟩)
    (hs : subscripted slice false (.ref l) (.int (-1) u) = operate [.ref l, .int (-1) u] (getItem (.ref l) (.int (-1) u)) := by with_unfolding_all rfl) :
    wpAny (model prog w) A (subscriptTail value slice (.ref l) (.int (-1) u)) Q E ⟨hp, G, D, tk, o⟩ :=
  tail_any (isList_of hl).typeIs slot_list_getitem.lookup (wpAny_getItem_list_neg (x := v) (isList_of hl) (by decide) (by simp; (first | walk_at "om" | lia | omega)) (by decide) (by
    have : ((-1 : Int) + ((vs ++ [v]).toArray.size : Nat)).toNat = vs.length := by simp; (first | walk_at "om" | lia | omega)
    rw [this]; simp) h) hs
theorem r_isnot_part {star : Addr} {q : Option Nat} {Q : Value → Shared → Prop} (hq : PartIs star v q) (h : Q (.bool (q != none)) ⟨hp, G, D, tk, o⟩) : wpAny M A (compareOp .IsNot v (.ref star)) Q E ⟨hp, G, D, tk, o⟩ := by
  cases q with
  | none => cases hq; exact wpAny_isNot_ref_self h
  | some c => obtain ⟨t, rfl⟩ := hq; exact wpAny_isNot_other rfl (by simp) h
theorem r_is_part {star : Addr} {q : Option Nat} {Q : Value → Shared → Prop} (hq : PartIs star v q) (h : Q (.bool (q == none)) ⟨hp, G, D, tk, o⟩) : wpAny M A (compareOp .Is v (.ref star)) Q E ⟨hp, G, D, tk, o⟩ := by
  cases q with
  | none => cases hq; exact wpAny_is_ref_self h
  | some c => obtain ⟨t, rfl⟩ := hq; exact wpAny_is_other rfl (by simp) h
theorem r_strlen {Q : Value → Shared → Prop} (hz : x.length < 2 ^ 62) (h : ∀ t tk', Q (.int x.length t) ⟨hp, G, D, tk', o⟩) : wpAny (model prog w) A (call (.builtin "len") [.str x t]) Q E ⟨hp, G, D, tk, o⟩ := PyProof.Rows.len_str (by (first | walk_at "om" | lia | omega)) (h _ _)
theorem r_stritem {value slice : Expr} {i c : Nat} {Q : Value → Shared → Prop} (hi : x.cps[i]? = some c) (hz : x.length < 2 ^ 62) (h : ∀ t tk', Q (.str ⟨#[c]⟩ t) ⟨hp, G, D, tk', o⟩)
    (hs : subscripted slice false (.str x t) (.int i u) = operate [.str x t, .int i u] (getItem (.str x t) (.int i u)) := by with_unfolding_all rfl) :
    wpAny (model prog w) A (subscriptTail value slice (.str x t) (.int i u)) Q E ⟨hp, G, D, tk, o⟩ := by
  have hlt : i < x.length := (Array.getElem?_eq_some_iff.mp hi).1
  refine tail_any (typeIs_str _ _ _) PySem.F.slot_str_getitem.lookup (PyProof.Rows.getItem_str (i := (i : Int)) (c := c) ?_ ?_ (h _ _)) hs
  · simp only [Bool.or_eq_false_iff, decide_eq_false_iff_not]; (first | walk_at "om" | lia | omega)
  · unfold seqIndex?
    have h1 : ¬ ((i : Int) < 0) := by (first | walk_at "om" | lia | omega)
    simp only [h1, if_false]
    rw [if_pos (by simp; (first | walk_at "om" | lia | omega))]
    simpa using hi
end
noncomputable def Plain4 (c : Nat) : Prop := c = 42 ∨ c = 97 ∨ c = 98 ∨ c = 47
theorem one_eq (c d : Nat) : (({ cps := #[c] } : Str) == { cps := #[d] }) = decide (c = d) := by
  by_cases h : c = d
  · subst h; simp
  · simp [h]
end
set_option compiler.extract_closed false in
local macro_rules | `(tactic| walk_at "st") => `(tactic| (refine' St.to ?stS ?stk ?stl; (case stS => assumption); (case stk => walk_at "kn"); (case stl => walk_at "led")))
set_option compiler.extract_closed false in
local macro_rules | `(tactic| walk_at "ne") => `(tactic| ((repeat (refine ne_cons ?nx ?_; (case nx => first | assumption | exact ne_lt (by assumption) | exact ne_gt (by assumption) | exact Ne.symm (by assumption)))); exact ne_nil))
set_option compiler.extract_closed false in
local macro_rules | `(tactic| walk_at "v") => `(tactic| first
  | (o_head (exec (Stmt.Assign [Expr.Tuple _ _ _] _ _) _); refine' r_swap2 ?_ ?hs ?hw; (case hs | hw => exact rfl))
  | (o_head (assignInOrder _ _); (with_reducible refine r_bind2 ?_))
  | (with_reducible refine r_neg ?_; intro t' tk'))
section
set_option maxRecDepth 100000
set_option maxHeartbeats 0
theorem translate1_fn {w : World} {h : Heap} {x : Str} {t tq : Tok} {q : Str} {star : Addr} (hst : h.get? star = some plainObj) (hx : ∀ c ∈ x.cps, Plain4 c) (hz : x.length ≤ 1000) :
    Fn w 118 2 [.str x t, .ref star, .str q tq] [] h (fun r h' => ∃ l vs n, r = .ref l ∧ h'.get? l = some (lo vs n) ∧ h.get? l = none ∧ PartsAre star vs (tparts x.cps.toList)) := by
  have hs24 : sizeLine = 16777216 := rfl
  refine' enter [(Str.ofString "QUESTION_MARK", .str q tq), (Str.ofString "STAR", .ref star), (Str.ofString "pat", .str x t)] [] ?ho ?hcd ?hb ?hl ?hkn ?hc ?h1 ?h2 ?h3 ?hled ?_
  walk_at "en"
  case hled => simp
  intro prog A g hp G D tk o L C gk gn gL S
  have gst := gk _ _ hst (by simp)
  repeat walk_at "v"
  refine r_newList (by assumption) (by simp [hs24]) (fun l hp1 S l1 l2 l3 => ?_)
  repeat walk_at "v"
  refine r_bndappend (by assumption) (St.mem (by assumption) (.head _)) (fun a hp2 tk' S a1 a2 a3 => ?_)
  repeat walk_at "v"
  have hla : l < a := a1 _ (.head _)
  refine r_strlen (by (first | walk_at "om" | lia | omega)) (fun t3 tk3 => ?_)
  repeat walk_at "v"
  refine r_newTuple (by assumption) (by simp [hs24]) (fun a4 hp4 S _ _ _ => ?_)
  repeat walk_at "v"
  refine r_unpackItems (by assumption) (S.mem (.head _)) C.hh rfl (fun hp5 S => ?_)
  repeat walk_at "v"
  refine r_while (g := g) (L := L) (σ := Nat × List Value × Nat × Tok) (fun c => [(Str.ofString "i", .int c.1 c.2.2.2), (Str.ofString "n", .int x.length t3), (Str.ofString "add", .ref a), (Str.ofString "res", .ref l), (Str.ofString "STAR", .ref star), (Str.ofString "pat", .str x t)]) (fun c => [(l, lo c.2.1 c.2.2.1), (a, bnd "list.append" (.ref l))])
    (fun c => c.1 ≤ x.length ∧ c.2.1.length ≤ c.1 ∧ PartsAre star c.2.1 (tparts (x.cps.toList.take c.1))) (fun c => x.length - c.1) (0, [], 0, _) (by walk_at "st") ⟨Nat.zero_le _, Nat.le_refl _, trivial⟩ ?_
  rintro ⟨i, vs, n, ti⟩ h₂ t' ⟨i1, i2, i3⟩ S
  try dsimp only at i1 i2 i3 S ⊢
  repeat walk_at "v"
  with_reducible refine ifs (fun hb => ?_) (fun hb => ?_)
  · have hi : i < x.length := by have := of_decide_eq_true hb; (first | walk_at "om" | lia | omega)
    obtain ⟨c, hc⟩ : ∃ c, x.cps[i]? = some c := ⟨_, Array.getElem?_eq_getElem hi⟩
    have hc4 := hx c (Array.mem_of_getElem? hc)
    have htk : x.cps.toList.take (i + 1) = x.cps.toList.take i ++ [c] := by
      rw [List.take_add_one]; simp [hc]
    have hps : tparts (x.cps.toList.take (i + 1)) = tstep (tparts (x.cps.toList.take i)) c := by rw [htk]; simp [tparts]
    repeat walk_at "v"
    refine r_stritem hc (by (first | walk_at "om" | lia | omega)) (fun tc tkc => ?_)
    repeat walk_at "v"
    refine wpAny_If ?_
    repeat walk_at "v"
    with_reducible refine ifs (fun hb2 => ?_) (fun hb2 => ?_)
    · have hc42 : c = 42 := by rw [show (Str.ofString "*") = ⟨#[42]⟩ from rfl, one_eq] at hb2; exact of_decide_eq_true hb2
      subst hc42
      repeat walk_at "v"
      refine wpAny_If ?_
      repeat walk_at "v"
      have ht : tstep (tparts (x.cps.toList.take i)) 42 = if (tparts (x.cps.toList.take i)).getLast? = some none then tparts (x.cps.toList.take i) else tparts (x.cps.toList.take i) ++ [none] := by unfold tstep; simp
      have hln := i3.len
      rcases nil_or_snoc vs with rfl | ⟨us, v, rfl⟩
      · have hp0 : tparts (x.cps.toList.take i) = [] := List.length_eq_zero_iff.mp hln.symm
        refine r_truthy (St.mem (by assumption) (.head _)) (by simp) (fun tk6 => ?_)
        refine if_tt ?_
        repeat walk_at "v"
        refine r_addcw (l := l) ?_ rfl rfl
        repeat walk_at "v"
        refine ⟨St.mem (by assumption) (by walk_at "mem"), ?_⟩
        refine r_addcall (by assumption) (.head _) (by walk_at "ne") (by simp [hs24]) (fun h7 S7 => ⟨rfl, ?_⟩)
        repeat walk_at "v"
        walk_at "x"; refine TurnEnd.intro (i + 1, [.ref star], n + 1, _) (by walk_at "st") ⟨hi, by simp, ?_⟩ (by dsimp only; (first | walk_at "om" | lia | omega))
        rw [hps, ht, hp0]
        exact ⟨rfl, trivial⟩
      · obtain ⟨p, hp1, hp2⟩ := i3.at (i := us.length) (v := v) (by simp)
        have hlast : (tparts (x.cps.toList.take i)).getLast? = some p := by
          rw [List.getLast?_eq_getElem?, ← hln]
          simpa using hp1
        refine r_truthy (St.mem (by assumption) (.head _)) (by simp at i2 ⊢; (first | walk_at "om" | lia | omega)) (fun tk6 => ?_)
        rw [show (us ++ [v]).isEmpty = false from by simp]
        refine if_ff ?_
        repeat walk_at "v"
        refine r_itemlast (St.mem (by assumption) (.head _)) ?_
        repeat walk_at "v"
        refine r_isnot_part hp2 ?_
        repeat walk_at "v"
        with_reducible refine ifs (fun hb3 => ?_) (fun hb3 => ?_)
        · have hpn : p ≠ none := by simpa using hb3
          repeat walk_at "v"
          refine r_addcw (l := l) ?_ rfl rfl
          repeat walk_at "v"
          refine ⟨St.mem (by assumption) (by walk_at "mem"), ?_⟩
          refine r_addcall (by assumption) (.head _) (by walk_at "ne") (by simp at i2 ⊢; (first | walk_at "om" | lia | omega)) (fun h7 S7 => ⟨rfl, ?_⟩)
          repeat walk_at "v"
          walk_at "x"; refine TurnEnd.intro (i + 1, us ++ [v] ++ [.ref star], n + 1, _) (by walk_at "st") ⟨hi, by simp at i2 ⊢; (first | walk_at "om" | lia | omega), ?_⟩ (by dsimp only; (first | walk_at "om" | lia | omega))
          rw [hps, ht, hlast, if_neg (by simpa using hpn)]
          exact i3.snoc (show PartIs star (.ref star) none from rfl)
        · have hpn : p = none := by simpa using hb3
          repeat walk_at "v"
          walk_at "x"; refine TurnEnd.intro (i + 1, us ++ [v], n, _) (by walk_at "st") ⟨hi, by simp at i2 ⊢; (first | walk_at "om" | lia | omega), ?_⟩ (by dsimp only; (first | walk_at "om" | lia | omega))
          rw [hps, ht, hlast, if_pos (by rw [hpn])]
          exact i3
    · have hc42 : c ≠ 42 := by rw [show (Str.ofString "*") = ⟨#[42]⟩ from rfl, one_eq] at hb2; exact of_decide_eq_false hb2
      have hc3 : c = 97 ∨ c = 98 ∨ c = 47 := by rcases hc4 with h | h; exact absurd h hc42; exact h
      have one_eq' : ∀ d : Nat, d ≠ c → (({ cps := #[c] } : Str) == { cps := #[d] }) = false := fun d hd => by rw [one_eq]; exact decide_eq_false (Ne.symm hd)
      repeat walk_at "v"
      refine wpAny_If ?_
      repeat walk_at "v"
      rw [show (Str.ofString "?") = ⟨#[63]⟩ from rfl, one_eq' 63 (by (first | walk_at "om" | lia | omega))]
      refine if_ff ?_
      repeat walk_at "v"
      refine wpAny_If ?_
      repeat walk_at "v"
      rw [show (Str.ofString "[") = ⟨#[91]⟩ from rfl, one_eq' 91 (by (first | walk_at "om" | lia | omega))]
      refine if_ff ?_
      repeat walk_at "v"
      refine r_addcw (l := l) ?_ rfl rfl
      repeat walk_at "v"
      refine r_call C (by assumption) (escape_fn hc3) (Nat.le_refl _) gn (fun v h6 tk6 K6 hv => ?_)
      have S6 := St.call0 (by assumption) K6
      repeat walk_at "v"
      refine ⟨St.mem (by assumption) (by walk_at "mem"), ?_⟩
      refine r_addcall (by assumption) (.head _) (by walk_at "ne") (by (first | walk_at "om" | lia | omega)) (fun h7 S7 => ⟨rfl, ?_⟩)
      repeat walk_at "v"
      walk_at "x"; refine TurnEnd.intro (i + 1, vs ++ [v], n + 1, _) (by walk_at "st") ⟨hi, by simp; (first | walk_at "om" | lia | omega), ?_⟩ (by dsimp only; (first | walk_at "om" | lia | omega))
      rw [hps]
      unfold tstep
      rw [if_neg hc42]
      exact i3.snoc (show PartIs star v (some c) from hv)
  · have hi : i = x.length := by have := of_decide_eq_false hb; (first | walk_at "om" | lia | omega)
    repeat walk_at "v"
    refine wpAny_Assert_new C.hh ?_
    repeat walk_at "v"
    rw [hi]
    rw [beq_self_eq_true]
    refine if_tt ?_
    repeat walk_at "v"
    walk_at "x"; refine Ret.intro S ⟨l, vs, n, rfl, S.mem (.head _), ?_, ?_⟩
    · cases q : h.get? l with
      | none => rfl
      | some ob => rw [gk _ _ q (by simp)] at l3; cases l3
    · rw [hi, show x.length = x.cps.toList.length from by simp [Str.length], List.take_length] at i3
      exact i3
end
section
set_option maxRecDepth 100000
set_option maxHeartbeats 0
theorem one_inj {a b : Str} : a = b ↔ a.cps = b.cps := ⟨fun h => h ▸ rfl, fun h => by cases a; cases b; exact congrArg _ h⟩
section
variable {prog : Program} {w : World} {M : Model} {A : Around} {E : Value → Shared → Prop} {hp g : Heap} {G : Array GenState} {D : Drawn} {tk : Nat} {o : OsState} {L : Addr} {kn : Kns} {led : Led} {env : Env} {k : Nat} {x y : Str} {v : Value} {pos : Pos} {t u : Tok}
theorem r_jp_const {out : Str} {rest : List (Sem Value)} {kd : Nat} {Q : Value → Shared → Prop} (hz : (out ++ y).length ≤ sizeLine) (h : ∀ tk', wpAny M A (joinParts (out ++ y) rest) Q E ⟨hp, G, D, tk', o⟩) :
    wpAny M A (joinParts out (eval (.Constant (.str y) kd pos) env :: rest)) Q E ⟨hp, G, D, tk, o⟩ :=
  joinParts_cons (r_str (fun t tk' => ⟨hz, h _⟩))
theorem r_jp_name {out : Str} {rest : List (Sem Value)} {px : Pos} {Q : Value → Shared → Prop} (S : St g L hp kn led) (hv : kn.lookup x = some (.str y t)) (hz : (out ++ y).length ≤ sizeLine) (h : ∀ tk', wpAny (model prog w) A (joinParts (out ++ y) rest) Q E ⟨hp, G, D, tk', o⟩)
    (hL : env.locals = L) (hk : env.scope.kind = .function) (hx : env.kindOf x = some .local) (hd : (x == ("__debug__" : Str)) = false) :
    wpAny (model prog w) A (joinParts out (eval (.FormattedValue (.Name x px) (-1) none pos) env :: rest)) Q E ⟨hp, G, D, tk, o⟩ :=
  joinParts_cons (wpAny_FormattedValue_plain (r_name S hv (PyProof.Rows.formatField_str (fun _ _ => ⟨hz, h _⟩) (by rw [Str.length_append] at hz; (first | walk_at "om" | lia | omega))) hL hk hx hd))
theorem r_jp_nil {out : Str} {Q : Value → Shared → Prop} (hz : out.length ≤ sizeLine) (h : ∀ t tk', Q (.str out t) ⟨hp, G, D, tk', o⟩) : wpAny M A (joinParts out (evalEach [] env)) Q E ⟨hp, G, D, tk, o⟩ :=
  joinParts_nil (h _ _) hz
theorem strsAre_list : ∀ {vs : List Value} {ys : List Str}, StrsAre vs ys → ∃ l : List (Str × Tok), vs = strValues l ∧ l.map (·.1) = ys
  | _, [], h => ⟨[], by rw [h.nil_inv]; rfl, rfl⟩
  | _, y :: ys, h => by
    obtain ⟨t, vs', rfl, h'⟩ := h.cons_inv
    obtain ⟨l, rfl, rfl⟩ := strsAre_list h'
    exact ⟨(y, t) :: l, rfl, rfl⟩
theorem r_join0 {l : Addr} {vs : List Value} {n : Nat} {ys : List Str} {Q : Value → Shared → Prop} (hl : hp.get? l = some (lo vs n)) (hv : StrsAre vs ys) (hok : JoinOk x ys = true)
    (h : ∀ t tk', Q (.str (Txt.join x ys) t) ⟨hp, G, D, tk', o⟩) : wpAny (model prog w) A (call (.builtin "str.join") [.str x t, .ref l]) Q E ⟨hp, G, D, tk, o⟩ := by
  obtain ⟨ll, rfl, e⟩ := strsAre_list hv
  exact SC.join (isList_of hl) e hok (fun _ _ => h _ _)
theorem joinOk_of {sep : Str} {ys : List Str} (h : (ys.map (·.length)).sum + ys.length * sep.length ≤ sizeLine) : JoinOk sep ys = true := by
  unfold JoinOk
  rw [StrLaws.joinTotal]
  unfold Builtin.Str.tooLong
  simp only [Bool.not_eq_true', decide_eq_false_iff_not]
  (first | walk_at "om" | lia | omega)
theorem join_fold (ys : List Str) : ∀ acc : Array Nat, ys.foldl (fun acc p => acc ++ Str.empty.cps ++ p.cps) acc = acc ++ (ys.flatMap (fun y => y.cps.toList)).toArray := by
  induction ys with
  | nil => intro acc; simp
  | cons y ys ih =>
    intro acc
    rw [List.foldl_cons, ih]
    apply Array.ext'
    simp [Str.empty]
theorem join_empty (ys : List Str) : Txt.join Str.empty ys = ⟨(ys.flatMap (fun y => y.cps.toList)).toArray⟩ := by
  unfold Txt.join Builtin.Str.glued
  rw [join_fold]
  cases ys with
  | nil => simp [Str.empty]
  | cons y ys => simp
noncomputable def ones (w : List Nat) : List Str := w.map fun c => ⟨#[c]⟩
theorem join_ones (w : List Nat) : Txt.join Str.empty (ones w) = ⟨w.toArray⟩ := by
  rw [join_empty]
  congr 1
  unfold ones
  induction w with
  | nil => rfl
  | cons c w ih => simp at ih ⊢; exact ih
theorem joinOk_ones {w : List Nat} (h : w.length ≤ 1000) : JoinOk Str.empty (ones w) = true := by
  refine joinOk_of ?_
  have e : ((ones w).map (·.length)).sum = w.length := by
    unfold ones
    induction w with
    | nil => rfl
    | cons c w ih => have := ih (by simp at h; (first | walk_at "om" | lia | omega)); simp [Str.length] at this ⊢; (first | walk_at "om" | lia | omega)
  have h2 : sizeLine = 16777216 := rfl
  rw [e, show Str.empty.length = 0 from rfl]
  (first | walk_at "om" | lia | omega)
theorem r_isTrueCmp {ops : List CmpOp} {a : Expr} {bs : List Expr} {Q : Bool → Shared → Prop} (h : wpAny M A (isTrue (.Compare a ops bs pos) env (eval (.Compare a ops bs pos) env)) Q E ⟨hp, G, D, tk, o⟩) : wpAny M A (isTrue (.Compare a ops bs pos) env (eval (.Compare a ops bs pos) env)) Q E ⟨hp, G, D, tk, o⟩ := h
end
/-- the text that translate makes of a plain text between two stars -/
noncomputable def heldText (w : List Nat) : Str := Str.ofString "(?>.*?" ++ ⟨w.toArray⟩ ++ Str.ofString ")"
noncomputable def wholeText (r : Str) : Str := Str.ofString "(?s:" ++ r ++ Str.ofString ")\\Z"
end
section
set_option maxRecDepth 100000
set_option maxHeartbeats 0
theorem join2_fn {w : World} {h : Heap} {wd : List Nat} {vs : List Value} {nn : Nat} {li star : Addr} (hst : h.get? star = some plainObj) (hli : h.get? li = some (lo vs nn)) (hz : wd.length ≤ 1000) (hw : wd ≠ [])
    (hvs : PartsAre star vs (none :: (wd.map some ++ [none]))) :
    Fn w 125 1 [.ref li, .ref star] [] h (fun r _ => ∃ t, r = .str (wholeText (heldText wd ++ Str.ofString ".*")) t) := by
  have hs24 : sizeLine = 16777216 := rfl
  have hln : vs.length = wd.length + 2 := by rw [hvs.len]; simp
  have hat : ∀ i, i < wd.length + 2 → ∃ v q, vs[i]? = some v ∧ PartIs star v q ∧ (q = none ↔ (i = 0 ∨ i = wd.length + 1)) ∧ (1 ≤ i → i ≤ wd.length → ∃ c, wd[i - 1]? = some c ∧ q = some c) := by
    intro i hi
    obtain ⟨v, hv⟩ : ∃ v, vs[i]? = some v := ⟨_, List.getElem?_eq_getElem (by (first | walk_at "om" | lia | omega))⟩
    obtain ⟨q, hq1, hq2⟩ := hvs.at hv
    refine ⟨v, q, hv, hq2, ?_⟩
    rcases i with _ | j
    · simp at hq1
      exact ⟨by simp [← hq1], fun h => absurd h (by (first | walk_at "om" | lia | omega))⟩
    · rw [List.getElem?_cons_succ] at hq1
      by_cases hj : j < wd.length
      · rw [List.getElem?_append_left (by simpa using hj), List.getElem?_map, List.getElem?_eq_getElem hj] at hq1
        simp at hq1
        refine ⟨by rw [← hq1]; constructor; (intro h; cases h); (intro h; (first | walk_at "om" | lia | omega)), fun _ _ => ⟨wd[j], by simp [hj], hq1.symm⟩⟩
      · have hj' : j = wd.length := by (first | walk_at "om" | lia | omega)
        subst hj'
        rw [List.getElem?_append_right (by simp)] at hq1
        simp at hq1
        exact ⟨by simp [← hq1], fun _ h => absurd h (by (first | walk_at "om" | lia | omega))⟩
  refine' enter [(Str.ofString "STAR", .ref star), (Str.ofString "inp", .ref li)] [] ?ho ?hcd ?hb ?hl ?hkn ?hc ?h1 ?h2 ?h3 ?hled ?_
  walk_at "en"
  case hled => simp
  intro prog A g hp G D tk o L C gk gn gL S
  have gst := gk _ _ hst (by simp)
  have gli := gk _ _ hli (by simp)
  repeat walk_at "v"
  refine r_newList (by assumption) (by simp [hs24]) (fun l hp1 S l1 l2 l3 => ?_)
  repeat walk_at "v"
  refine r_bndappend (by assumption) (St.mem (by assumption) (.head _)) (fun a hp2 tk' S a1 a2 a3 => ?_)
  have hla : l < a := a1 _ (.head _)
  repeat walk_at "v"
  refine r_len (St.keep (by assumption) _ _ gli) (by (first | walk_at "om" | lia | omega)) (fun t3 tk3 => ?_)
  repeat walk_at "v"
  refine r_newTuple (by assumption) (by simp [hs24]) (fun a4 hp4 S _ _ _ => ?_)
  repeat walk_at "v"
  refine r_unpackItems (by assumption) (S.mem (.head _)) C.hh rfl (fun hp5 S => ?_)
  repeat walk_at "v"
  refine r_join (g := g) (L := L) (σ := Nat × Tok) (fun c => [(Str.ofString "i", .int 0 c.2), (Str.ofString "n", .int vs.length t3), (Str.ofString "add", .ref a), (Str.ofString "res", .ref l), (Str.ofString "STAR", .ref star), (Str.ofString "inp", .ref li)]) (fun c => [(l, lo [] 0), (a, bnd "list.append" (.ref l))]) (fun _ => True) ?_ ?_
  · refine r_while (g := g) (L := L) (σ := Nat × Tok) (fun c => [(Str.ofString "i", .int 0 c.2), (Str.ofString "n", .int vs.length t3), (Str.ofString "add", .ref a), (Str.ofString "res", .ref l), (Str.ofString "STAR", .ref star), (Str.ofString "inp", .ref li)]) (fun c => [(l, lo [] 0), (a, bnd "list.append" (.ref l))]) (fun _ => True) (fun _ => 0) (0, _) (by walk_at "st") trivial ?_
    rintro ⟨i, ti⟩ h₂ t' _ S
    try dsimp only at S ⊢
    repeat walk_at "v"
    with_reducible refine ifs (fun hb => ?_) (fun hb => absurd (of_decide_eq_false hb) (by (first | walk_at "om" | lia | omega)))
    obtain ⟨v, q, hv, hq, hq1, _⟩ := hat 0 (by (first | walk_at "om" | lia | omega))
    repeat walk_at "v"
    refine r_item (St.keep (by assumption) _ _ gli) (by decide) (by decide) (by simpa using hv) ?_
    repeat walk_at "v"
    refine r_isnot_part hq ?_
    rw [hq1.mpr (.inl rfl)]
    repeat walk_at "v"
    refine if_ff ?_
    repeat walk_at "v"
    walk_at "x"; exact Join.intro (i, ti) (by walk_at "st") trivial
  · rintro ⟨_, ti⟩ h₂ t' _ S
    try dsimp only at S ⊢
    repeat walk_at "v"
    refine r_join (g := g) (L := L) (σ := Nat × List Value × Nat × Tok) (fun c => [(Str.ofString "i", .int c.1 c.2.2.2), (Str.ofString "n", .int vs.length t3), (Str.ofString "res", .ref l)]) (fun c => [(l, lo c.2.1 c.2.2.1)])
      (fun c => c.1 = vs.length ∧ StrsAre c.2.1 [heldText wd, Str.ofString ".*"]) ?_ ?_
    · refine r_while (g := g) (L := L) (σ := Nat × List Value × Nat × Tok) (fun c => [(Str.ofString "i", .int c.1 c.2.2.2), (Str.ofString "n", .int vs.length t3), (Str.ofString "add", .ref a), (Str.ofString "res", .ref l), (Str.ofString "STAR", .ref star), (Str.ofString "inp", .ref li)]) (fun c => [(l, lo c.2.1 c.2.2.1), (a, bnd "list.append" (.ref l))])
        (fun c => (c.1 = 0 ∧ c.2.1 = []) ∨ (c.1 = wd.length + 1 ∧ StrsAre c.2.1 [heldText wd])) (fun c => 1 - c.1) (0, [], 0, _) (by walk_at "st") (.inl ⟨rfl, rfl⟩) ?_
      rintro ⟨i, rs, n, ti⟩ h₂ t' hP S
      try dsimp only at hP S ⊢
      have hi : i < wd.length + 2 := by rcases hP with h | h <;> (first | walk_at "om" | lia | omega)
      repeat walk_at "v"
      with_reducible refine ifs (fun hb => ?_) (fun hb => absurd (of_decide_eq_false hb) (by (first | walk_at "om" | lia | omega)))
      obtain ⟨v, q, hv, hq, hq1, _⟩ := hat i hi
      repeat walk_at "v"
      refine wpAny_Assert_new C.hh ?_
      repeat walk_at "v"
      refine r_item (St.keep (by assumption) _ _ gli) (by (first | walk_at "om" | lia | omega)) (by (first | walk_at "om" | lia | omega)) (by simpa using hv) ?_
      repeat walk_at "v"
      refine r_is_part hq ?_
      rw [hq1.mpr (by rcases hP with h | h <;> (first | walk_at "om" | lia | omega))]
      repeat walk_at "v"
      refine if_tt ?_
      repeat walk_at "v"
      refine wpAny_If ?_
      repeat walk_at "v"
      with_reducible refine ifs (fun hb2 => ?_) (fun hb2 => ?_)
      · have hi2 : i = wd.length + 1 := by have := beq_iff_eq.mp hb2; (first | walk_at "om" | lia | omega)
        have hrs : StrsAre rs [heldText wd] := by rcases hP with h | h; (first | walk_at "om" | lia | omega); exact h.2
        have hrl : rs.length = 1 := hrs.len_eq
        repeat walk_at "v"
        refine r_addcw (l := l) ?_ rfl rfl
        repeat walk_at "v"
        refine ⟨St.mem (by assumption) (by walk_at "mem"), ?_⟩
        refine r_addcall (by assumption) (.head _) (by walk_at "ne") (by (first | walk_at "om" | lia | omega)) (fun h7 S7 => ⟨rfl, ?_⟩)
        repeat walk_at "v"
        repeat walk_at "v"
        walk_at "x"; exact Join.intro (i + 1, _, n + 1, _) (by walk_at "st") ⟨by dsimp only; (first | walk_at "om" | lia | omega), hrs.append' (.cons _ _ .nil)⟩
      · have hi2 : i = 0 := by have := beq_eq_false_iff_ne.mp hb2; rcases hP with h | h <;> (first | walk_at "om" | lia | omega)
        have hrs : rs = [] := by rcases hP with h | h; exact h.2; (first | walk_at "om" | lia | omega)
        subst hi2 hrs
        have hwl : 1 ≤ wd.length := List.length_pos_iff.mpr hw
        obtain ⟨v1, q1, hv1, hq1', hq11, _⟩ := hat 1 (by (first | walk_at "om" | lia | omega))
        repeat walk_at "v"
        refine wpAny_Assert_new C.hh ?_
        repeat walk_at "v"
        refine r_item (St.keep (by assumption) _ _ gli) (by (first | walk_at "om" | lia | omega)) (by (first | walk_at "om" | lia | omega)) (by simpa using hv1) ?_
        repeat walk_at "v"
        refine r_isnot_part hq1' ?_
        rw [show (q1 != none) = true from by simpa using fun h => by have := hq11.mp h; (first | walk_at "om" | lia | omega)]
        repeat walk_at "v"
        refine r_newList (by assumption) (by simp [hs24]) (fun lf hp8 S f1 f2 f3 => ?_)
        have hfl : l < lf := f1 _ (.head _)
        have hfa : a < lf := f1 _ (.tail _ (.head _))
        repeat walk_at "v"
        refine r_join (g := g) (L := L) (σ := List Value × Nat × Tok) (fun c => [(Str.ofString "i", .int (wd.length + 1 : Nat) c.2.2), (Str.ofString "fixed", .ref lf), (Str.ofString "n", .int vs.length t3), (Str.ofString "add", .ref a), (Str.ofString "res", .ref l), (Str.ofString "STAR", .ref star), (Str.ofString "inp", .ref li)])
          (fun c => [(lf, lo c.1 c.2.1), (l, lo [] n), (a, bnd "list.append" (.ref l))]) (fun c => StrsAre c.1 (ones wd)) ?_ ?_
        · refine r_while (g := g) (L := L) (σ := Nat × List Value × Nat × Tok) (fun c => [(Str.ofString "i", .int c.1 c.2.2.2), (Str.ofString "fixed", .ref lf), (Str.ofString "n", .int vs.length t3), (Str.ofString "add", .ref a), (Str.ofString "res", .ref l), (Str.ofString "STAR", .ref star), (Str.ofString "inp", .ref li)])
            (fun c => [(lf, lo c.2.1 c.2.2.1), (l, lo [] n), (a, bnd "list.append" (.ref l))]) (fun c => 1 ≤ c.1 ∧ c.1 ≤ wd.length + 1 ∧ StrsAre c.2.1 (ones (wd.take (c.1 - 1)))) (fun c => wd.length + 1 - c.1) (1, [], 0, _) (by walk_at "st") ⟨Nat.le_refl _, by dsimp only; (first | walk_at "om" | lia | omega), .nil⟩ ?_
          rintro ⟨i, fs, m, tj⟩ h₃ t'' ⟨i1, i2, i3⟩ S
          try dsimp only at i1 i2 i3 S ⊢
          obtain ⟨v2, q2, hv2, hq2, hq21, hq22⟩ := hat i (by (first | walk_at "om" | lia | omega))
          repeat walk_at "v"
          with_reducible refine ifs (fun hb => ?_) (fun hb => absurd (of_decide_eq_false hb) (by (first | walk_at "om" | lia | omega)))
          repeat walk_at "v"
          refine r_item (St.keep (by assumption) _ _ gli) (by (first | walk_at "om" | lia | omega)) (by (first | walk_at "om" | lia | omega)) (by simpa using hv2) ?_
          repeat walk_at "v"
          refine r_isnot_part hq2 ?_
          repeat walk_at "v"
          with_reducible refine ifs (fun hb2 => ?_) (fun hb2 => ?_)
          · have hi2 : i ≤ wd.length := by
              have : q2 ≠ none := by simpa using hb2
              have hne : i ≠ wd.length + 1 := fun h => this (hq21.mpr (.inr h))
              (first | walk_at "om" | lia | omega)
            obtain ⟨c, hc1, hc2⟩ := hq22 i1 hi2
            rw [hc2] at hq2
            obtain ⟨t2, rfl⟩ := hq2
            have htk : wd.take (i + 1 - 1) = wd.take (i - 1) ++ [c] := by
              obtain ⟨j, rfl⟩ : ∃ j, i = j + 1 := ⟨i - 1, by (first | walk_at "om" | lia | omega)⟩
              simp at hc1
              rw [show j + 1 + 1 - 1 = j + 1 from rfl, List.take_add_one, hc1]; rfl
            have hlf : fs.length ≤ 1000 := by rw [i3.len_eq]; simp [ones]; (first | walk_at "om" | lia | omega)
            repeat walk_at "v"
            refine r_lmeth PySem.F.slot_list_append PySem.F.type_list_append (St.mem (by assumption) (.head _)) ?_
            repeat walk_at "v"
            refine r_item (St.keep (by assumption) _ _ gli) (by (first | walk_at "om" | lia | omega)) (by (first | walk_at "om" | lia | omega)) (by simpa using hv2) ?_
            repeat walk_at "v"
            refine r_append (by assumption) (by walk_at "ne") (by (first | walk_at "om" | lia | omega)) (fun h7 S7 => ⟨rfl, ?_⟩)
            repeat walk_at "v"
            walk_at "x"; refine TurnEnd.intro (i + 1, _, m + 1, _) (by walk_at "st") ⟨by dsimp only; (first | walk_at "om" | lia | omega), by dsimp only; (first | walk_at "om" | lia | omega), ?_⟩ (by dsimp only; (first | walk_at "om" | lia | omega))
            try dsimp only
            rw [htk, show ones (wd.take (i - 1) ++ [c]) = ones (wd.take (i - 1)) ++ ones [c] from by simp [ones]]
            exact i3.append' (.cons _ _ .nil)
          · have hi2 : i = wd.length + 1 := by
              have : q2 = none := by simpa using hb2
              have := hq21.mp this
              (first | walk_at "om" | lia | omega)
            subst hi2
            have e : wd.take (wd.length + 1 - 1) = wd := by simp
            rw [e] at i3
            refine if_ff ?_
            repeat walk_at "v"
            walk_at "x"; exact Join.intro (fs, m, tj) (by walk_at "st") i3
        · rintro ⟨fs, m, tj⟩ h₃ t'' i3 S
          try dsimp only at i3 S ⊢
          repeat walk_at "v"
          refine r_join0 (St.mem (by assumption) (.head _)) i3 (joinOk_ones hz) (fun t9 tk9 => ?_)
          rw [show Txt.join (Str.ofString "") (ones wd) = ⟨wd.toArray⟩ from join_ones wd]
          repeat walk_at "v"
          refine wpAny_If ?_
          repeat walk_at "v"
          with_reducible refine ifs (fun hb2 => ?_) (fun hb2 => ?_)
          · have := beq_iff_eq.mp hb2
            (first | walk_at "om" | lia | omega)
          repeat walk_at "v"
          refine r_addcw (l := l) ?_ rfl rfl
          repeat walk_at "v"
          refine r_jp_const (by decide) (fun tk1 => ?_)
          refine r_jp_name (by assumption) rfl ?_ (fun tk2 => ?_) rfl rfl rfl (by decide)
          · rw [Str.length_append, Str.length_append]; simp [Str.length, hs24, show (Str.ofString "(?>.*?").cps.size = 6 from rfl, show Str.empty.cps.size = 0 from rfl]; (first | walk_at "om" | lia | omega)
          refine r_jp_const ?_ (fun tk3 => ?_)
          · rw [Str.length_append, Str.length_append, Str.length_append]; simp [Str.length, hs24, show (Str.ofString "(?>.*?").cps.size = 6 from rfl, show Str.empty.cps.size = 0 from rfl, show (Str.ofString ")").cps.size = 1 from rfl]; (first | walk_at "om" | lia | omega)
          refine r_jp_nil ?_ (fun t4 tk4 => ?_)
          · rw [Str.length_append, Str.length_append, Str.length_append]; simp [Str.length, hs24, show (Str.ofString "(?>.*?").cps.size = 6 from rfl, show Str.empty.cps.size = 0 from rfl, show (Str.ofString ")").cps.size = 1 from rfl]; (first | walk_at "om" | lia | omega)
          repeat walk_at "v"
          refine ⟨St.mem (by assumption) (by walk_at "mem"), ?_⟩
          refine r_addcall (g := g) (L := L) (l := l) (a := a) (vs := []) (n := n) (led := [(a, bnd "list.append" (.ref l))])
            (kn := [(Str.ofString "i", .int (wd.length + 1 : Nat) tj), (Str.ofString "n", .int vs.length t3), (Str.ofString "add", .ref a), (Str.ofString "res", .ref l), (Str.ofString "STAR", .ref star), (Str.ofString "inp", .ref li)]) (by walk_at "st") (.head _) (by walk_at "ne") (by simp) (fun h7 S7 => ⟨rfl, ?_⟩)
          repeat walk_at "v"
          walk_at "x"; refine TurnEnd.intro (wd.length + 1, _, n + 1, tj) (by walk_at "st") (.inr ⟨rfl, ?_⟩) (by dsimp only; (first | walk_at "om" | lia | omega))
          try dsimp only
          have e : Str.empty ++ Str.ofString "(?>.*?" ++ { cps := wd.toArray } ++ Str.ofString ")" = heldText wd := by
            unfold heldText
            rw [show Str.empty ++ Str.ofString "(?>.*?" = Str.ofString "(?>.*?" from by decide]
          rw [e]
          exact .cons _ _ .nil
    · rintro ⟨i, rs, n, ti⟩ h₂ t' ⟨hi, hrs⟩ S
      try dsimp only at hi hrs S ⊢
      repeat walk_at "v"
      refine wpAny_Assert_new C.hh ?_
      repeat walk_at "v"
      rw [hi, beq_self_eq_true]
      refine if_tt ?_
      repeat walk_at "v"
      have hhl : (heldText wd).length = wd.length + 7 := by
        unfold heldText
        rw [Str.length_append, Str.length_append]; simp [Str.length, show (Str.ofString "(?>.*?").cps.size = 6 from rfl, show (Str.ofString ")").cps.size = 1 from rfl]; (first | walk_at "om" | lia | omega)
      refine r_join0 (St.mem (by assumption) (.head _)) hrs (joinOk_of (by simp [hhl, hs24, show (Str.ofString ".*").length = 2 from rfl, show (Str.ofString "").length = 0 from rfl]; (first | walk_at "om" | lia | omega))) (fun t9 tk9 => ?_)
      rw [show Txt.join (Str.ofString "") [heldText wd, Str.ofString ".*"] = heldText wd ++ Str.ofString ".*" from by rw [show Str.ofString "" = Str.empty from by decide, join_empty]; rw [one_inj]; simp [Str.cps_append]]
      repeat walk_at "v"
      refine r_jp_const (by decide) (fun tk1 => ?_)
      refine r_jp_name (by assumption) rfl ?_ (fun tk2 => ?_) rfl rfl rfl (by decide)
      · rw [Str.length_append, Str.length_append, Str.length_append, hhl]; simp [Str.length, hs24, show (Str.ofString "(?s:").cps.size = 4 from rfl, show Str.empty.cps.size = 0 from rfl, show (Str.ofString ".*").cps.size = 2 from rfl]; (first | walk_at "om" | lia | omega)
      refine r_jp_const ?_ (fun tk3 => ?_)
      · rw [Str.length_append, Str.length_append, Str.length_append, Str.length_append, hhl]; simp [Str.length, hs24, show (Str.ofString "(?s:").cps.size = 4 from rfl, show Str.empty.cps.size = 0 from rfl, show (Str.ofString ".*").cps.size = 2 from rfl, show (Str.ofString ")\\Z").cps.size = 3 from rfl]; (first | walk_at "om" | lia | omega)
      refine r_jp_nil ?_ (fun t4 tk4 => ?_)
      · rw [Str.length_append, Str.length_append, Str.length_append, Str.length_append, hhl]; simp [Str.length, hs24, show (Str.ofString "(?s:").cps.size = 4 from rfl, show Str.empty.cps.size = 0 from rfl, show (Str.ofString ".*").cps.size = 2 from rfl, show (Str.ofString ")\\Z").cps.size = 3 from rfl]; (first | walk_at "om" | lia | omega)
      walk_at "x"; refine Ret.intro (by assumption) ⟨t4, ?_⟩
      show Value.str _ _ = _
      rw [show Str.empty ++ Str.ofString "(?s:" = Str.ofString "(?s:" from by decide]
      rfl
end
section
set_option maxRecDepth 100000
set_option maxHeartbeats 0
theorem join1_fn {w : World} {h : Heap} {nn : Nat} {li star : Addr} (hst : h.get? star = some plainObj) (hli : h.get? li = some (lo [.ref star] nn)) :
    Fn w 125 1 [.ref li, .ref star] [] h (fun r _ => ∃ t, r = .str (wholeText (Str.ofString ".*")) t) := by
  have hs24 : sizeLine = 16777216 := rfl
  refine' enter [(Str.ofString "STAR", .ref star), (Str.ofString "inp", .ref li)] [] ?ho ?hcd ?hb ?hl ?hkn ?hc ?h1 ?h2 ?h3 ?hled ?_
  walk_at "en"
  case hled => simp
  intro prog A g hp G D tk o L C gk gn gL S
  have gst := gk _ _ hst (by simp)
  have gli := gk _ _ hli (by simp)
  repeat walk_at "v"
  refine r_newList (by assumption) (by simp [hs24]) (fun l hp1 S l1 l2 l3 => ?_)
  repeat walk_at "v"
  refine r_bndappend (by assumption) (St.mem (by assumption) (.head _)) (fun a hp2 tk' S a1 a2 a3 => ?_)
  have hla : l < a := a1 _ (.head _)
  repeat walk_at "v"
  refine r_len (St.keep (by assumption) _ _ gli) (by simp) (fun t3 tk3 => ?_)
  repeat walk_at "v"
  refine r_newTuple (by assumption) (by simp [hs24]) (fun a4 hp4 S _ _ _ => ?_)
  repeat walk_at "v"
  refine r_unpackItems (by assumption) (S.mem (.head _)) C.hh rfl (fun hp5 S => ?_)
  repeat walk_at "v"
  refine r_join (g := g) (L := L) (σ := Tok) (fun c => [(Str.ofString "i", .int 0 c), (Str.ofString "n", .int 1 t3), (Str.ofString "add", .ref a), (Str.ofString "res", .ref l), (Str.ofString "STAR", .ref star), (Str.ofString "inp", .ref li)]) (fun c => [(l, lo [] 0), (a, bnd "list.append" (.ref l))]) (fun _ => True) ?_ ?_
  · refine r_while (g := g) (L := L) (σ := Tok) (fun c => [(Str.ofString "i", .int 0 c), (Str.ofString "n", .int 1 t3), (Str.ofString "add", .ref a), (Str.ofString "res", .ref l), (Str.ofString "STAR", .ref star), (Str.ofString "inp", .ref li)]) (fun c => [(l, lo [] 0), (a, bnd "list.append" (.ref l))]) (fun _ => True) (fun _ => 0) _ (by walk_at "st") trivial ?_
    rintro ti h₂ t' _ S
    (try dsimp only at S ⊢)
    repeat walk_at "v"
    refine if_tt ?_
    repeat walk_at "v"
    refine r_item (St.keep (by assumption) _ _ gli) (by decide) (by decide) rfl ?_
    repeat walk_at "v"
    refine wpAny_isNot_ref_self ?_
    repeat walk_at "v"
    walk_at "x"; exact Join.intro ti (by walk_at "st") trivial
  · rintro ti h₂ t' _ S
    (try dsimp only at S ⊢)
    repeat walk_at "v"
    refine r_join (g := g) (L := L) (σ := List Value × Nat × Tok) (fun c => [(Str.ofString "i", .int 1 c.2.2), (Str.ofString "n", .int 1 t3), (Str.ofString "res", .ref l)]) (fun c => [(l, lo c.1 c.2.1)])
      (fun c => StrsAre c.1 [Str.ofString ".*"]) ?_ ?_
    · refine r_while (g := g) (L := L) (σ := Tok) (fun c => [(Str.ofString "i", .int 0 c), (Str.ofString "n", .int 1 t3), (Str.ofString "add", .ref a), (Str.ofString "res", .ref l), (Str.ofString "STAR", .ref star), (Str.ofString "inp", .ref li)]) (fun c => [(l, lo [] 0), (a, bnd "list.append" (.ref l))]) (fun _ => True) (fun _ => 0) _ (by walk_at "st") trivial ?_
      rintro ti h₂ t' hP S
      (try dsimp only at hP S ⊢)
      repeat walk_at "v"
      refine if_tt ?_
      repeat walk_at "v"
      refine wpAny_Assert_new C.hh ?_
      repeat walk_at "v"
      refine r_item (St.keep (by assumption) _ _ gli) (by decide) (by decide) rfl ?_
      repeat walk_at "v"
      refine wpAny_is_ref_self ?_
      repeat walk_at "v"
      refine wpAny_If ?_
      repeat walk_at "v"
      refine if_tt ?_
      repeat walk_at "v"
      refine r_addcw (l := l) ?_ rfl rfl
      repeat walk_at "v"
      refine ⟨St.mem (by assumption) (by walk_at "mem"), ?_⟩
      refine r_addcall (by assumption) (.head _) (by walk_at "ne") (by simp) (fun h7 S7 => ⟨rfl, ?_⟩)
      repeat walk_at "v"
      walk_at "x"; exact Join.intro (_, 1, _) (by walk_at "st") (.cons _ _ .nil)
    · rintro ⟨rs, n, ti⟩ h₂ t' hrs S
      try dsimp only at hrs S ⊢
      repeat walk_at "v"
      refine wpAny_Assert_new C.hh ?_
      repeat walk_at "v"
      refine if_tt ?_
      repeat walk_at "v"
      refine r_join0 (St.mem (by assumption) (.head _)) hrs (by decide) (fun t9 tk9 => ?_)
      rw [show Txt.join (Str.ofString "") [Str.ofString ".*"] = Str.ofString ".*" from by decide]
      repeat walk_at "v"
      refine r_jp_const (by decide) (fun tk1 => ?_)
      refine r_jp_name (by assumption) rfl (by decide) (fun tk2 => ?_) rfl rfl rfl (by decide)
      refine r_jp_const (by decide) (fun tk3 => ?_)
      refine r_jp_nil (by decide) (fun t4 tk4 => ?_)
      walk_at "x"; refine Ret.intro (by assumption) ⟨t4, ?_⟩
      show Value.str _ _ = _
      rw [show Str.empty ++ Str.ofString "(?s:" = Str.ofString "(?s:" from by decide]
      rfl
end
section
set_option maxRecDepth 100000
set_option maxHeartbeats 0
noncomputable def patText (wd : List Nat) : Str := wholeText (if wd = [] then Str.ofString ".*" else heldText wd ++ Str.ofString ".*")
theorem tparts_plain {s : List Nat} (hs : ∀ c ∈ s, c ≠ 42) : ∀ ps, s.foldl tstep ps = ps ++ s.map some := by
  induction s with
  | nil => intro ps; simp
  | cons c s ih =>
    intro ps
    rw [List.foldl_cons, ih (fun c hc => hs c (.tail _ hc))]
    unfold tstep
    rw [if_neg (hs c (.head _))]
    simp
theorem parts_one {st : Addr} {vs : List Value} (h : PartsAre st vs [none]) : vs = [.ref st] := by
  match vs, h with
  | [v], h => exact congrArg (fun x => [x]) h.1
theorem tparts_star {s : List Nat} (hs : ∀ c ∈ s, c ≠ 42) : tparts (42 :: (s ++ [42])) = if s = [] then [none] else none :: (s.map some ++ [none]) := by
  unfold tparts
  rw [List.foldl_cons, List.foldl_append, tparts_plain hs]
  by_cases h : s = []
  · subst h; rfl
  · rw [if_neg h]
    obtain ⟨us, c, rfl⟩ := (nil_or_snoc s).resolve_left h
    have hl : ([none] ++ List.map some (us ++ [c])).getLast? = some (some c) := by
      rw [List.map_append, ← List.append_assoc, List.map_singleton, List.getLast?_append]; rfl
    rw [show tstep [] 42 = [none] from rfl]
    show tstep _ 42 = _
    unfold tstep
    rw [if_pos rfl, hl, if_neg (by simp)]
    simp
end
section
set_option maxRecDepth 100000
set_option maxHeartbeats 0
theorem translate_fn {w : World} {h : Heap} {wd : List Nat} {t : Tok} (hw : ∀ c ∈ wd, c = 97 ∨ c = 98 ∨ c = 47) (hz : wd.length ≤ 900) :
    Fn w 99 3 [.str ⟨(42 :: (wd ++ [42])).toArray⟩ t] [] h (fun r _ => ∃ t, r = .str (patText wd) t) := by
  have hs24 : sizeLine = 16777216 := rfl
  refine' enter [(Str.ofString "pat", .str ⟨(42 :: (wd ++ [42])).toArray⟩ t)] [] ?ho ?hcd ?hb ?hl ?hkn ?hc ?h1 ?h2 ?h3 ?hled ?_
  walk_at "en"
  case hled => simp
  intro prog A g hp G D tk o L C gk gn gL S
  repeat walk_at "v"
  refine r_object (by assumption) (fun st hp1 S s1 s2 s3 => ?_)
  repeat walk_at "v"
  refine r_call C (by assumption) (translate1_fn (St.mem (by assumption) (.head _)) ?_ (by simp [Str.length]; (first | walk_at "om" | omega))) (by (first | walk_at "om" | omega)) gn (fun v h6 tk6 K6 hv => ?_)
  · intro c hc
    simp at hc
    rcases hc with rfl | hc | rfl
    · exact .inl rfl
    · exact .inr (hw c hc)
    · exact .inl rfl
  obtain ⟨li, vs, nn, rfl, hli, hl0, hps⟩ := hv
  obtain ⟨S7, _, gl⟩ := St.call_new (by assumption) K6 hli hl0
  have ht : tparts (42 :: (wd ++ [42])) = _ := tparts_star (s := wd) (fun c hc => by rcases hw c hc with rfl | rfl | rfl <;> decide)
  repeat walk_at "v"
  have hps' : PartsAre st vs (tparts (42 :: (wd ++ [42]))) := hps
  rw [ht] at hps'
  by_cases hwd : wd = []
  · rw [if_pos hwd] at hps'
    obtain rfl := parts_one hps'
    refine r_call C (by assumption) (join1_fn (St.mem (by assumption) (by walk_at "mem")) (St.mem (by assumption) (by walk_at "mem"))) (by (first | walk_at "om" | omega)) gn (fun v h8 tk8 K8 hv => ?_)
    walk_at "x"; refine Ret.intro (St.call0 (by assumption) K8) ?_
    unfold patText
    rw [if_pos hwd]
    exact hv
  · rw [if_neg hwd] at hps'
    refine r_call C (by assumption) (join2_fn (St.mem (by assumption) (by walk_at "mem")) (St.mem (by assumption) (by walk_at "mem")) (by (first | walk_at "om" | omega)) hwd hps') (by (first | walk_at "om" | omega)) gn (fun v h8 tk8 K8 hv => ?_)
    walk_at "x"; refine Ret.intro (St.call0 (by assumption) K8) ?_
    unfold patText
    rw [if_neg hwd]
    exact hv
end
section
set_option maxRecDepth 100000
set_option maxHeartbeats 0
theorem putL_len (name : Str) (hs : Int) (key v : Value) : ∀ es : List DictEntry, (putL name hs key v es).length ≤ es.length + 1
  | [] => Nat.le_refl _
  | e :: r => by
    have := putL_len name hs key v r
    unfold putL
    split <;> simp <;> (first | walk_at "om" | omega)
/-- a record's attributes -/
noncomputable def ent (w : World) (t1 t2 t3 t4 : Tok) (v1 v2 v3 v4 : Value) : List DictEntry :=
  [⟨PyData.keyHash w.params "useragents", .str "useragents" t1, v1⟩, ⟨PyData.keyHash w.params "rulelines", .str "rulelines" t2, v2⟩, ⟨PyData.keyHash w.params "delay", .str "delay" t3, v3⟩, ⟨PyData.keyHash w.params "req_rate", .str "req_rate" t4, v4⟩]
theorem tc_weight (Cl : Addr) (args : List Value) (kw : List (Str × Value)) : (Code.builtin "type.__call__" ⟨.ref Cl :: args, kw⟩).weight ≤ 1 := by
  exact Nat.le_of_eq rfl
theorem tc_units (Cl : Addr) (args : List Value) (kw : List (Str × Value)) : (Code.builtin "type.__call__" ⟨.ref Cl :: args, kw⟩).cUnits ≤ 4 := by
  exact Nat.le_of_ble_eq_true rfl
theorem Cx.under1 {w : World} {A : Around} {g : Heap} {k : Nat} {Cl : Addr} {args : List Value} {kw : List (Str × Value)} (C : Cx w A g (k + 1)) : Cx w (A.under (.builtin "type.__call__" ⟨.ref Cl :: args, kw⟩)) g k :=
  ⟨C.X, C.T, C.hh, by have := C.hd; have := tc_weight Cl args kw; show A.depth + _ + k < _; (first | walk_at "om" | omega), by have := C.hu; have := tc_units Cl args kw; show A.units + _ + 8 * k < _; (first | walk_at "om" | omega)⟩
section
variable {prog : Program} {w : World} {M : Model} {A : Around} {E : Value → Shared → Prop} {hp g : Heap} {G : Array GenState} {D : Drawn} {tk : Nat} {o : OsState} {L : Addr} {kn : Kns} {led : Led} {env : Env} {k : Nat} {x y : Str} {v : Value} {pos : Pos} {t u : Tok}
theorem r_setattr {xa dx : Addr} {es : List DictEntry} {n : Nat} {name : Str} {Q : Unit → Shared → Prop} (C : Cx w A g k) (S : St g L hp kn ((dx, dictOf es n) :: led)) (hne : ∀ p ∈ led, p.1 ≠ dx) (hx : hp.get? xa = some (instObj 76 dx))
    (hs : findIn (pre.heap_1 w.params) (.ref 76) "__setattr__" = some (some (.builtin "object.__setattr__"))) (hpo : plainOver (pre.heap_1 w.params) 76 = true) (ht : takerIn (pre.heap_1 w.params) 76 name = some none) (hh : hasDictIn (pre.heap_1 w.params) 76 = true) (hl : (getL name es).isSome = true) (hz : es.length ≤ 900)
    (h : ∀ h' t tk', St g L h' kn ((dx, dictOf (putL name (PyData.keyHash w.params name) (.str name t) v es) (putN name es n)) :: led) → Q () ⟨h', G, D, tk', o⟩) :
    wpAny (model prog w) A (setAttr (.ref xa) name v) Q E ⟨hp, G, D, tk, o⟩ := by
  have X := C.X.keeps S.keep
  have De := S.mem (.head _)
  have I : InstAt hp xa (instObj 76 dx) 76 (some (dictOf es n)) := ⟨hx, rfl, rfl, De⟩
  refine set_plain (s := ⟨hp, G, D, tk, o⟩) X I hs (osa_open (s := ⟨hp, G, D, tk + 1, o⟩) X I hpo ht fun b => ?_)
  obtain ⟨cd, hc, hd'⟩ := any_some hh
  have hm : Obj.putName name (PyData.keyHash w.params name) (.str name (tk + 1)) v (dictOf es n) = dictOf (putL name (PyData.keyHash w.params name) (.str name (tk + 1)) v es) (putN name es n) := putName_dict ..
  have hfin := Heap.get?_update_self (h := hp) (Obj.putName name (PyData.keyHash w.params name) (.str name (tk + 1)) v) De (by rw [hm]; rfl)
  have S' := S.set (Heap.SameBut.update ..) (by rw [hfin, hm]) hne
  have D' := S'.mem (.head _)
  refine wpAny_bind (wpAny_pure (wpAny_bind (wpAny_bind (wpAny_loadPart hx (wpAny_bind ((looks_clsIn X hc).here ?_))))))
  rw [hd']
  refine wpAny_pure (a := some dx) (wpAny_bind (wpAny_pure (wpAny_bind ?_)))
  unfold nsSet
  refine wpAny_bind (wpAny_bind (wpAny_askSetting (wpAny_pure (wpAny_bind (wpAny_mkText (wpAny_bind (wpAny_loadPart De ?_)))))))
  try dsimp only
  have c : (!es.toArray.any (·.key.isStr name) && es.toArray.any (·.refKey)) = false := by
    unfold getL at hl
    rw [← Array.any_toList, ← Array.any_toList]
    split at hl
    · rename_i en he
      rw [List.any_eq_true.mpr ⟨en, List.mem_of_find?_eq_some he, List.find?_some he⟩]; rfl
    · split at hl
      · cases hl
      · rename_i z; rw [Bool.not_eq_true] at z; rw [z, Bool.and_false]
  rw [aRefKeyMayBeTheName_at, c]
  refine wpAny_updatePart De ?_
  refine wpAny_bind (wpAny_lookBehind D' (pastItsLine_dict ?_) ?_)
  · rw [List.size_toArray, sizeLine_eq]
    have := putL_len name (PyData.keyHash w.params name) (.str name (tk + 1)) v es
    (first | walk_at "om" | omega)
  · exact wpAny_pure (h _ _ _ S')
/-- an instance of Entry is made -/
theorem r_new {Q : Value → Shared → Prop} {Post : Addr → Addr → Heap → Heap → Prop} (C : Cx w A g (k + 2)) (S : St g L hp kn led)
    (hm : makesIn (pre.heap_1 w.params) 76 = true) (hi : findIn (pre.heap_1 w.params) (.ref 76) "__init__" = some (some (.ref 52))) (hf : isFn (pre.heap_1 w.params) (.ref 52) = true)
    (F : ∀ x dx h, h.get? x = some (instObj 76 dx) → h.get? dx = some (dictOf [] 0) → x ≠ dx → FnC w 52 1 [.ref x] [dx] h (fun r h' => r = .none ∧ Post x dx h h'))
    (h : ∀ x dx h₁ h' tk', St g L h₁ kn led → h₁.get? x = some (instObj 76 dx) → g.get? x = none → g.get? dx = none → x ≠ L → dx ≠ L → (∀ p ∈ led, p.1 < dx) → dx < x → KB [dx] h₁ h' → Post x dx h₁ h' → Q (.ref x) ⟨h', G, D, tk', o⟩) :
    wpAny (model prog w) A (call (.ref 76) []) Q E ⟨hp, G, D, tk, o⟩ := by
  have X := C.X.keeps S.keep
  refine wpAny_call (make_core (makes_of X hm) (looks_findIn X hi) (fun self => bind_fn X self (beq_iff_eq.mp hf)) (.inl rfl) ?_)
  have k1 : ∀ b ob, hp.get? b = some ob → ((hp.push emptyDict).push (instObj 76 hp.objs.size)).get? b = some ob := fun b ob e => Heap.get?_push_of_some _ (Heap.get?_push_of_some _ e)
  have hx : ((hp.push emptyDict).push (instObj 76 hp.objs.size)).get? (hp.objs.size + 1) = some (instObj 76 hp.objs.size) := by
    have := Heap.get?_push_size (hp.push emptyDict) (o := instObj 76 hp.objs.size) rfl
    rwa [Heap.size_push] at this
  have hdx : ((hp.push emptyDict).push (instObj 76 hp.objs.size)).get? hp.objs.size = some (dictOf [] 0) := Heap.get?_push_of_some _ (Heap.get?_push_size _ rfl)
  have g0 := S.none_of_le (Nat.le_refl hp.objs.size)
  have g1 := S.none_of_le (Nat.le_succ hp.objs.size)
  have hL := S.ltL
  refine F _ _ _ hx hdx (Nat.succ_ne_self _) prog _ g G D tk o _ (C.le (Nat.le_add_left 2 k)).under1 (fun b ob e => ⟨k1 _ _ (S.keep _ _ e), fun hb => by rw [List.mem_singleton.mp hb, g0] at e; cases e⟩) (fun v h' tk' K hv => ?_)
  exact ⟨hv.1, h _ _ _ h' tk' (S.keeps k1) hx g1 g0 (Nat.ne_of_gt (Nat.lt_succ_of_lt hL)) (Nat.ne_of_gt hL) S.lt (Nat.lt_succ_self _) K hv.2⟩
end
end
set_option compiler.extract_closed false in
local macro_rules | `(tactic| walk_at "set") => `(tactic| (refine' r_setattr ?sC ?sS ?sn ?sx ?ss ?sp ?st ?sh ?sl ?sz ?_; (case sC | sS => assumption); (case sn => walk_at "ne"); (case sx => first | assumption | exact St.keep (by assumption) _ _ (by assumption) | exact St.mem (by assumption) (by walk_at "mem")); (case ss | sp | st | sh => k_is); (case sl => exact rfl); (case sz => exact Nat.le_of_ble_eq_true rfl)))
section
set_option maxRecDepth 100000
set_option maxHeartbeats 0
theorem init_fn {w : World} {h : Heap} {x dx : Addr} (hx : h.get? x = some (instObj 76 dx)) (hdx : h.get? dx = some (dictOf [] 0)) (hne : x ≠ dx) :
    FnC w 52 1 [.ref x] [dx] h (fun r h' => r = .none ∧ ∃ t1 t2 t3 t4 n l1 l2, h'.get? dx = some (dictOf (ent w t1 t2 t3 t4 (.ref l1) (.ref l2) .none .none) n) ∧ h'.get? l1 = some (lo [] 0) ∧ h'.get? l2 = some (lo [] 0) ∧ h.get? l1 = none ∧ h.get? l2 = none ∧ l1 < l2) := by
  have hs24 : sizeLine = 16777216 := rfl
  refine' enterC [(Str.ofString "self", .ref x)] [(dx, dictOf [] 0)] ?ho ?hcd ?hb ?hl ?hkn ?hc ?h1 ?h2 ?h3 ?hled ?_
  walk_at "en"
  case hled => simp [hdx]
  intro prog A g hp G D tk o L C gk gn gL S
  have gx := gk _ _ hx (by simpa using hne)
  repeat walk_at "v"
  refine r_newList (by assumption) (by simp [hs24]) (fun l1 hp1 S l11 l12 l13 => ?_)
  repeat walk_at "v"
  have hdl : dx < l1 := l11 _ (.head _)
  have S' : St g L hp1 [(Str.ofString "self", .ref x)] [(dx, dictOf [] 0), (l1, lo [] 0)] := by walk_at "st"
  walk_at "set"
  intro hp2 t1 tk2 S2
  repeat walk_at "v"
  refine r_newList (by assumption) (by simp [hs24]) (fun l2 hp3 S3 l21 l22 l23 => ?_)
  have hdl2 : dx < l2 := l21 _ (.head _)
  have hll : l1 < l2 := l21 _ (.tail _ (.head _))
  have S4 := St.to S3 (kn' := [(Str.ofString "self", .ref x)]) (by walk_at "kn") (led' := [(dx, _), (l1, lo [] 0), (l2, lo [] 0)]) (by walk_at "led")
  repeat walk_at "v"
  walk_at "set"
  intro hp5 t2 tk5 S5
  repeat walk_at "v"
  walk_at "set"
  intro hp6 t3 tk6 S6
  repeat walk_at "v"
  walk_at "set"
  intro hp7 t4 tk7 S7
  repeat walk_at "v"
  walk_at "x"; refine Ret.intro S7 ⟨rfl, t1, t2, t3, t4, 4, l1, l2, S7.mem (.head _), S7.mem (.tail _ (.head _)), S7.mem (.tail _ (.tail _ (.head _))), ?_, ?_, hll⟩
  · cases q : h.get? l1 with
    | none => rfl
    | some ob => rw [gk _ _ q (by simpa using ne_gt hdl)] at l13; cases l13
  · cases q : h.get? l2 with
    | none => rfl
    | some ob => rw [gk _ _ q (by simpa using ne_gt hdl2)] at l23; cases l23
/-- Entry() -/
theorem r_entry {prog : Program} {w : World} {A : Around} {E : Value → Shared → Prop} {hp g : Heap} {G : Array GenState} {D : Drawn} {tk : Nat} {o : OsState} {L : Addr} {kn : Kns} {led : Led} {k : Nat} {Q : Value → Shared → Prop} (C : Cx w A g (k + 2)) (S : St g L hp kn led)
    (h : ∀ x dx l1 l2 t1 t2 t3 t4 n h' tk', St g L h' kn ((x, instObj 76 dx) :: (dx, dictOf (ent w t1 t2 t3 t4 (.ref l1) (.ref l2) .none .none) n) :: (l1, lo [] 0) :: (l2, lo [] 0) :: led) → (∀ p ∈ led, p.1 < dx) → dx < x → (∀ p ∈ led, p.1 ≠ l1) → (∀ p ∈ led, p.1 ≠ l2) → x ≠ l1 → dx ≠ l1 → x ≠ l2 → dx ≠ l2 → l1 < l2 → Q (.ref x) ⟨h', G, D, tk', o⟩) :
    wpAny (model prog w) A (call (.ref 76) []) Q E ⟨hp, G, D, tk, o⟩ := by
  refine r_new C S (by k_is) (by k_is) (by k_is) (fun x dx h hx hdx hne => init_fn hx hdx hne) (fun x dx h₁ h' tk' S1 hx gx gdx hxL hdxL hlt hdx K hv => ?_)
  obtain ⟨t1, t2, t3, t4, n, l1, l2, e1, e2, e3, f1, f2, hl⟩ := hv
  have off : ∀ b ob, h₁.get? b = some ob → b ≠ dx → h'.get? b = some ob := fun b ob e n => K b ob e (by simpa using n)
  have notL : ∀ l, h₁.get? l = none → l ≠ L := by
    rintro l hl rfl
    obtain ⟨m, ⟨ol, es, ep, e, _⟩, _⟩ := S1.ns
    rw [e] at hl; cases hl
  have gno : ∀ l, h₁.get? l = none → g.get? l = none := fun l hl => by
    cases q : g.get? l with
    | none => rfl
    | some ob => rw [S1.keep _ _ q] at hl; cases hl
  have ledn : ∀ l, h₁.get? l = none → ∀ p ∈ led, p.1 ≠ l := fun l hl p hp q => by
    have := (S1.nw p hp).1
    rw [q, hl] at this; cases this
  have xl : ∀ l, h₁.get? l = none → x ≠ l := fun l hl q => by rw [q, hl] at hx; cases hx
  have hx' := off _ _ hx (ne_gt hdx)
  have hdl : ∀ l, h₁.get? l = none → dx ≠ l → True := fun _ _ _ => trivial
  have S2 : St g L h' kn led := by
    refine ⟨fun b ob e => off b ob (S1.keep b ob e) (fun q => by rw [q, gdx] at e; cases e), ?_, fun p hp => ⟨off _ _ (S1.nw p hp).1 (Nat.ne_of_lt (hlt p hp)), (S1.nw p hp).2⟩⟩
    obtain ⟨m, ⟨ol, es, ep, a, r⟩, b⟩ := S1.ns
    exact ⟨m, ⟨ol, es, ep, off L ol a (Ne.symm hdxL), r⟩, b⟩
  have d1 : dx ≠ l1 := by rintro rfl; rw [e1] at e2; exact absurd (congrArg (fun z => z.map Obj.cls) e2) (show ¬ (some (Value.type "dict") = some (Value.type "list")) by decide)
  have d2 : dx ≠ l2 := by rintro rfl; rw [e1] at e3; exact absurd (congrArg (fun z => z.map Obj.cls) e3) (show ¬ (some (Value.type "dict") = some (Value.type "list")) by decide)
  exact h x dx l1 l2 t1 t2 t3 t4 n h' tk' ((((S2.add e3 (gno _ f2) (notL _ f2)).add e2 (gno _ f1) (notL _ f1)).add e1 gdx hdxL).add hx' gx hxL) hlt hdx (ledn _ f1) (ledn _ f2) (xl _ f1) d1 (xl _ f2) d2 hl
end
section
set_option maxRecDepth 100000
set_option maxHeartbeats 0
section
variable {prog : Program} {w : World} {A : Around} {R : Result → Shared → Prop} {I : Addr} {fp wr : List Addr} {Gs : Array GenState → Array GenState → Prop} {n : Nat} {P : Nat → Value → Prop} {Ws : Nat → Shared → Prop}
/-- a set of strs takes in what an iterator yields -/
theorem set_loop (W : WalksS prog w A.in1 I fp wr Gs n P Ws) (S : Addr) (hSf : S ∉ fp) (ys : List Str) (hn : ys.length = n)
    (hval : ∀ i v, P i v → ∃ y t, v = .str y t ∧ ys[i]? = some y) (hb : n + 1 < scanBound) :
    ∀ (k i : Nat) (s : Shared), n - i = k → i ≤ n → Ws i s → (∃ c, c ≤ i ∧ s.heap.SetOf (PySem.strKind prog w) S (fun z => (ys.take i).contains z) c) →
      (∀ s', Moved (S :: wr) Gs s s' → (∃ c, c ≤ n ∧ s'.heap.SetOf (PySem.strKind prog w) S (fun z => ys.contains z) c) → R (.ok (.ret .none)) s') →
      codeAny (model prog w) A (.builtin "set.update.loop" ⟨[.ref S, .ref I], []⟩) R s := by
  have hSw : S ∉ wr := fun h => hSf (W.sub _ h)
  have hsub : ∀ b ∈ wr, b ∈ S :: wr := fun b hb => List.mem_cons_of_mem _ hb
  have keepS : ∀ {s s' : Shared} {Sf : Str → Bool} {c : Nat}, Moved wr Gs s s' → s.heap.SetOf (PySem.strKind prog w) S Sf c → s'.heap.SetOf (PySem.strKind prog w) S Sf c := by
    rintro s s' Sf c hm ⟨o, es, ep, t, ho, rest⟩
    exact ⟨o, es, ep, t, hm.heap S _ hSw ho, rest⟩
  intro k
  induction k with
  | zero =>
    rintro i s hk hi hst ⟨c, hc, hS⟩ hR
    have hin : i = n := by (first | walk_at "om" | omega)
    subst hin
    refine codeAny_builtin F.entry_set_update_loop ?_
    rw [Around.under_plainId F.plain_set_update_loop _]
    show wpAny _ A.in1 (pyNext (.ref I) >>= _) _ _ s
    refine wpAny_bind (W.done s _ _ hst fun s' hm => ?_)
    show wpAny _ A.in1 (ret Value.none) _ _ s'
    rw [← hn, List.take_length] at hS
    exact wpAny_pure (hR s' (hm.mono hsub) ⟨c, hc, keepS hm hS⟩)
  | succ k ih =>
    rintro i s hk hi hst ⟨c, hc, hS⟩ hR
    have hlt : i < n := by (first | walk_at "om" | omega)
    refine codeAny_builtin F.entry_set_update_loop ?_
    rw [Around.under_plainId F.plain_set_update_loop _]
    show wpAny _ A.in1 (pyNext (.ref I) >>= _) _ _ s
    refine wpAny_bind (W.item i s _ _ hlt hst fun v s' hP hst' hm => ?_)
    obtain ⟨y, t, rfl, hy⟩ := hval i v hP
    have hS' := keepS hm hS
    show wpAny _ A.in1 (holding [Value.str y t] (setAdd S (.str y t)) >>= _) _ _ s'
    refine wpAny_bind (wpAny_holding ?_)
    unfold setAdd
    refine wpAny_holding ?_
    refine wpAny_bind ((PySem.strKind prog w).pyHash (k := y) (strKind_is _ _ _ _) ?_)
    refine wpAny_setAddHashed_of (knd := PySem.strKind prog w) (s := { s' with toks := s'.toks + 1 }) (strKind_is _ _ _ _) rfl hS' (by (first | walk_at "om" | omega)) fun h' hsb hS2 => ?_
    have htk : ys.take (i + 1) = ys.take i ++ [y] := by rw [List.take_add_one, hy]; rfl
    have hSi : ∃ c, c ≤ i + 1 ∧ h'.SetOf (PySem.strKind prog w) S (fun z => (ys.take (i + 1)).contains z) c := by
      refine ⟨_, ?_, SetOf_congr hS2 (fun z => ?_) rfl⟩
      · split <;> (first | walk_at "om" | omega)
      · rw [htk]; simp [List.contains_eq_mem]
    refine wpAny_pure ⟨plainId_quiet F.plain_set_update_loop _, ih (i + 1) _ (by (first | walk_at "om" | omega)) hlt (W.frame _ s' _ _ hst' (Nat.le_succ _) fun b hb o e => ?_) hSi fun s'' hm'' hS'' => ?_⟩
    · rw [hsb.2 b (fun h : b = S => hSf (by rw [← h]; exact hb))]; exact e
    · refine hR s'' (Moved.trans W.gtrans ((hm.mono hsub).then_heap (Nat.le_succ _) fun b o hb e => ?_) hm'') hS''
      rw [hsb.2 b (fun h : b = S => hb (by rw [h]; exact List.mem_cons_self))]; exact e
end
section
variable {prog : Program} {w : World} {A : Around} {E : Value → Shared → Prop} {s : Shared}
set_option maxHeartbeats 8000000 in
theorem set_of_strs {l : Addr} {vs : List Value} {nl : Nat} {ys : List Str} {Q : Value → Shared → Prop}
    (hh : A.handled = none) (hl : s.heap.get? l = some (lo vs nl)) (hi : StrsAre vs ys) (hb : ys.length + 1 < scanBound)
    (h : ∀ (h' : Heap) (tk c : Nat), h'.SetOf (PySem.strKind prog w) s.heap.objs.size (fun z => ys.contains z) c →
      (∀ b o, b < s.heap.objs.size → s.heap.get? b = some o → h'.get? b = some o) → Q (.ref s.heap.objs.size) { s with heap := h', toks := tk }) :
    wpAny (model prog w) A (call (.type "set") [.ref l]) Q E s := by
  obtain ⟨c, tl, hmro⟩ := PySem.F.called_set.mro
  have hmade := PySem.F.called_set.made
  have hsub := PySem.F.called_set.sub
  refine wpAny_call (codeAny_of_tree ?_)
  show wpAny _ _ (callAny (.type "set") _) _ _ _
  refine wpAny_pure ⟨Code.quiet_builtin _ (by decide +kernel), codeAny_builtin PySem.F.entry_type_call ?_⟩
  rw [Around.under_plain (weight_type_call_type "set" [.ref l] []) rfl]
  have h1 := PySem.F.called_set.notType
  have h2 := PySem.F.called_set.canCreate
  have hct := PySem.F.typeCall_set_1 (.ref l)
  repeat (any_goals (walk_at "wp"))
  refine codeAny_mono (code_set_new_1 (.ref l) (E := E) (Q₁ := fun obj s₁ => ∃ led : Bool, obj = .ref s.heap.objs.size ∧ s₁ = { s with heap := s.heap.push { cls := .type "set", dict := none, data := .set #[] 0 (.fresh 0 0 led) } }) fun led => ⟨led, rfl, rfl⟩) fun r s₁ hr => ?_
  cases r with
  | error e => exact hr
  | ok fl =>
    cases fl with
    | ret obj =>
      obtain ⟨led, rfl, rfl⟩ := hr
      have hS : (s.heap.push { cls := .type "set", dict := none, data := .set #[] 0 (.fresh 0 0 led) }).get? s.heap.objs.size = some { cls := .type "set", dict := none, data := .set #[] 0 (.fresh 0 0 led) } := Heap.get?_push_size _ rfl
      have hT : Shared.TypeIs { s with heap := s.heap.push { cls := .type "set", dict := none, data := .set #[] 0 (.fresh 0 0 led) } } (.ref s.heap.objs.size) "set" := ⟨_, hS, rfl⟩
      have hli := PySem.F.called_set.init.lookup
      have hbi := PySem.F.called_set.init.bind (.ref s.heap.objs.size)
      repeat (any_goals (walk_at "wp"))
      refine codeAny_mono (codeAny_call_builtin (R := wants (fun r s₂ => r = .none ∧ ∃ h' tk c, s₂ = { s with heap := h', toks := tk } ∧
          h'.SetOf (PySem.strKind prog w) s.heap.objs.size (fun z => ys.contains z) c ∧
          (∀ b o, b < s.heap.objs.size → s.heap.get? b = some o → h'.get? b = some o)) E) PySem.F.called_set.init.plain PySem.F.entry_set_init (check_set_init_1 hT ?_)) fun r₂ s₂ hr₂ => ?_
      · have hol' : (s.heap.push { cls := .type "set", dict := none, data := .set #[] 0 (.fresh 0 0 led) }).get? l = some (lo vs nl) := Heap.get?_push_of_some _ hl
        have hsls := PySem.F.sub_list_set
        have hslf := PySem.F.sub_list_frozenset
        have hne : (Value.type "list" == Value.type "dict") = false := by decide
        have hl1 : (s.heap.push { cls := .type "set", dict := none, data := .set #[] 0 (.fresh 0 0 led) }).IsList l vs.toArray := ⟨_, hol', rfl, nl, rfl⟩
        unfold Builtin.«set.__init__» noKeywords Builtin.Frozenset.updateFrom
        generalize hPI : pyIter = PI
        repeat walk_at "wp"
        subst hPI
        refine wpAny_pyIter_list hl1 ?_
        refine wpAny_bind (wpAny_runValue ?_)
        have hlS : l < s.heap.objs.size := Heap.lt_size hl
        have hh3 : A.in1.in1.in1.handled = none := by simp [hh]
        have hneI : l ≠ (s.heap.push { cls := .type "set", dict := none, data := .set #[] 0 (.fresh 0 0 led) }).objs.size := by
          rw [Heap.size_push]; exact Nat.ne_of_lt (Nat.lt_succ_of_lt hlS)
        have hSf : s.heap.objs.size ∉ [(s.heap.push { cls := .type "set", dict := none, data := .set #[] 0 (.fresh 0 0 led) }).objs.size, l] := by
          rw [Heap.size_push]; simp only [List.mem_cons, List.mem_singleton, List.not_mem_nil, or_false, not_or]
          exact ⟨Nat.ne_of_lt (Nat.lt_succ_self _), Nat.ne_of_gt hlS⟩
        have hval : ∀ (i : Nat) (v : Value), vs.toArray[i]? = some v → ∃ y t, v = .str y t ∧ ys[i]? = some y := fun i v hv => hi.item i v (by simpa using hv)
        have hsz : ys.length = vs.toArray.size := by rw [← hi.len_eq]; simp
        refine set_loop ((Walks.list hh3 _ l hneI vs.toArray).toS) s.heap.objs.size hSf ys hsz hval (by (first | walk_at "om" | omega)) (vs.toArray.size - 0) 0 _ (by (first | walk_at "om" | omega)) (Nat.zero_le _)
          ⟨⟨_, Heap.get?_push_size _ rfl, rfl, rfl⟩, (hl1.push _)⟩ ?hS0 ?hR
        case hS0 =>
          have hget : ((s.heap.push { cls := .type "set", dict := none, data := .set #[] 0 (.fresh 0 0 led) }).push { cls := .type "list_iterator", data := .fields #[.ref l, .int 0 0] }).get? s.heap.objs.size
              = some { cls := .type "set", dict := none, data := .set #[] 0 (.fresh 0 0 led) } := Heap.get?_push_of_some _ hS
          exact ⟨0, Nat.le_refl _, SetOf_congr ((setObjOf_fresh (knd := PySem.strKind prog w) led).setOf hget (by unfold scanBound; (first | walk_at "om" | omega))) (fun _ => rfl) rfl⟩
        case hR =>
          rintro s' hm ⟨c, _, hS'⟩
          obtain ⟨h', g', d', tk', os'⟩ := s'
          have eg : g' = s.gens := hm.gens
          have ed : d' = s.drawn := hm.drawn
          have eo : os' = s.os := hm.os
          subst eg; subst ed; subst eo
          show wpAny _ _ _ _ _ _
          refine wpAny_pure ?_
          show wpAny _ _ (ret Value.none) _ _ _
          refine wpAny_pure ⟨rfl, h', tk', c, rfl, hS', fun b o hb e => ?_⟩
          have hb1 : b ≠ s.heap.objs.size := Nat.ne_of_lt hb
          have hb2 : b ≠ (s.heap.push { cls := .type "set", dict := none, data := .set #[] 0 (.fresh 0 0 led) }).objs.size := by
            rw [Heap.size_push]; exact Nat.ne_of_lt (Nat.lt_succ_of_lt hb)
          exact hm.heap b o (by simp only [List.mem_cons, List.mem_singleton, List.not_mem_nil, or_false, not_or]; exact ⟨hb1, hb2⟩) (Heap.get?_push_of_some _ (Heap.get?_push_of_some _ e))
      · cases r₂ with
        | error e => exact hr₂
        | ok fl₂ =>
          cases fl₂ with
          | ret r =>
            obtain ⟨rfl, h', tk, c, rfl, hS', hk'⟩ := hr₂
            repeat (any_goals (walk_at "wp"))
            exact h _ _ _ hS' hk'
          | _ => exact hr₂.elim
    | _ => exact hr.elim
end
end
section
set_option maxRecDepth 100000
set_option maxHeartbeats 0
theorem bnd_owner_setc : (kfb_private% "nameAndClass") (.builtin "set.__contains__") = pure (Str.ofString "__contains__", .type "set") := by first | decide +kernel | kernel_rfl
theorem bnd_lk_setc : typeLookup (.type "set") "__contains__" = pure (some (.builtin "set.__contains__")) := by rw [typeLookup_type, builtinLookup_eq_fast]; kernel_rfl
theorem bnd_sub_set : isSubtype (.type "set") (.type "set") = pure true := by rw [isSubtype_type]; kernel_rfl
section
variable {prog : Program} {w : World} {M : Model} {A : Around} {E : Value → Shared → Prop} {s : Shared} {a : Addr} {o : Obj} {id T : String} {n : Str}
theorem bnd_get_setc {Q : Value → Shared → Prop} {h : Heap} {g : Array GenState} {d : Drawn} {t : Nat} {os : OsState} {Sf : Str → Bool} {c : Nat} (hS : h.SetOf (PySem.strKind prog w) a Sf c)
    (hq : Q (.ref h.objs.size) ⟨h.push (bnd "set.__contains__" (.ref a)), g, d, t + 1, os⟩) :
    wpAny (model prog w) A (getAttr (.ref a) "__contains__" true) Q E ⟨h, g, d, t, os⟩ := by
  obtain ⟨⟨oc, od, odat, osl⟩, es, ep, tt, hx, ⟨e1, e2, e3⟩, hd, _⟩ := hS
  dsimp only at e1 e2 e3 hd
  subst e1 e2 e3 hd
  have hT : ∀ tk', (⟨h, g, d, tk', os⟩ : Shared).TypeIs (.ref a) "set" := fun _ => ⟨_, hx, rfl⟩
  have f3 := PySem.F.slot_set_getattribute.lookup
  have f4 := PySem.F.slot_set_getattribute.bind (.ref a)
  have f5 := PySem.F.type_set_contains
  have f6 := bnd_lk_setc
  unfold getAttr getAttrBy
  repeat (any_goals (walk_at "wp"))
  refine codeAny_call_builtin PySem.F.slot_set_getattribute.plain PySem.F.entry_set_ga (PySem.F.slot_set_getattribute.check _ _ _ _ _ _ _ _ (hT _) (PySem.F.args_set_getattribute_2 _ _) ?_)
  have f7 := md_slot_get.lookup
  have f8 := md_no_set
  have f9 := md_no_del
  unfold Builtin.«object.__getattribute__»
  repeat (any_goals (walk_at "wp"))
  refine codeAny_call_builtin md_slot_get.plain md_entry_get (md_slot_get.check _ _ _ _ _ _ _ _ (by exact PySem.F.type_set_contains) (md_args_get _ _ _) (md_get bnd_owner_setc (hT _) bnd_sub_set (by decide +kernel) ?_))
  repeat (any_goals (walk_at "wp"))

theorem bnd_setc_check {l : Addr} {v : Value} {Sf : Str → Bool} {c : Nat} (hS : s.heap.SetOf (PySem.strKind prog w) l Sf c) : wpAny (model prog w) A (checkBoundCall "set.__contains__" ⟨[.ref l, v], []⟩) (fun _ s' => s' = s) (fun _ _ => False) s := by
  obtain ⟨⟨oc, od, odat, osl⟩, es, ep, tt, hx, ⟨e1, e2, e3⟩, hd, _⟩ := hS
  dsimp only at e1 e2 e3 hd
  subst e1 e2 e3 hd
  have hT : s.TypeIs (.ref l) "set" := ⟨_, hx, rfl⟩
  have f1 : isSubtype (.type "set") (.type "module") = pure false := by rw [isSubtype_type]; kernel_rfl
  have f2 : isSubtype (.type "set") (.type "type") = pure false := by rw [isSubtype_type]; kernel_rfl
  unfold checkBoundCall
  repeat (any_goals (walk_at "wp"))
  rfl
/-- is a text in the set? asked by the bound method -/
theorem bnd_setc_call {u l : Addr} {y : Str} {t : Tok} {Sf : Str → Bool} {c : Nat} {Q : Value → Shared → Prop} (ho : s.heap.get? u = some (bnd "set.__contains__" (.ref l))) (hS : s.heap.SetOf (PySem.strKind prog w) l Sf c)
    (h : Q (.bool (Sf y)) { s with toks := s.toks + 1 }) : wpAny (model prog w) A (call (.ref u) [.str y t]) Q E s := by
  refine bnd_call ho (bnd_setc_check hS) (fun _ => Code.quiet_builtin _ (by decide +kernel)) (by decide +kernel) entry_set_contains ?_
  unfold Builtin.«frozenset.__contains__» Builtin.Frozenset.oneOther
  simp only [List.isEmpty_nil, bind_assoc]
  unfold Builtin.Frozenset.addrOf Builtin.Frozenset.withSetAsKey setContains
  refine wpAny_bind (wpAny_pure ?_)
  try dsimp only
  refine wpAny_bind (wpAny_pure ?_)
  try dsimp only
  refine wpAny_bind (wpAny_tryCatch ?_)
  refine wpAny_holding ?_
  refine wpAny_bind ((PySem.strKind prog w).pyHash (strKind_is _ _ y t) ?_)
  refine wpAny_bind (wpAny_setFind_of (s := { s with toks := s.toks + 1 }) (strKind_is _ _ y t) rfl hS fun r hr => ?_)
  refine wpAny_pure ?_
  show wpAny _ _ (ret (Value.bool r.isSome)) _ _ _
  rw [hr]
  exact wpAny_pure ⟨_, rfl, h⟩
end
end
section
set_option maxRecDepth 100000
set_option maxHeartbeats 0
theorem fil_mro : mroOf (.type "filter") = pure [.type "filter", .type "object"] := by rw [mroOf_type]; kernel_rfl
theorem fil_lookup_new : typeLookup (.type "filter") "__new__" = pure (some (.builtin "filter.__new__")) := by rw [typeLookup_type, builtinLookup_eq_fast]; kernel_rfl
theorem fil_init : Slot "filter" "__init__" "object.__init__" :=
  .of (owner := "object") (n := "__init__") (by rw [typeLookup_type, builtinLookup_eq_fast]; kernel_rfl) (by decide +kernel) (by decide +kernel) (by decide +kernel)
    (by first | exact .inl (by decide +kernel) | exact .inr (by decide +kernel)) (by rw [isSubtype_type]; kernel_rfl)
theorem called_filter : TypeCalled "filter" "filter.__new__" "object.__init__" :=
  ⟨by decide +kernel, by decide +kernel, ⟨_, _, fil_mro⟩, madeBy_type fil_mro fil_lookup_new (by decide +kernel), by decide +kernel, by rw [isSubtype_type]; kernel_rfl, fil_init⟩
theorem fil_typeCall (a b : Value) : checkTypeCall "filter" ⟨[a, b], []⟩ = pure () := by kernel_rfl
theorem fil_newCall (a b : Value) : checkBuiltinCall "filter.__new__" ⟨[.type "filter", a, b], []⟩ = pure () := by kernel_rfl
theorem fil_initArgs (obj a b : Value) : argsOk "object.__init__" ⟨[obj, a, b], []⟩ := by
  unfold argsOk; rw [signature?_of (id := "object.__init__") (n := ['_', '_', 't', 'i', 'n', 'i', '_', '_']) (o := ['t', 'c', 'e', 'j', 'b', 'o']) (by kernel_rfl) PySem.F.owner_object]; kernel_rfl
theorem fil_entry_new : entryFor table "filter.__new__" = some Builtin.«filter.__new__» := entryFor_of_tree (by kernel_rfl)
theorem fil_sub : isSubtype (.type "filter") (.type "filter") = pure true := by rw [isSubtype_type]; kernel_rfl
noncomputable def filO (f it : Value) : Obj := { cls := .type "filter", data := .fields #[f, it] }
section
variable {prog : Program} {w : World} {A : Around} {E : Value → Shared → Prop} {s : Shared}
theorem fil_new_in (f : Value) (l : Addr) (its : Array Value) : MeetsIn prog w (Builtin.«filter.__new__» ⟨[.type "filter", f, .ref l], []⟩) (fun A R s => s.heap.IsList l its ∧ R (.ok (.ret (Value.ref (s.heap.objs.size + 1))))
    { s with heap := (s.heap.push { cls := .type "list_iterator", data := .fields #[.ref l, .int 0 0] }).push (filO f (.ref s.heap.objs.size)) }) :=
  .of_wp fun A R s h => by
    obtain ⟨hl, hr⟩ := h
    have hsub := fil_sub
    obtain ⟨hp, g, d, tk, os⟩ := s
    unfold Builtin.«filter.__new__»
    generalize hPI : pyIter = PI
    repeat walk_at "wp"
    subst hPI
    refine wpAny_pyIter_list hl ?_
    have hz := Heap.size_push hp { cls := .type "list_iterator", data := .fields #[.ref l, .int 0 0] }
    repeat walk_at "wp"
    refine ⟨_, rfl, ?_⟩
    rw [hz]
    exact hr
theorem call_filter {f : Value} {l : Addr} {its : Array Value} {Q : Value → Shared → Prop} (hl : s.heap.IsList l its)
    (h : Q (.ref (s.heap.objs.size + 1)) { s with heap := (s.heap.push { cls := .type "list_iterator", data := .fields #[.ref l, .int 0 0] }).push (filO f (.ref s.heap.objs.size)) }) :
    wpAny (model prog w) A (call (.type "filter") [f, .ref l]) Q E s := by
  refine callType_newIn called_filter (by decide) (fil_typeCall _ _) (fil_newCall _ _) (fun obj => fil_initArgs obj _ _) fil_entry_new (fil_new_in f l its) ⟨hl, ⟨filO f (.ref s.heap.objs.size), ?_, rfl⟩, h⟩
  have := Heap.get?_push_size (s.heap.push { cls := .type "list_iterator", data := .fields #[.ref l, .int 0 0] }) (o := filO f (.ref s.heap.objs.size)) rfl
  rwa [Heap.size_push] at this
end
end
section
set_option maxRecDepth 100000
set_option maxHeartbeats 0
section
variable {prog : Program} {w : World} {A : Around} {E : Value → Shared → Prop} {s : Shared}
theorem cs_item {it l : Addr} {i : Nat} {items : Array Value} {x : Value} {Q : Option Value → Shared → Prop} (hit : s.heap.IsListIter it l i)
    (hl : s.heap.IsList l items) (hx : items[i]? = some x)
    (hQ : ∀ h', h'.IsListIter it l (i + 1) → Heap.SameBut it s.heap h' → Q (some x) { s with heap := h' }) :
    wpAny (model prog w) A (callSpecial? (.ref it) "__next__") Q E s := by
  obtain ⟨o, ho, hc, hd⟩ := id hit
  obtain ⟨ol, hol, _, nl, hdl⟩ := hl
  refine wpAny_callSpecial?_slot (name := Str.ofString "__next__") hit.typeIs slot_listiter_next
    (wpAny_call_entry slot_listiter_next hit.typeIs entry_listiter_next ?_ (args_listiter_next _))
  show wpAny _ _ (field (.ref it) 0 >>= _) _ _ s
  refine wpAny_bind (wpAny_field ho hd (x := .ref l) rfl ?_)
  show wpAny _ _ (if (Value.ref l == Value.none) = true then _ else _) _ _ s
  rw [if_neg (show ¬ ((Value.ref l == Value.none) = true) from Bool.false_ne_true)]
  show wpAny _ _ (field (.ref it) 1 >>= _) _ _ s
  refine wpAny_bind (wpAny_field ho hd (x := .int i 0) rfl ?_)
  show wpAny _ _ (seqItems? (.ref l) >>= _) _ _ s
  refine wpAny_bind (wpAny_seqItems hol hdl ?_)
  simp only [Int.toNat_natCast, hx]
  refine wpAny_bind (wpAny_setField ho hd (by simp) (wpAny_pure ⟨x, rfl, (hQ _ ?_ (Heap.SameBut.update ..))⟩))
  exact ⟨_, Heap.get?_update_self _ ho (Obj.isFreed_of_fields (Obj.data_mapFields hd _)), (Obj.cls_mapFields ..).trans hc, by
    rw [Obj.data_mapFields hd]; simp [rawInt]⟩
theorem cs_end {it l : Addr} {i : Nat} {items : Array Value} {Q : Option Value → Shared → Prop} (hh : A.handled = none)
    (hit : s.heap.IsListIter it l i) (hl : s.heap.IsList l items) (hx : items[i]? = none)
    (hE : ∀ h' e, Heap.ExtBut it s.heap h' → (∃ o, h'.get? e = some o ∧ o.cls = .type "StopIteration") → E (.ref e) { s with heap := h' }) :
    wpAny (model prog w) A (callSpecial? (.ref it) "__next__") Q E s := by
  obtain ⟨o, ho, hc, hd⟩ := id hit
  obtain ⟨ol, hol, _, nl, hdl⟩ := hl
  refine wpAny_callSpecial?_slot (name := Str.ofString "__next__") hit.typeIs slot_listiter_next
    (wpAny_call_entry slot_listiter_next hit.typeIs entry_listiter_next ?_ (args_listiter_next _))
  show wpAny _ _ (field (.ref it) 0 >>= _) _ _ s
  refine wpAny_bind (wpAny_field ho hd (x := .ref l) rfl ?_)
  show wpAny _ _ (if (Value.ref l == Value.none) = true then _ else _) _ _ s
  rw [if_neg (show ¬ ((Value.ref l == Value.none) = true) from Bool.false_ne_true)]
  show wpAny _ _ (field (.ref it) 1 >>= _) _ _ s
  refine wpAny_bind (wpAny_field ho hd (x := .int i 0) rfl ?_)
  show wpAny _ _ (seqItems? (.ref l) >>= _) _ _ s
  refine wpAny_bind (wpAny_seqItems hol hdl ?_)
  simp only [Int.toNat_natCast, hx]
  refine wpAny_bind (wpAny_rule (wpAny_bind (wpAny_setField ho hd (by simp) ?_)))
  show wpAny _ _ (newExc (.type "StopIteration") [] >>= _) _ _ _
  refine wpAny_bind ?_
  simp only [newExc, newTuple]
  refine wpAny_bind (wpAny_newObj_type ?_ (by size_fits))
  refine wpAny_bind (m := firstArgMember _ _) (wpAny_of_eq (a := Value.none) (by first | rfl | (simp only [firstArgMember]; rfl)) ?_)
  refine wpAny_newObj_type ?_ (by size_fits)
  simp only [raiseNew]
  refine wpAny_bind (wpAny_handled ?_)
  first | rw [show A.in1.handled = none from hh] | rw [hh]
  refine wpAny_bind (wpAny_pure (wpAny_throw ?_))
  exact hE _ _ (((Heap.SameBut.update ..).extBut.push _).push _) ⟨_, Heap.get?_push_size _ rfl, rfl⟩

theorem fil_next_slot : Slot "filter" "__next__" "filter.__next__" :=
  .of (owner := "filter") (n := "__next__") (by rw [typeLookup_type, builtinLookup_eq_fast]; kernel_rfl) (by decide +kernel) (by decide +kernel) (by decide +kernel)
    (by first | exact .inl (by decide +kernel) | exact .inr (by decide +kernel)) (by rw [isSubtype_type]; kernel_rfl)
theorem fil_next_entry : entryFor table "filter.__next__" = some Builtin.«filter.__next__» := entryFor_of_tree (by kernel_rfl)
theorem fil_next_args (a : Value) : argsOk "filter.__next__" ⟨[a], []⟩ := by unfold argsOk; kernel_rfl
theorem fil_next_plain : plainId "filter.__next__" = true := by decide +kernel

/-- what a filter over a list holds, at place p -/
structure FilAt (prog : Program) (w : World) (h : Heap) (F it l m S : Addr) (vs : List Value) (nl p : Nat) (Sf : Str → Bool) (c : Nat) : Prop where
  fo : h.get? F = some (filO (.ref m) (.ref it))
  ito : h.IsListIter it l p
  lio : h.get? l = some (lo vs nl)
  mo : h.get? m = some (bnd "set.__contains__" (.ref S))
  so : h.SetOf (PySem.strKind prog w) S Sf c
noncomputable def keepV (Sf : Str → Bool) : Value → Bool
  | .str y _ => Sf y
  | _ => false
theorem fil_next_code {F it l m S : Addr} {vs : List Value} {nl c : Nat} {Sf : Str → Bool} {ys : List Str} (hv : StrsAre vs ys) (hFi : F ≠ it) (hli : l ≠ it) (hmi : m ≠ it) (hSi : S ≠ it) {R : Result → Shared → Prop} (hh : A.handled = none) :
    ∀ (k p : Nat) (s : Shared), vs.length - p = k → p ≤ vs.length → FilAt prog w s.heap F it l m S vs nl p Sf c →
      (∀ j v h' tk, p ≤ j → j < vs.length → vs[j]? = some v → keepV Sf v = true → (vs.drop p).filter (keepV Sf) = v :: (vs.drop (j + 1)).filter (keepV Sf) → FilAt prog w h' F it l m S vs nl (j + 1) Sf c → (∀ b ob, b ≠ it → s.heap.get? b = some ob → h'.get? b = some ob) → R (.ok (.ret v)) { s with heap := h', toks := tk }) →
      ((vs.drop p).filter (keepV Sf) = [] → ∀ h' tk e, (∃ o, h'.get? e = some o ∧ o.cls = .type "StopIteration") → (∀ b ob, b ≠ it → s.heap.get? b = some ob → h'.get? b = some ob) → R (.error (.ref e)) { s with heap := h', toks := tk }) →
      codeAny (model prog w) A (.builtin "filter.__next__" ⟨[.ref F], []⟩) R s := by
  intro k
  induction k with
  | zero =>
    intro p s hk hp st hR hE
    refine codeAny_builtin fil_next_entry ?_
    rw [Around.under_plainId fil_next_plain _]
    show wpAny _ _ (field (.ref F) 0 >>= _) _ _ s
    refine wpAny_bind (wpAny_field st.fo rfl (x := .ref m) rfl ?_)
    show wpAny _ _ (field (.ref F) 1 >>= _) _ _ s
    refine wpAny_bind (wpAny_field st.fo rfl (x := .ref it) rfl ?_)
    refine wpAny_bind (cs_end hh st.ito (isList_of st.lio) (by simp; (first | walk_at "om" | omega)) (fun h' e hx he => ?_))
    exact hE (by rw [List.drop_of_length_le (by (first | walk_at "om" | omega))]; rfl) h' _ e he fun b ob hb e => hx b ob hb e
  | succ k ih =>
    intro p s hk hp st hR hE
    obtain ⟨v, hvp⟩ : ∃ v, vs[p]? = some v := ⟨_, List.getElem?_eq_getElem (by (first | walk_at "om" | omega))⟩
    obtain ⟨y, t, rfl, hy⟩ := hv.item p v hvp
    have hd : vs.drop p = .str y t :: vs.drop (p + 1) := by
      rw [List.drop_eq_getElem_cons (by (first | walk_at "om" | omega))]
      have := List.getElem?_eq_getElem (l := vs) (i := p) (by (first | walk_at "om" | omega))
      rw [this] at hvp; injection hvp with hvp; rw [hvp]
    refine codeAny_builtin fil_next_entry ?_
    rw [Around.under_plainId fil_next_plain _]
    show wpAny _ _ (field (.ref F) 0 >>= _) _ _ s
    refine wpAny_bind (wpAny_field st.fo rfl (x := .ref m) rfl ?_)
    show wpAny _ _ (field (.ref F) 1 >>= _) _ _ s
    refine wpAny_bind (wpAny_field st.fo rfl (x := .ref it) rfl ?_)
    refine wpAny_bind (cs_item st.ito (isList_of st.lio) (by simpa using hvp) (fun h' hit hs => ?_))
    have st' : FilAt prog w h' F it l m S vs nl (p + 1) Sf c := ⟨hs.extBut _ _ hFi st.fo, hit, hs.extBut _ _ hli st.lio, hs.extBut _ _ hmi st.mo, by
      obtain ⟨o, es, ep, tb, ho, rest⟩ := st.so
      exact ⟨o, es, ep, tb, hs.extBut _ _ hSi ho, rest⟩⟩
    try dsimp only
    refine wpAny_bind (wpAny_holding ?_)
    refine KFB.if_not rfl ?_
    refine wpAny_bind (bnd_setc_call st'.mo st'.so ?_)
    refine wpAny_holding (wpAny_truthy_bool ?_)
    cases hq : Sf y with
    | true =>
      refine wpAny_pure ?_
      exact hR p (.str y t) h' _ (Nat.le_refl _) (by (first | walk_at "om" | omega)) hvp hq (by rw [hd, List.filter_cons]; simp [keepV, hq]) st' fun b ob hb e => hs.extBut b ob hb e
    | false =>
      refine wpAny_pure ⟨plainId_quiet fil_next_plain _, ?_⟩
      refine ih (p + 1) _ (by (first | walk_at "om" | omega)) (by (first | walk_at "om" | omega)) st' (fun j v h2 tk hj1 hj2 hj3 hj4 hj5 st2 hk2 => ?_) (fun h0 h2 tk e he hk2 => ?_)
      · exact hR j v h2 tk (by (first | walk_at "om" | omega)) hj2 hj3 hj4 (by rw [hd, List.filter_cons]; simp only [keepV, hq, Bool.false_eq_true, if_false]; exact hj5) st2 fun b ob hb e => hk2 b ob hb (hs.extBut b ob hb e)
      · exact hE (by rw [hd, List.filter_cons]; simp only [keepV, hq, Bool.false_eq_true, if_false]; exact h0) h2 tk e he fun b ob hb e => hk2 b ob hb (hs.extBut b ob hb e)
end
end
section
set_option maxRecDepth 100000
set_option maxHeartbeats 0
theorem fil_iter_slot : Slot "filter" "__iter__" "filter.__iter__" :=
  .of (owner := "filter") (n := "__iter__") (by rw [typeLookup_type, builtinLookup_eq_fast]; kernel_rfl) (by decide +kernel) (by decide +kernel) (by decide +kernel)
    (by first | exact .inl (by decide +kernel) | exact .inr (by decide +kernel)) (by rw [isSubtype_type]; kernel_rfl)
theorem fil_iter_entry : entryFor table "filter.__iter__" = some Builtin.«dict_keyiterator.__iter__» :=
  entryFor_alias (id' := "dict_keyiterator.__iter__") (by kernel_rfl) (by first | rfl | decide +kernel) (by decide +kernel) (by kernel_rfl)
theorem fil_iter_args (a : Value) : argsOk "filter.__iter__" ⟨[a], []⟩ := by unfold argsOk; kernel_rfl
section
variable {prog : Program} {w : World} {A : Around} {E : Value → Shared → Prop} {s : Shared}
theorem fil_pyNext {F it l m S : Addr} {vs : List Value} {nl c : Nat} {Sf : Str → Bool} {ys : List Str} (hv : StrsAre vs ys) (hFi : F ≠ it) (hli : l ≠ it) (hmi : m ≠ it) (hSi : S ≠ it) {Q : Option Value → Shared → Prop} (hh : A.handled = none) {p : Nat}
    (hp : p ≤ vs.length) (st : FilAt prog w s.heap F it l m S vs nl p Sf c)
    (hR : ∀ j v h' tk, p ≤ j → j < vs.length → vs[j]? = some v → keepV Sf v = true → (vs.drop p).filter (keepV Sf) = v :: (vs.drop (j + 1)).filter (keepV Sf) → FilAt prog w h' F it l m S vs nl (j + 1) Sf c → (∀ b ob, b ≠ it → s.heap.get? b = some ob → h'.get? b = some ob) → Q (some v) { s with heap := h', toks := tk })
    (hE : (vs.drop p).filter (keepV Sf) = [] → ∀ h' tk, (∀ b ob, b ≠ it → s.heap.get? b = some ob → h'.get? b = some ob) → Q none { s with heap := h', toks := tk }) :
    wpAny (model prog w) A (pyNext (.ref F)) Q E s := by
  have hT : s.TypeIs (.ref F) "filter" := ⟨_, st.fo, rfl⟩
  unfold pyNext
  refine wpAny_bind (wpAny_attempt (wpAny_callSpecial?_slot (name := Str.ofString "__next__") hT fil_next_slot ?_))
  refine wpAny_call (codeAny_call_builtin_code (plainId_quiet fil_next_plain _) (fil_next_slot.check _ _ _ _ _ _ _ _ hT (fil_next_args _) ?_))
  refine fil_next_code hv hFi hli hmi hSi hh _ p s rfl hp st (fun j v h' tk a b c d e f g => ?_) (fun h0 h' tk e he hk => ?_)
  · exact wpAny_pure (hR j v h' tk a b c d e f g)
  · obtain ⟨ob, a, b⟩ := he
    exact wpAny_bind (wpAny_isInstance (T := "StopIteration") (b := true) ⟨ob, a, b⟩ isSubtype_stop (wpAny_pure (hE h0 h' tk hk)))

theorem Walks_filter {F it l m S : Addr} {vs : List Value} {nl c : Nat} {Sf : Str → Bool} {ys : List Str} (hv : StrsAre vs ys) (hFi : F ≠ it) (hli : l ≠ it) (hmi : m ≠ it) (hSi : S ≠ it) (hh : A.handled = none) :
    Walks prog w A F [F, it, l, m, S] [it] (vs.filter (keepV Sf)).length (fun i v => (vs.filter (keepV Sf))[i]? = some v)
      (fun i h => ∃ p, p ≤ vs.length ∧ FilAt prog w h F it l m S vs nl p Sf c ∧ (vs.drop p).filter (keepV Sf) = (vs.filter (keepV Sf)).drop i) where
  sub := fun b hb => by simp at hb; simp [hb]
  frame := fun i h h' st hk => by
    obtain ⟨p, hp, st, e⟩ := st
    refine ⟨p, hp, ⟨hk F (by simp) _ st.fo, st.ito.at fun o e => hk it (by simp) o e, hk l (by simp) _ st.lio, hk m (by simp) _ st.mo, ?_⟩, e⟩
    obtain ⟨o, es, ep, tb, ho, rest⟩ := st.so
    exact ⟨o, es, ep, tb, hk S (by simp) _ ho, rest⟩
  item := fun i s Q E hi st hQ => by
    obtain ⟨p, hp, st, e⟩ := st
    have hdi : (vs.filter (keepV Sf)).drop i = (vs.filter (keepV Sf))[i] :: (vs.filter (keepV Sf)).drop (i + 1) := List.drop_eq_getElem_cons hi
    refine fil_pyNext hv hFi hli hmi hSi hh hp st (fun j v h' tk a b c d f g k => ?_) (fun h0 => ?_)
    · rw [e, hdi] at f
      injection f with f1 f2
      refine hQ v h' tk (by rw [List.getElem?_eq_getElem hi, f1]) ⟨j + 1, b, g, f2.symm⟩ fun b ob hb e => k b ob (by simpa using hb) e
    · rw [e, hdi] at h0; cases h0
  done := fun s Q E st hQ => by
    obtain ⟨p, hp, st, e⟩ := st
    rw [List.drop_length] at e
    refine fil_pyNext hv hFi hli hmi hSi hh hp st (fun j v h' tk a b c d f g k => ?_) (fun h0 h' tk k => ?_)
    · rw [e] at f; cases f
    · exact hQ h' tk fun b ob hb e => k b ob (by simpa using hb) e
  self := fun i s Q E st hQ => by
    obtain ⟨p, hp, st, e⟩ := st
    have hT : s.TypeIs (.ref F) "filter" := ⟨_, st.fo, rfl⟩
    refine wpAny_pyIter_slot hT fil_iter_slot (wpAny_call_entry fil_iter_slot hT fil_iter_entry ?_ (fil_iter_args _))
    show wpAny _ _ (ret (.ref F)) _ _ s
    exact wpAny_pure ⟨_, rfl, "filter", _, hT, fil_next_slot.lookup, hQ⟩
end
end
section
set_option maxRecDepth 100000
set_option maxHeartbeats 0
theorem fil_no_len : typeLookup (.type "filter") "__len__" = pure none := by rw [typeLookup_type, builtinLookup_eq_fast]; kernel_rfl
theorem fil_no_hint : typeLookup (.type "filter") "__length_hint__" = pure none := by rw [typeLookup_type, builtinLookup_eq_fast]; kernel_rfl
section
variable {prog : Program} {w : World} {A : Around} {s : Shared} {R : Result → Shared → Prop}
variable {I : Addr} {fp wr : List Addr} {G : Array GenState → Array GenState → Prop} {n : Nat} {P : Nat → Value → Prop} {Ws : Nat → Shared → Prop}
theorem fil_extend (W : WalksS prog w A.in1 I fp wr G n P Ws) (hT : ∀ i s, Ws i s → s.TypeIs (.ref I) "filter") (S : Addr) (res : Value) (c₀ : Nat) (hst : Ws 0 s) (hSf : S ∉ fp) (hI : I ∈ fp)
    (hS : s.heap.get? S = some { cls := .type "list", data := .seq #[] c₀ })
    (hR : ∀ s' acc' c', Moved (S :: wr) G s s' → s'.heap.get? S = some { cls := .type "list", dict := none, data := .seq acc' c', slots := #[] } → ItemsOf P acc' n → R (.ok (.ret res)) s') (hn : n ≤ sizeLine) :
    wpAny (model prog w) A.in1 (Builtin.List.listExtendWith (.ref S) (.ref I) res)
      (fun fin s' => match fin with | .done f => R (.ok f) s' | .again c' => c'.quiet = true ∧ codeAny (model prog w) A c' R s') (fun e s' => R (.error e) s') s := by
  have hSI : S ≠ I := fun e => hSf (e ▸ hI)
  unfold Builtin.List.listExtendWith
  refine wpAny_bind (wpAny_typeOf (hT 0 _ hst) ?_)
  have h1 : Builtin.List.listSameRef (.ref S) (.ref I) = false := by simp [Builtin.List.listSameRef, hSI]
  have h2 : (Value.type "filter" == Value.type "list") = false := by decide
  have h3 : (Value.type "filter" == Value.type "tuple") = false := by decide
  simp only [h1, h2, h3, Bool.or_false, Bool.false_eq_true, if_false]
  refine wpAny_bind (W.self 0 _ _ _ hst ?_)
  refine wpAny_bind (wpAny_holding ?_)
  unfold Builtin.List.listLengthHint
  refine wpAny_bind (wpAny_specialOf (hT 0 _ hst) fil_no_len ?_)
  show wpAny _ A.in1 (specialOf (Value.ref I) (Str.ofString "__length_hint__") >>= _) _ _ _
  refine wpAny_bind (wpAny_specialOf (hT 0 _ hst) fil_no_hint ?_)
  refine wpAny_pure ?_
  show wpAny _ A.in1 (rule "list.extend.makes-room" >>= fun _ => Builtin.List.listTouch (.ref S) >>= fun _ =>
    again (.builtin "list.extend.loop" ⟨[.ref S, .ref I, res], []⟩)) _ _ _
  refine wpAny_bind (wpAny_rule ?_)
  refine wpAny_bind ?_
  show wpAny _ A.in1 (updateSeq S (·.push .none) >>= fun _ => updateSeq S (·.pop)) _ _ _
  refine wpAny_bind (wpAny_updateSeq hS rfl ?_)
  have hS₂ := Heap.get?_update_self (Obj.mapSeq (·.push Value.none)) hS rfl
  refine wpAny_updateSeq (hz := by seq_fits) hS₂ rfl ?_
  have hS₃ := Heap.get?_update_self (Obj.mapSeq (·.pop)) hS₂ rfl
  have oth : ∀ b o, b ≠ S → s.heap.get? b = some o → ((s.heap.update S (Obj.mapSeq (·.push Value.none))).update S (Obj.mapSeq (·.pop))).get? b = some o :=
    fun b o hb e => (Heap.get?_update_other _ _ (Ne.symm hb)).trans ((Heap.get?_update_other _ _ (Ne.symm hb)).trans e)
  refine wpAny_pure ⟨plainId_quiet PySem.F.plain_extend_loop _, codeAny_extend_loopS W hn _ hSf _ n 0 _ _ _ rfl (Nat.zero_le _)
    (W.frame 0 s _ s.toks hst (Nat.le_refl _) fun b hb o e => oth b o (fun h => hSf (h ▸ hb)) e) hS₃ (ItemsOf.nil P) fun s' acc' c' hm hS' hacc => ?_⟩
  exact hR s' acc' c' (Moved.trans W.gtrans ((Moved.refl W.grefl).then_heap (Nat.le_refl _) fun b o hb e => oth b o (fun h => hb (h ▸ List.mem_cons_self)) e) hm) hS' hacc
theorem fil_list_init (W : WalksS prog w A.in1 I fp wr G n P Ws) (hT : ∀ i s, Ws i s → s.TypeIs (.ref I) "filter") (S : Addr) (hst : Ws 0 s) (hSf : S ∉ fp) (hI : I ∈ fp)
    (hS : s.heap.get? S = some { cls := .type "list", data := .seq #[] })
    (hR : ∀ s' acc' c', Moved (S :: wr) G s s' → s'.heap.get? S = some { cls := .type "list", dict := none, data := .seq acc' c', slots := #[] } → ItemsOf P acc' n → R (.ok (.ret .none)) s') (hn : n ≤ sizeLine) :
    wpAny (model prog w) A.in1 (Builtin.«list.__init__» ⟨[.ref S, .ref I], []⟩)
      (fun fin s' => match fin with | .done f => R (.ok f) s' | .again c' => c'.quiet = true ∧ codeAny (model prog w) A c' R s') (fun e s' => R (.error e) s') s := by
  show wpAny _ A.in1 (do let old ← Builtin.List.listItems (.ref S); Builtin.List.listUpdate (.ref S) (fun _ => #[]); letGo old.toList.reverse; Builtin.List.listExtendWith (.ref S) (.ref I) .none) _ _ s
  refine wpAny_bind ?_
  unfold Builtin.List.listItems
  refine wpAny_bind (wpAny_seqItems hS rfl (wpAny_pure ?_))
  show wpAny _ A.in1 (updateSeq S (fun _ => #[]) >>= fun _ => letGo (#[] : Array Value).toList.reverse >>= fun _ => Builtin.List.listExtendWith (.ref S) (.ref I) .none) _ _ s
  refine wpAny_bind (wpAny_updateSeq hS rfl ?_)
  have hS₂ := Heap.get?_update_self (Obj.mapSeq (fun _ => (#[] : Array Value))) hS rfl
  have oth : ∀ b o, b ≠ S → s.heap.get? b = some o → (s.heap.update S (Obj.mapSeq (fun _ => (#[] : Array Value)))).get? b = some o :=
    fun b o hb e => (Heap.get?_update_other _ _ (Ne.symm hb)).trans e
  refine wpAny_bind (wpAny_letGo ?_)
  refine fil_extend W hT S .none _ (W.frame 0 s _ s.toks hst (Nat.le_refl _) fun b hb o e => oth b o (fun h => hSf (h ▸ hb)) e) hSf hI hS₂ (fun s' acc' c' hm hS' hacc => ?_) hn
  exact hR s' acc' c' (Moved.trans W.gtrans ((Moved.refl W.grefl).then_heap (Nat.le_refl _) fun b o hb e => oth b o (fun h => hb (h ▸ List.mem_cons_self)) e) hm) hS' hacc
end
section
variable {prog : Program} {w : World} {A : Around} {E : Value → Shared → Prop} {s : Shared}
variable {I : Addr} {fp wr : List Addr} {G : Array GenState → Array GenState → Prop} {n : Nat} {P : Nat → Value → Prop} {Ws : Nat → Shared → Prop}
theorem call_list_fil {Q : Value → Shared → Prop} (W : WalksS prog w A.in1.in1 I fp wr G n P Ws) (hT : ∀ i s, Ws i s → s.TypeIs (.ref I) "filter") (hst : Ws 0 s) (hfp : ∀ b ∈ fp, b < s.heap.objs.size) (hI : I ∈ fp)
    (hQ : ∀ s' acc' c', Moved (s.heap.objs.size :: wr) G { s with heap := s.heap.push { cls := .type "list", data := .seq #[] } } s' →
      s'.heap.get? s.heap.objs.size = some { cls := .type "list", dict := none, data := .seq acc' c', slots := #[] } → ItemsOf P acc' n → Q (.ref s.heap.objs.size) s') (hn : n ≤ sizeLine) :
    wpAny (model prog w) A (call (.type "list") [.ref I]) Q E s := by
  have hSf : s.heap.objs.size ∉ fp := fun hm => Nat.lt_irrefl _ (hfp _ hm)
  refine callType_codes (Q₁ := fun obj s₁ => obj = .ref s.heap.objs.size ∧ s₁ = { s with heap := s.heap.push { cls := .type "list", data := .seq #[] } }) PySem.F.called_list (PySem.F.typeCall_list_1 _) PySem.F.entry_list_init
    (code_list_new _ ⟨rfl, rfl⟩) fun obj s₁ h₁ => ?_
  obtain ⟨rfl, rfl⟩ := h₁
  have hS : (s.heap.push { cls := .type "list", data := .seq #[] }).get? s.heap.objs.size = some { cls := .type "list", data := .seq #[] } := Heap.get?_push_size _ rfl
  refine ⟨⟨_, hS, rfl⟩, PySem.F.args_list_init_2 _ _, fil_list_init W hT _ (W.frame 0 s _ s.toks hst (Nat.le_refl _) fun b _ o e => Heap.get?_push_of_some _ e) hSf hI hS (fun s' acc' c' hm hS' hacc => ?_) hn⟩
  exact ⟨rfl, hQ s' acc' c' hm hS' hacc⟩
end
end
section
set_option maxRecDepth 100000
set_option maxHeartbeats 0
section
variable {prog : Program} {w : World} {M : Model} {A : Around} {E : Value → Shared → Prop} {hp g : Heap} {G : Array GenState} {D : Drawn} {tk : Nat} {o : OsState} {L : Addr} {kn : Kns} {led : Led} {env : Env} {k : Nat} {x y : Str} {v : Value} {pos : Pos} {t u : Tok}
/-- all below the next place stand -/
theorem St.below {h' : Heap} (S : St g L hp kn led) (hk : ∀ b ob, b < hp.objs.size → hp.get? b = some ob → h'.get? b = some ob) : St g L h' kn led :=
  S.keeps fun b ob e => hk b ob (Heap.lt_size e) e
theorem r_setnew {l : Addr} {vs : List Value} {nl : Nat} {ys : List Str} {Q : Value → Shared → Prop} (C : Cx w A g k) (S : St g L hp kn led) (hl : hp.get? l = some (lo vs nl)) (hi : StrsAre vs ys) (hb : ys.length + 1 < scanBound)
    (h : ∀ a ob c h' tk', St g L h' kn ((a, ob) :: led) → (∀ p ∈ led, p.1 < a) → L < a → h'.SetOf (PySem.strKind prog w) a (fun z => ys.contains z) c → ob.cls = .type "set" → Q (.ref a) ⟨h', G, D, tk', o⟩) :
    wpAny (model prog w) A (call (.type "set") [.ref l]) Q E ⟨hp, G, D, tk, o⟩ := by
  refine set_of_strs (s := ⟨hp, G, D, tk, o⟩) C.hh hl hi hb (fun h' tk' c hS hk => ?_)
  obtain ⟨ob, ho, hso⟩ := hS.objOf
  exact h _ ob c h' tk' ((S.below hk).add ho (S.none_of_le (Nat.le_refl _)) (Nat.ne_of_gt S.ltL)) S.lt S.ltL hS hso.1.1
theorem r_setc {a : Addr} {Sf : Str → Bool} {c : Nat} {Q : Value → Shared → Prop} (S : St g L hp kn led) (hS : hp.SetOf (PySem.strKind prog w) a Sf c)
    (h : ∀ m h' tk', St g L h' kn ((m, bnd "set.__contains__" (.ref a)) :: led) → (∀ p ∈ led, p.1 < m) → L < m → h'.SetOf (PySem.strKind prog w) a Sf c → Q (.ref m) ⟨h', G, D, tk', o⟩) :
    wpAny (model prog w) A (getAttr (.ref a) "__contains__" true) Q E ⟨hp, G, D, tk, o⟩ := by
  obtain ⟨b1, b2, b3, b4⟩ := S.new (ob := bnd "set.__contains__" (.ref a)) rfl
  refine bnd_get_setc hS (h _ _ _ b1 b2 b3 ?_)
  obtain ⟨o, es, ep, tb, ho, rest⟩ := hS
  exact ⟨o, es, ep, tb, Heap.get?_push_of_some _ ho, rest⟩
noncomputable abbrev itO (l : Addr) : Obj := { cls := .type "list_iterator", data := .fields #[.ref l, .int 0 0] }
theorem r_filter {f : Value} {l : Addr} {vs : List Value} {nl : Nat} {Q : Value → Shared → Prop} (S : St g L hp kn led) (hl : hp.get? l = some (lo vs nl))
    (h : ∀ F it h' tk', St g L h' kn ((F, filO f (.ref it)) :: (it, itO l) :: led) → (∀ p ∈ led, p.1 < it) → it < F → L < it → (∀ b ob, hp.get? b = some ob → h'.get? b = some ob) → Q (.ref F) ⟨h', G, D, tk', o⟩) :
    wpAny (model prog w) A (call (.type "filter") [f, .ref l]) Q E ⟨hp, G, D, tk, o⟩ := by
  obtain ⟨b1, b2, b3, b4⟩ := S.new (ob := itO l) rfl
  obtain ⟨c1, c2, c3, c4⟩ := b1.new (ob := filO f (.ref hp.objs.size)) rfl
  rw [Heap.size_push] at c1
  refine call_filter (s := ⟨hp, G, D, tk, o⟩) (isList_of hl) (h _ _ _ _ c1 b2 (Nat.lt_succ_self _) b3 fun b ob e => Heap.get?_push_of_some _ (Heap.get?_push_of_some _ e))
theorem itemsOf_eq {vs : List Value} {acc : Array Value} (h : ItemsOf (fun i v => vs[i]? = some v) acc vs.length) : acc.toList = vs := by
  apply List.ext_getElem?
  intro i
  by_cases hi : i < vs.length
  · have h2 : i < acc.size := by rw [h.1]; exact hi
    have := h.2 i acc[i] (Array.getElem?_eq_getElem h2)
    rw [this]; simp [h2]
  · rw [List.getElem?_eq_none (by simp; have := h.1; (first | walk_at "om" | omega)), List.getElem?_eq_none (by (first | walk_at "om" | omega))]
theorem r_listfil {F it l m a : Addr} {vs : List Value} {nl c : Nat} {Sf : Str → Bool} {ys : List Str} {Q : Value → Shared → Prop} (C : Cx w A g k) (S : St g L hp kn ((it, itO l) :: led)) (hne : ∀ p ∈ led, p.1 ≠ it)
    (hv : StrsAre vs ys) (hF : hp.get? F = some (filO (.ref m) (.ref it))) (hl : hp.get? l = some (lo vs nl)) (hm : hp.get? m = some (bnd "set.__contains__" (.ref a))) (hs : hp.SetOf (PySem.strKind prog w) a Sf c)
    (hFi : F ≠ it) (hli : l ≠ it) (hmi : m ≠ it) (hai : a ≠ it) (hz : vs.length ≤ 1000)
    (h : ∀ x n h' tk', St g L h' kn ((x, lo (vs.filter (keepV Sf)) n) :: led) → (∀ p ∈ led, p.1 < x) → L < x → Q (.ref x) ⟨h', G, D, tk', o⟩) :
    wpAny (model prog w) A (call (.type "list") [.ref F]) Q E ⟨hp, G, D, tk, o⟩ := by
  have hs24 : sizeLine = 16777216 := rfl
  have hit := S.mem (.head _)
  have hIt : hp.IsListIter it l 0 := ⟨_, hit, rfl, rfl⟩
  have W := (Walks_filter (prog := prog) (w := w) (A := A.in1.in1) (m := m) (S := a) (nl := nl) (c := c) (Sf := Sf) hv hFi hli hmi hai C.hh).toS
  refine call_list_fil (s := ⟨hp, G, D, tk, o⟩) W (fun i s st => by obtain ⟨p, hp', st, _⟩ := st; exact ⟨_, st.fo, rfl⟩) ⟨0, Nat.zero_le _, ⟨hF, hIt, hl, hm, hs⟩, rfl⟩ ?_ (by simp) (fun s' acc c' hm' hx hacc => ?_) (by have := List.length_filter_le (keepV Sf) vs; (first | walk_at "om" | omega))
  · intro b hb
    simp only [List.mem_cons, List.not_mem_nil, or_false] at hb
    rcases hb with rfl | rfl | rfl | rfl | rfl
    · exact Heap.lt_size hF
    · exact Heap.lt_size hit
    · exact Heap.lt_size hl
    · exact Heap.lt_size hm
    · obtain ⟨o, es, ep, tb, ho, rest⟩ := hs; exact Heap.lt_size ho
  · obtain ⟨h', g', d', tk', os'⟩ := s'
    have eg : g' = G := hm'.gens
    have ed : d' = D := hm'.drawn
    have eo : os' = o := hm'.os
    subst eg; subst ed; subst eo
    have e := itemsOf_eq hacc
    have hx' : h'.get? hp.objs.size = some (lo (vs.filter (keepV Sf)) c') := by rw [hx, ← e]
    have S0 : St g L hp kn led := S.drop fun p hp => .tail _ hp
    have off : ∀ b ob, hp.get? b = some ob → b ≠ it → h'.get? b = some ob := fun b ob e hb => hm'.heap b ob (by
      simp only [List.mem_cons, List.not_mem_nil, or_false, not_or]
      exact ⟨Nat.ne_of_lt (Heap.lt_size e), hb⟩) (Heap.get?_push_of_some _ e)
    have z := S.nw _ (.head _)
    have S1 : St g L h' kn led := by
      refine ⟨fun b ob e => off b ob (S.keep b ob e) (fun q => by rw [q, z.2.1] at e; cases e), ?_, fun p hp => ⟨off _ _ (S0.nw p hp).1 (hne p hp), (S0.nw p hp).2⟩⟩
      obtain ⟨m, ⟨ol, es, ep, a, r⟩, b⟩ := S.ns
      exact ⟨m, ⟨ol, es, ep, off L ol a (Ne.symm z.2.2), r⟩, b⟩
    exact h _ c' h' tk' (S1.add hx' (S.none_of_le (Nat.le_refl _)) (Nat.ne_of_gt S.ltL)) S0.lt S.ltL
theorem r_cw0 {f : Value} {first : List Value} {Q : Value → Shared → Prop} (C : Cx w A g k) (S : St g L hp kn led) (hk : keepIn (pre.heap_1 w.params) f = true) (h : wpAny (model prog w) A (call f (first ++ [])) Q E ⟨hp, G, D, tk, o⟩) :
    wpAny (model prog w) A (callWith pos f first (backTo pos (starEach [] env)) []) Q E ⟨hp, G, D, tk, o⟩ := callWith_K0 (C.X.keeps S.keep) hk h
theorem r_addlist {l b : Addr} {vs ws : List Value} {n m : Nat} {Q : Value → Shared → Prop} (S : St g L hp kn led) (hl : hp.get? l = some (lo vs n)) (hb : hp.get? b = some (lo ws m)) (hz : vs.length + ws.length ≤ sizeLine)
    (h : ∀ a h', St g L h' kn ((a, lo (vs ++ ws) 0) :: led) → (∀ p ∈ led, p.1 < a) → L < a → Q (.ref a) ⟨h', G, D, tk, o⟩) :
    wpAny (model prog w) A (binaryOp .Add (.ref l) (.ref b)) Q E ⟨hp, G, D, tk, o⟩ := by
  obtain ⟨b1, b2, b3, b4⟩ := S.new (ob := lo (vs ++ ws) 0) rfl
  have e : vs.toArray ++ ws.toArray = (vs ++ ws).toArray := by simp
  refine concat_meets (s := ⟨hp, G, D, tk, o⟩) ⟨_, hl, rfl⟩ ⟨_, hb, rfl⟩ noFill_list_add seq_list_add PySem.F.slot_list_add PySem.F.entry_list_add (PySem.F.args_list_add_2 _ _) (list_addW l b vs.toArray ws.toArray n m none none #[] #[] (by simpa using hz)) ⟨hl, hb, ?_⟩
  rw [e]
  exact h _ _ b1 b2 b3
theorem r_attr {value : Expr} {attr : Str} {s : Shared} {Q : Value → Shared → Prop} (h : wpAny (model prog w) A (eval value env) (fun o s₁ => wpAny (model prog w) A (getAttr o attr true) Q E s₁) E s)
    (hb : attributeBase value attr env (eval value env) = eval value env) : wpAny (model prog w) A (eval (.Attribute value attr pos) env) Q E s := by
  rw [arm_eval_Attribute, hb]
  exact wpAny_bind (wpAny_mono h (fun o s₁ h₁ => wpAny_bind (wpAny_standAt (wpAny_bind (wpAny_holding (wpAny_mono h₁ (fun r s₂ h₂ => wpAny_bind (wpAny_letTemporaryGo (wpAny_pure h₂))) fun _ _ y => y))))) fun _ _ y => y)
end
end
set_option compiler.extract_closed false in
local macro_rules | `(tactic| walk_at "v") => `(tactic| first
  | (o_head (eval (Expr.Attribute _ _ _) _); refine' r_attr ?_ ?hb; (case hb => exact rfl))
  | (o_head (callWith _ (Value.ref _) _ (backTo _ (starEach [] _)) []); refine' r_cw0 ?C ?S ?hk ?_; (case C | S => assumption); (case hk => k_is); (try dsimp only [List.nil_append, List.cons_append])))
section
set_option maxRecDepth 100000
set_option maxHeartbeats 0
/-- a record as it stands in the heap -/
structure Rec (w : World) (h : Heap) (x d a r : Addr) (t1 t2 t3 t4 : Tok) (n : Nat) (vs : List Value) (na : Nat) (rs : List Value) (nr : Nat) : Prop where
  x : h.get? x = some (instObj 76 d)
  d : h.get? d = some (dictOf (ent w t1 t2 t3 t4 (.ref a) (.ref r) .none .none) n)
  a : h.get? a = some (lo vs na)
  r : h.get? r = some (lo rs nr)
theorem merge_fn {w : World} {h : Heap} {x1 d1 a1 r1 x2 d2 a2 r2 : Addr} {t1 t2 t3 t4 u1 u2 u3 u4 : Tok} {n1 n2 na1 na2 nr1 nr2 : Nat} {vs1 vs2 rs1 rs2 : List Value} {ys1 ys2 : List Str}
    (R1 : Rec w h x1 d1 a1 r1 t1 t2 t3 t4 n1 vs1 na1 rs1 nr1) (R2 : Rec w h x2 d2 a2 r2 u1 u2 u3 u4 n2 vs2 na2 rs2 nr2) (hv1 : StrsAre vs1 ys1) (hv2 : StrsAre vs2 ys2) (hz1 : vs1.length ≤ 1000) (hz2 : vs2.length ≤ 1000) (hz3 : rs1.length ≤ 1000) (hz4 : rs2.length ≤ 1000) :
    Fn w 87 4 [.ref x1, .ref x2] [] h (fun v h' => ∃ x d a r s1 s2 s3 s4 n na nr, v = .ref x ∧ Rec w h' x d a r s1 s2 s3 s4 n (vs1.filter (keepV (fun z => ys2.contains z))) na (rs1 ++ rs2) nr ∧ h.get? x = none ∧ h.get? d = none ∧ h.get? a = none ∧ h.get? r = none) := by
  have hs24 : sizeLine = 16777216 := rfl
  refine' enter [(Str.ofString "e2", .ref x2), (Str.ofString "e1", .ref x1)] [] ?ho ?hcd ?hb ?hl ?hkn ?hc ?h1 ?h2 ?h3 ?hled ?_
  walk_at "en"
  case hled => simp
  intro prog A g hp G D tk o L C gk gn gL S
  have gx1 := gk _ _ R1.x (by simp)
  have gd1 := gk _ _ R1.d (by simp)
  have ga1 := gk _ _ R1.a (by simp)
  have gr1 := gk _ _ R1.r (by simp)
  have gx2 := gk _ _ R2.x (by simp)
  have gd2 := gk _ _ R2.d (by simp)
  have ga2 := gk _ _ R2.a (by simp)
  have gr2 := gk _ _ R2.r (by simp)
  repeat walk_at "v"
  refine r_entry (k := 1) (C.le (by (first | walk_at "om" | omega))) (by assumption) (fun x dx l1 l2 s1 s2 s3 s4 n hp1 tk1 S e1 e2 e3 e4 e5 e6 e7 e8 e9 => ?_)
  repeat walk_at "v"
  walk_at "get"
  repeat walk_at "v"
  refine r_setnew C (by assumption) (St.keep (by assumption) _ _ ga2) hv2 (by rw [← hv2.len_eq]; unfold scanBound; (first | walk_at "om" | omega)) (fun a ob c hp2 tk2 S f1 f2 hS hcl => ?_)
  refine r_setc (by assumption) hS (fun m hp3 tk3 S m1 m2 hS => ?_)
  repeat walk_at "v"
  walk_at "get"
  repeat walk_at "v"
  refine r_filter (by assumption) (St.keep (by assumption) _ _ ga1) (fun F it hp4 tk4 S i1 i2 i3 hk => ?_)
  have hS4 : hp4.SetOf (PySem.strKind prog w) a (fun z => ys2.contains z) c := by
    obtain ⟨o, es, ep, tb, ho, rest⟩ := hS
    exact ⟨o, es, ep, tb, hk _ _ ho, rest⟩
  repeat walk_at "v"
  have q1 : m < it := i1 _ (.head _)
  have q2 : a < it := i1 _ (.tail _ (.head _))
  have q3 : x < it := i1 _ (.tail _ (.tail _ (.head _)))
  have q4 : dx < it := i1 _ (.tail _ (.tail _ (.tail _ (.head _))))
  have q5 : l1 < it := i1 _ (.tail _ (.tail _ (.tail _ (.tail _ (.head _)))))
  have q6 : l2 < it := i1 _ (.tail _ (.tail _ (.tail _ (.tail _ (.tail _ (.head _))))))
  have git := (S.nw (it, itO a1) (.tail _ (.head _))).2.1
  have q7 : a1 ≠ it := fun q => by rw [q, git] at ga1; cases ga1
  refine r_listfil (g := g) (L := L) (kn := [(Str.ofString "entry", .ref x), (Str.ofString "e2", .ref x2), (Str.ofString "e1", .ref x1)]) (led := [(x, instObj 76 dx), (dx, dictOf (ent w s1 s2 s3 s4 (.ref l1) (.ref l2) .none .none) n), (l1, lo [] 0), (l2, lo [] 0)])
    C (by walk_at "st") (by walk_at "ne") hv1 (St.mem (by assumption) (.head _)) (St.keep (by assumption) _ _ ga1) (St.mem (by assumption) (.tail _ (.tail _ (.head _)))) hS4 (ne_gt i2) q7 (ne_lt q1) (ne_lt q2) hz1 (fun x3 n3 hp5 tk5 S j1 j2 => ?_)
  have w1 : x < x3 := j1 _ (.head _)
  have w2 : dx < x3 := j1 _ (.tail _ (.head _))
  repeat walk_at "v"
  have S6 := St.to S (kn' := [(Str.ofString "entry", .ref x), (Str.ofString "e2", .ref x2), (Str.ofString "e1", .ref x1)]) (by walk_at "kn") (led' := [(dx, dictOf (ent w s1 s2 s3 s4 (.ref l1) (.ref l2) .none .none) n), (x, instObj 76 dx), (x3, _)]) (by walk_at "led")
  have hdx : dx < x := e2
  walk_at "set"
  intro hp6 t6 tk6 S7
  repeat walk_at "v"
  walk_at "get"
  repeat walk_at "v"
  walk_at "get"
  repeat walk_at "v"
  refine r_addlist S7 (St.keep (by assumption) _ _ gr1) (St.keep (by assumption) _ _ gr2) (by (first | walk_at "om" | omega)) (fun l5 hp8 S8 v1 v2 => ?_)
  have w3 : x < l5 := v1 _ (.tail _ (.head _))
  have w4 : dx < l5 := v1 _ (.head _)
  repeat walk_at "v"
  have S9 := St.to S8 (kn' := [(Str.ofString "entry", .ref x), (Str.ofString "e2", .ref x2), (Str.ofString "e1", .ref x1)]) (by walk_at "kn") (led' := [(dx, _), (x, instObj 76 dx), (x3, _), (l5, _)]) (by walk_at "led")
  walk_at "set"
  intro hp9 t9 tk9 S9
  repeat walk_at "v"
  walk_at "get"
  repeat walk_at "v"
  refine is_none ?_
  repeat walk_at "v"
  refine if_tt ?_
  repeat walk_at "v"
  walk_at "get"
  repeat walk_at "v"
  walk_at "set"
  intro hp10 t10 tk10 S10
  repeat walk_at "v"
  walk_at "get"
  repeat walk_at "v"
  refine is_none ?_
  repeat walk_at "v"
  refine if_tt ?_
  repeat walk_at "v"
  walk_at "get"
  repeat walk_at "v"
  walk_at "set"
  intro hp11 t11 tk11 S11
  repeat walk_at "v"
  have no : ∀ b, g.get? b = none → h.get? b = none := fun b hb => by
    cases q : h.get? b with
    | none => rfl
    | some ob => rw [gk _ _ q (by simp)] at hb; cases hb
  walk_at "x"; refine Ret.intro S11 ⟨x, dx, x3, l5, s1, s2, s3, s4, n, n3, 0, rfl, ⟨S11.mem (.tail _ (.head _)), S11.mem (.head _), S11.mem (.tail _ (.tail _ (.head _))), S11.mem (.tail _ (.tail _ (.tail _ (.head _))))⟩, no _ (S11.nw _ (.tail _ (.head _))).2.1, no _ (S11.nw _ (.head _)).2.1, no _ (S11.nw _ (.tail _ (.tail _ (.head _)))).2.1, no _ (S11.nw _ (.tail _ (.tail _ (.tail _ (.head _))))).2.1⟩
end
section
set_option maxRecDepth 100000
set_option maxHeartbeats 0
section
variable {prog : Program} {w : World} {M : Model} {A : Around} {E : Value → Shared → Prop} {hp g : Heap} {G : Array GenState} {D : Drawn} {tk : Nat} {o : OsState} {L : Addr} {kn : Kns} {led : Led} {env : Env} {k : Nat} {x y : Str} {v : Value} {pos : Pos} {t u : Tok}
theorem r_sliced {vl vu : Value} {Q : Value → Shared → Prop} (l u : Option (Int × Tok)) (S : St g L hp kn led) (hl : vl = partValue l) (hu : vu = partValue u) (hz : x.length ≤ 100000)
    (h : ∀ h' t' tk', St g L h' kn led → Q (.str (Txt.slice x (l.map (·.1)) (u.map (·.1))) t') ⟨h', G, D, tk', o⟩) :
    ∃ x' t' l' u', Value.str x t = .str x' t' ∧ vl = partValue l' ∧ vu = partValue u' ∧ (sliceMade x' t' l' u' none).post Q ⟨hp.push { cls := .type "slice", data := .fields #[vl, vu, .none] }, G, D, tk, o⟩ := by
  refine ⟨x, t, l, u, rfl, hl, hu, ?_⟩
  have S' : St g L (hp.push { cls := .type "slice", data := .fields #[vl, vu, .none] }) kn led := S.keeps fun _ _ e => Heap.get?_push_of_some _ e
  have hs := Txt.slice_le x (l.map (·.1)) (u.map (·.1))
  have h2 := fun t' tk' => h _ t' tk' S'
  unfold Txt.slice at hs h2
  unfold sliceMade slicePicked
  simp only [Option.map_none, Option.getD_none] at hs h2 ⊢
  split
  · rename_i hc
    rw [if_pos hc] at h2
    exact h2 _ _
  · rename_i hc
    rw [if_neg hc] at h2 hs
    exact ⟨by have : sizeLine = 16777216 := rfl; (first | walk_at "om" | omega), h2 _ _⟩
end
end
section
set_option maxRecDepth 100000
set_option maxHeartbeats 0
noncomputable def lastAdd (rs : List (Str × Str)) (c : Nat) : List (Str × Str) := match rs.getLast? with
  | some r => rs.dropLast ++ [(r.1, r.2 ++ ⟨#[c]⟩)]
  | none => rs
/-- how _law_runs reads a text -/
noncomputable def runsGo (x : Str) : Nat → Nat → List (Str × Str) → List (Str × Str)
  | 0, _, rs => rs
  | f + 1, i, rs => if i + 3 < x.length then
      if (Txt.slice x (some (i : Int)) (some ((i : Int) + 6)) == Str.ofString "(?>.*?") = true then runsGo x f (i + 6) (rs ++ [(Str.ofString "held", Str.ofString "")])
      else if (Txt.slice x (some (i : Int)) (some ((i : Int) + 2)) == Str.ofString ".*") = true then runsGo x f (i + 2) (rs ++ [(Str.ofString "far", Str.ofString "")])
      else if (({ cps := #[x.cps.getD i 0] } : Str) == Str.ofString ")") = true then runsGo x f (i + 1) (rs ++ [(Str.ofString "plain", Str.ofString "")])
      else runsGo x f (i + 1) (lastAdd rs (x.cps.getD i 0))
    else rs
noncomputable def runsOf (x : Str) : List (Str × Str) := runsGo x x.length 4 [(Str.ofString "plain", Str.ofString "")]
theorem runsGo_stop (x : Str) (f i : Nat) (rs : List (Str × Str)) (h : ¬ i + 3 < x.length) : runsGo x f i rs = rs := by
  cases f with
  | zero => rfl
  | succ f => unfold runsGo; rw [if_neg h]
set_option genInjectivity false in
set_option genSizeOf false in
structure Run where
  a : Addr
  kd : Str
  tk : Tok
  sg : Str
  ts : Tok
  n : Nat
noncomputable def Run.obj (r : Run) : Obj := lo [.str r.kd r.tk, .str r.sg r.ts] r.n
noncomputable def Run.refs (rs : List Run) : List Value := rs.map fun r => .ref r.a
noncomputable def Run.led (rs : List Run) : Led := rs.map fun r => (r.a, r.obj)
theorem St.tail2 {g h : Heap} {L : Addr} {kn : Kns} {p q : Addr × Obj} {R : Led} (S : St g L h kn (p :: q :: R)) : St g L h kn (q :: (R ++ [p])) := S.drop fun z hz => by
  simp only [List.mem_cons, List.mem_append, List.not_mem_nil, or_false] at hz ⊢
  rcases hz with h | h | h
  · exact .inr (.inl h)
  · exact .inr (.inr h)
  · exact .inl h
theorem Run.led_ne {rs : List Run} {l : Addr} (h : ∀ r ∈ rs, r.a ≠ l) : ∀ p ∈ Run.led rs, p.1 ≠ l := fun p hp => by
  obtain ⟨r, hr, rfl⟩ := List.mem_map.mp hp
  exact h r hr
noncomputable def Run.says (rs : List Run) : List (Str × Str) := rs.map fun r => (r.kd, r.sg)
theorem Run.snoc_led (rs : List Run) (r : Run) (l : Addr) (n : Nat) : (l, lo (Run.refs (rs ++ [r])) n) :: Run.led (rs ++ [r]) = (l, lo (Run.refs rs ++ [.ref r.a]) n) :: (Run.led rs ++ [(r.a, r.obj)]) := by
  simp [Run.refs, Run.led]
theorem Run.led_snoc (rs : List Run) (r : Run) : Run.led (rs ++ [r]) = Run.led rs ++ [(r.a, r.obj)] := by simp [Run.led]
theorem St.last2 {g h : Heap} {L : Addr} {kn : Kns} {p q : Addr × Obj} {R : Led} (S : St g L h kn (p :: (R ++ [q]))) : St g L h kn (q :: p :: R) := S.drop fun z hz => by
  simp only [List.mem_cons, List.mem_append, List.not_mem_nil, or_false] at hz ⊢
  rcases hz with h | h | h
  · exact .inr (.inr h)
  · exact .inl h
  · exact .inr (.inl h)
theorem St.back2 {g h : Heap} {L : Addr} {kn : Kns} {p q : Addr × Obj} {R : Led} (S : St g L h kn (q :: p :: R)) : St g L h kn (p :: (R ++ [q])) := S.drop fun z hz => by
  simp only [List.mem_cons, List.mem_append, List.not_mem_nil, or_false] at hz ⊢
  rcases hz with h | h | h
  · exact .inr (.inl h)
  · exact .inr (.inr h)
  · exact .inl h
theorem lastAdd_snoc (rs : List (Str × Str)) (r : Str × Str) (c : Nat) : lastAdd (rs ++ [r]) c = rs ++ [(r.1, r.2 ++ ⟨#[c]⟩)] := by
  unfold lastAdd
  simp
theorem Run.says_snoc (rs : List Run) (r : Run) : Run.says (rs ++ [r]) = Run.says rs ++ [(r.kd, r.sg)] := by simp [Run.says]
end
section
set_option maxRecDepth 100000
set_option maxHeartbeats 0
theorem runs_fn {w : World} {h : Heap} {x : Str} {t : Tok} (hz : x.length ≤ 2000) :
    Fn w 167 1 [.str x t] [] h (fun v h' => ∃ l rs n, v = .ref l ∧ h'.get? l = some (lo (Run.refs rs) n) ∧ (∀ p ∈ Run.led rs, h'.get? p.1 = some p.2) ∧ Run.says rs = runsOf x ∧ h.get? l = none ∧ ∀ r ∈ rs, h.get? r.a = none) := by
  have hs24 : sizeLine = 16777216 := rfl
  refine' enter [(Str.ofString "text", .str x t)] [] ?ho ?hcd ?hb ?hl ?hkn ?hc ?h1 ?h2 ?h3 ?hled ?_
  walk_at "en"
  case hled => simp
  intro prog A g hp G D tk o L C gk gn gL S
  repeat walk_at "v"
  refine r_newList (by assumption) (by simp [hs24]) (fun a hp1 S a1 a2 a3 => ?_)
  repeat walk_at "v"
  refine r_newList (by assumption) (by simp [hs24]) (fun l hp2 S l1 l2 l3 => ?_)
  have hla : a < l := l1 _ (.head _)
  repeat walk_at "v"
  refine r_while (g := g) (L := L) (σ := Nat × Nat × List Run × Nat × Tok) (fun c => [(Str.ofString "i", .int c.1 c.2.2.2.2), (Str.ofString "runs", .ref l), (Str.ofString "text", .str x t)]) (fun c => (l, lo (Run.refs c.2.2.1) c.2.2.2.1) :: Run.led c.2.2.1)
    (fun c => 4 ≤ c.1 ∧ x.length ≤ c.2.1 + c.1 ∧ c.2.2.1.length ≤ c.1 ∧ c.1 ≤ x.length + 6 ∧ runsGo x c.2.1 c.1 (Run.says c.2.2.1) = runsOf x ∧ c.2.2.1 ≠ [] ∧ (∀ r ∈ c.2.2.1, r.a ≠ l) ∧ (c.2.2.1.map (·.a)).Pairwise (· < ·) ∧ ∀ r ∈ c.2.2.1, r.sg.length ≤ c.1) (fun c => x.length + 10 - c.1)
    (4, x.length, [⟨a, Str.ofString "plain", _, Str.ofString "", _, 0⟩], 0, _) (by walk_at "st") ⟨Nat.le_refl _, by dsimp only; (first | walk_at "om" | omega), by simp, by dsimp only; (first | walk_at "om" | omega), rfl, by simp, by simpa using ne_lt hla, by simp, fun r hr => by rw [List.mem_singleton.mp hr]; exact Nat.zero_le _⟩ ?_
  rintro ⟨i, f, rs, n, ti⟩ h₂ t' ⟨i1, i2, i3, i4, i5, i6, i7, i8, i9⟩ S
  try dsimp only at i1 i2 i3 i4 i5 i6 i7 i8 i9 S ⊢
  repeat walk_at "v"
  refine r_strlen (by (first | walk_at "om" | omega)) (fun t3 tk3 => ?_)
  repeat walk_at "v"
  with_reducible refine ifs (fun hb => ?_) (fun hb => ?_)
  · have hi : i + 3 < x.length := by have := of_decide_eq_true hb; (first | walk_at "om" | omega)
    obtain ⟨f, rfl⟩ : ∃ f', f = f' + 1 := ⟨f - 1, by (first | walk_at "om" | omega)⟩
    unfold runsGo at i5
    rw [if_pos hi] at i5
    repeat walk_at "v"
    refine wpAny_If ?_
    repeat walk_at "v"
    refine wpAny_Subscript_str_slice ?_ (fun _ _ => rfl)
    repeat walk_at "v"
    refine r_sliced (g := g) (L := L) (some (_, _)) (some (_, _)) S rfl rfl (by (first | walk_at "om" | omega)) (fun h3 t3 tk3 S3 => ?_)
    repeat walk_at "v"
    with_reducible refine ifs (fun hb1 => ?_) (fun hb1 => ?_)
    · replace hb1 : (Txt.slice x (some (i : Int)) (some ((i : Int) + 6)) == Str.ofString "(?>.*?") = true := hb1
      rw [if_pos hb1] at i5
      repeat walk_at "v"
      refine r_lmeth PySem.F.slot_list_append PySem.F.type_list_append (St.mem (by assumption) (.head _)) ?_
      repeat walk_at "v"
      refine r_newList (by assumption) (by simp [hs24]) (fun b h4 S4 b1 b2 b3 => ?_)
      have hlb : l < b := b1 _ (.head _)
      have hrb : ∀ r ∈ rs, r.a < b := fun r hr => b1 (r.a, r.obj) (.tail _ (List.mem_map.mpr ⟨r, hr, rfl⟩))
      repeat walk_at "v"
      refine r_append S4.tail2 (fun p hp => by
        rcases List.mem_append.mp hp with hp | hp
        · exact Run.led_ne i7 p hp
        · rw [List.mem_singleton.mp hp]; exact ne_gt hlb) (by simp [Run.refs, hs24]; (first | walk_at "om" | omega)) (fun h5 S5 => ⟨rfl, ?_⟩)
      repeat walk_at "v"
      walk_at "x"; refine TurnEnd.intro (i + 6, f, rs ++ [⟨b, Str.ofString "held", _, Str.ofString "", _, 0⟩], n + 1, _) (by
        refine St.is (by assumption) (by walk_at "kn") ?_
        exact Run.snoc_led rs ⟨b, Str.ofString "held", _, Str.ofString "", _, 0⟩ l _) ⟨by dsimp only; (first | walk_at "om" | omega), by dsimp only; (first | walk_at "om" | omega), by simp; (first | walk_at "om" | omega), by dsimp only; (first | walk_at "om" | omega), ?_, by simp, ?_, ?_, ?_⟩ (by dsimp only; (first | walk_at "om" | omega))
      · try dsimp only
        rw [Run.says_snoc]
        exact i5
      · intro r hr
        rcases List.mem_append.mp hr with hr | hr
        · exact i7 r hr
        · rw [List.mem_singleton.mp hr]; exact ne_gt hlb
      · try dsimp only
        rw [List.map_append, List.pairwise_append]
        refine ⟨i8, by simp, ?_⟩
        intro u hu v hv
        obtain ⟨r, hr, rfl⟩ := List.mem_map.mp hu
        rw [List.map_singleton, List.mem_singleton] at hv
        rw [hv]
        exact hrb r hr
      · intro r hr
        rcases List.mem_append.mp hr with hr | hr
        · have := i9 r hr; dsimp only; (first | walk_at "om" | omega)
        · rw [List.mem_singleton.mp hr]; exact Nat.zero_le _
    · replace hb1 : (Txt.slice x (some (i : Int)) (some ((i : Int) + 6)) == Str.ofString "(?>.*?") = false := hb1
      rw [if_neg (by rw [hb1]; decide)] at i5
      repeat walk_at "v"
      refine wpAny_If ?_
      repeat walk_at "v"
      refine wpAny_Subscript_str_slice ?_ (fun _ _ => rfl)
      repeat walk_at "v"
      refine r_sliced (g := g) (L := L) (some (_, _)) (some (_, _)) (by assumption) rfl rfl (by (first | walk_at "om" | omega)) (fun h5 t5 tk5 S5 => ?_)
      repeat walk_at "v"
      with_reducible refine ifs (fun hb2 => ?_) (fun hb2 => ?_)
      · replace hb2 : (Txt.slice x (some (i : Int)) (some ((i : Int) + 2)) == Str.ofString ".*") = true := hb2
        rw [if_pos hb2] at i5
        repeat walk_at "v"
        refine r_lmeth PySem.F.slot_list_append PySem.F.type_list_append (St.mem (by assumption) (.head _)) ?_
        repeat walk_at "v"
        refine r_newList (by assumption) (by simp [hs24]) (fun b h4 S4 b1 b2 b3 => ?_)
        have hlb : l < b := b1 _ (.head _)
        have hrb : ∀ r ∈ rs, r.a < b := fun r hr => b1 (r.a, r.obj) (.tail _ (List.mem_map.mpr ⟨r, hr, rfl⟩))
        repeat walk_at "v"
        refine r_append S4.tail2 (fun p hp => by
          rcases List.mem_append.mp hp with hp | hp
          · exact Run.led_ne i7 p hp
          · rw [List.mem_singleton.mp hp]; exact ne_gt hlb) (by simp [Run.refs, hs24]; (first | walk_at "om" | omega)) (fun h5 S5 => ⟨rfl, ?_⟩)
        repeat walk_at "v"
        walk_at "x"; refine TurnEnd.intro (i + 2, f, rs ++ [⟨b, Str.ofString "far", _, Str.ofString "", _, 0⟩], n + 1, _) (by
          refine St.is (by assumption) (by walk_at "kn") ?_
          exact Run.snoc_led rs ⟨b, Str.ofString "far", _, Str.ofString "", _, 0⟩ l _) ⟨by dsimp only; (first | walk_at "om" | omega), by dsimp only; (first | walk_at "om" | omega), by simp; (first | walk_at "om" | omega), by dsimp only; (first | walk_at "om" | omega), ?_, by simp, ?_, ?_, ?_⟩ (by dsimp only; (first | walk_at "om" | omega))
        · try dsimp only
          rw [Run.says_snoc]
          exact i5
        · intro r hr
          rcases List.mem_append.mp hr with hr | hr
          · exact i7 r hr
          · rw [List.mem_singleton.mp hr]; exact ne_gt hlb
        · try dsimp only
          rw [List.map_append, List.pairwise_append]
          refine ⟨i8, by simp, ?_⟩
          intro u hu v hv
          obtain ⟨r, hr, rfl⟩ := List.mem_map.mp hu
          rw [List.map_singleton, List.mem_singleton] at hv
          rw [hv]
          exact hrb r hr
        · intro r hr
          rcases List.mem_append.mp hr with hr | hr
          · have := i9 r hr; dsimp only; (first | walk_at "om" | omega)
          · rw [List.mem_singleton.mp hr]; exact Nat.zero_le _
      · replace hb2 : (Txt.slice x (some (i : Int)) (some ((i : Int) + 2)) == Str.ofString ".*") = false := hb2
        rw [if_neg (by rw [hb2]; decide)] at i5
        obtain ⟨c, hc⟩ : ∃ c, x.cps[i]? = some c := ⟨_, Array.getElem?_eq_getElem (show i < x.cps.size from by have : x.length = x.cps.size := rfl; (first | walk_at "om" | omega))⟩
        have hcd : x.cps.getD i 0 = c := by rw [Array.getD_eq_getD_getElem?, hc]; rfl
        rw [hcd] at i5
        repeat walk_at "v"
        refine wpAny_If ?_
        repeat walk_at "v"
        refine r_stritem hc (by (first | walk_at "om" | omega)) (fun t7 tk7 => ?_)
        repeat walk_at "v"
        with_reducible refine ifs (fun hb3 => ?_) (fun hb3 => ?_)
        · rw [if_pos hb3] at i5
          repeat walk_at "v"
          refine r_lmeth PySem.F.slot_list_append PySem.F.type_list_append (St.mem (by assumption) (.head _)) ?_
          repeat walk_at "v"
          refine r_newList (by assumption) (by simp [hs24]) (fun b h4 S4 b1 b2 b3 => ?_)
          have hlb : l < b := b1 _ (.head _)
          have hrb : ∀ r ∈ rs, r.a < b := fun r hr => b1 (r.a, r.obj) (.tail _ (List.mem_map.mpr ⟨r, hr, rfl⟩))
          repeat walk_at "v"
          refine r_append S4.tail2 (fun p hp => by
            rcases List.mem_append.mp hp with hp | hp
            · exact Run.led_ne i7 p hp
            · rw [List.mem_singleton.mp hp]; exact ne_gt hlb) (by simp [Run.refs, hs24]; (first | walk_at "om" | omega)) (fun h5 S5 => ⟨rfl, ?_⟩)
          repeat walk_at "v"
          walk_at "x"; refine TurnEnd.intro (i + 1, f, rs ++ [⟨b, Str.ofString "plain", _, Str.ofString "", _, 0⟩], n + 1, _) (by
            refine St.is (by assumption) (by walk_at "kn") ?_
            exact Run.snoc_led rs ⟨b, Str.ofString "plain", _, Str.ofString "", _, 0⟩ l _) ⟨by dsimp only; (first | walk_at "om" | omega), by dsimp only; (first | walk_at "om" | omega), by simp; (first | walk_at "om" | omega), by dsimp only; (first | walk_at "om" | omega), ?_, by simp, ?_, ?_, ?_⟩ (by dsimp only; (first | walk_at "om" | omega))
          · try dsimp only
            rw [Run.says_snoc]
            exact i5
          · intro r hr
            rcases List.mem_append.mp hr with hr | hr
            · exact i7 r hr
            · rw [List.mem_singleton.mp hr]; exact ne_gt hlb
          · try dsimp only
            rw [List.map_append, List.pairwise_append]
            refine ⟨i8, by simp, ?_⟩
            intro u hu v hv
            obtain ⟨r, hr, rfl⟩ := List.mem_map.mp hu
            rw [List.map_singleton, List.mem_singleton] at hv
            rw [hv]
            exact hrb r hr
          · intro r hr
            rcases List.mem_append.mp hr with hr | hr
            · have := i9 r hr; dsimp only; (first | walk_at "om" | omega)
            · rw [List.mem_singleton.mp hr]; exact Nat.zero_le _
        · rw [if_neg (by rw [hb3]; decide)] at i5
          repeat walk_at "v"
          refine wpAny_AugAssign_Subscript_any ?_
          obtain ⟨us, r, rfl⟩ := (nil_or_snoc rs).resolve_left i6
          repeat walk_at "v"
          have Sx := St.is (kn' := [(Str.ofString "i", .int i ti), (Str.ofString "runs", .ref l), (Str.ofString "text", .str x t)]) S5 (by walk_at "kn") (Run.snoc_led us r l n).symm
          have Sy := Sx.last2
          refine r_itemlast (l := l) (vs := Run.refs us) (v := .ref r.a) (n := n) (Sx.mem (.head _)) ?_
          repeat walk_at "v"
          refine wpAny_getItem_list (isList_of (Sy.mem (.head _))) (by decide) (by decide) (x := .str r.sg r.ts) rfl ?_
          repeat walk_at "v"
          refine r_stritem hc (by (first | walk_at "om" | omega)) (fun t8 tk8 => ?_)
          repeat walk_at "v"
          have hsl := i9 r (by simp)
          refine r_striadd (show r.sg.length + 1 ≤ sizeLine by (first | walk_at "om" | omega)) (fun t9 tk9 => ?_)
          have i7' : ∀ q ∈ us, q.a ≠ l := fun q hq => i7 q (by simp [hq])
          have hrl : r.a ≠ l := i7 r (by simp)
          have i8' : ∀ q ∈ us, q.a < r.a := fun q hq => by
            rw [List.map_append, List.pairwise_append] at i8
            exact i8.2.2 q.a (List.mem_map.mpr ⟨q, hq, rfl⟩) r.a (by simp)
          refine r_setitem (j := 1) Sy (ne_cons (Ne.symm hrl) (Run.led_ne fun q hq => ne_lt (i8' q hq))) rfl (by simp) (by simp) (fun h9 S9 => ?_)
          have Sz := S9.back2
          repeat walk_at "v"
          walk_at "x"; refine TurnEnd.intro (i + 1, f, us ++ [⟨r.a, r.kd, r.tk, r.sg ++ ⟨#[c]⟩, t9, r.n⟩], n, _) (by
            refine St.is (by assumption) (by walk_at "kn") ?_
            exact Run.snoc_led us ⟨r.a, r.kd, r.tk, r.sg ++ ⟨#[c]⟩, t9, r.n⟩ l n) ⟨by dsimp only; (first | walk_at "om" | omega), by dsimp only; (first | walk_at "om" | omega), by simp at i3 ⊢; (first | walk_at "om" | omega), by dsimp only; (first | walk_at "om" | omega), ?_, by simp, ?_, ?_, ?_⟩ (by dsimp only; (first | walk_at "om" | omega))
          · try dsimp only
            rw [Run.says_snoc] at i5 ⊢
            rw [lastAdd_snoc] at i5
            exact i5
          · intro q hq
            rcases List.mem_append.mp hq with hq | hq
            · exact i7' q hq
            · rw [List.mem_singleton.mp hq]; exact hrl
          · try dsimp only
            rw [List.map_append] at i8 ⊢
            exact i8
          · intro q hq
            rcases List.mem_append.mp hq with hq | hq
            · have := i9 q (by simp [hq]); dsimp only; (first | walk_at "om" | omega)
            · rw [List.mem_singleton.mp hq]; show (r.sg ++ ⟨#[c]⟩ : Str).length ≤ i + 1; rw [Str.length_append]; show r.sg.length + 1 ≤ i + 1; (first | walk_at "om" | omega)
  · have hi : ¬ i + 3 < x.length := by have := of_decide_eq_false hb; (first | walk_at "om" | omega)
    rw [runsGo_stop x f i _ hi] at i5
    repeat walk_at "v"
    have no : ∀ b, g.get? b = none → h.get? b = none := fun b hb => by
      cases q : h.get? b with
      | none => rfl
      | some ob => rw [gk _ _ q (by simp)] at hb; cases hb
    walk_at "x"; refine Ret.intro S ⟨l, rs, n, rfl, S.mem (.head _), fun p hp => S.mem (.tail _ hp), i5, no _ l3, fun r hr => no _ (S.nw (r.a, r.obj) (.tail _ (List.mem_map.mpr ⟨r, hr, rfl⟩))).2.1⟩
end
section
set_option maxRecDepth 100000
set_option maxHeartbeats 0
/-- the last place of y in x from i on -/
noncomputable def rfind3 (x y : Str) (i : Int) : Int := match Builtin.Str.lastOccurrence x y (fromIndex x.length i) x.length with | some i => (i : Int) | none => -1
theorem gives_rfind_from (x y : Str) (i : Int) (t u v : Tok) : Gives (Builtin.«str.rfind» ⟨[.str x t, .str y u, .int i v], []⟩) (.int (rfind3 x y i)) := by
  unfold rfind3
  show Gives (match Builtin.Str.lastOccurrence x y (fromIndex x.length i) (min x.length x.length) with | some k => retInt k | none => (do rule "str.rfind.not-found"; retInt (-1))) _
  rw [Nat.min_self]
  cases Builtin.Str.lastOccurrence x y (fromIndex x.length i) x.length with
  | none => exact .rule (.of_eq rfl)
  | some k => exact .of_eq rfl
section
variable {prog : Program} {w : World} {M : Model} {A : Around} {E : Value → Shared → Prop} {hp g : Heap} {G : Array GenState} {D : Drawn} {tk : Nat} {o : OsState} {L : Addr} {kn : Kns} {led : Led} {env : Env} {k : Nat} {x y : Str} {v : Value} {pos : Pos} {t u z : Tok}
theorem r_find3 {i : Int} {Q : Value → Shared → Prop} (h : ∀ t tk', Q (.int (Txt.find3 x y i) t) ⟨hp, G, D, tk', o⟩) : wpAny (model prog w) A (call (.builtin "str.find") [.str x t, .str y u, .int i z]) Q E ⟨hp, G, D, tk, o⟩ := SC.find3 (h _ _)
theorem r_rfind3 {i : Int} {Q : Value → Shared → Prop} (h : ∀ t tk', Q (.int (rfind3 x y i) t) ⟨hp, G, D, tk', o⟩) : wpAny (model prog w) A (call (.builtin "str.rfind") [.str x t, .str y u, .int i z]) Q E ⟨hp, G, D, tk, o⟩ :=
  call_gives PySem.F.slot_str_rfind (typeIs_str _ _ _) PySem.F.entry_str_rfind (PySem.F.args_str_rfind_3 _ _ _) (gives_rfind_from x y i t u z) (h _ _)
end
section
variable {prog : Program} {w : World} {A : Around} {E : Value → Shared → Prop} {s : Shared}
theorem draw_list {it t : Addr} {items : Array Value} (hne : t ≠ it) : ∀ (n i : Nat) (s : Shared) (Q : List Value → Shared → Prop), s.heap.IsListIter it t i → s.heap.IsList t items → i + n ≤ items.size →
    (∀ h', h'.IsListIter it t (i + n) → Heap.SameBut it s.heap h' → Q ((items.toList.drop i).take n) { s with heap := h' }) → wpAny (model prog w) A (draw (.ref it) n) Q E s
  | 0, i, s, Q, hit, _, _, hQ => by
    show wpAny _ _ (pure []) Q E s
    exact wpAny_pure (by simpa using hQ s.heap hit (Heap.SameBut.refl ..))
  | n + 1, i, s, Q, hit, ht, hle, hQ => by
    have hlt : i < items.size := by (first | walk_at "om" | omega)
    show wpAny _ _ (pyNext (.ref it) >>= _) Q E s
    refine wpAny_bind (wpAny_pyNext_list_item hit ht (x := items[i]) (by simp [hlt]) fun h₁ hit₁ hs₁ => ?_)
    refine wpAny_bind (wpAny_holding (draw_list hne n (i + 1) _ _ hit₁ (ht.extBut hs₁.extBut hne) (by (first | walk_at "om" | omega)) fun h₂ hit₂ hs₂ => wpAny_pure ?_))
    have hd : items.toList.drop i = items[i] :: items.toList.drop (i + 1) := by simp [List.drop_eq_getElem_cons, hlt]
    have := hQ h₂ (by rw [show i + (n + 1) = i + 1 + n by (first | walk_at "om" | omega)]; exact hit₂) (hs₁.trans hs₂)
    rw [hd, List.take_succ_cons] at this
    exact this
theorem unpackItems_list {t : Addr} {items : Array Value} {Q : List Value → Shared → Prop} (hh : A.handled = none) (ht : s.heap.IsList t items)
    (hQ : ∀ h', Heap.ExtBut s.heap.objs.size s.heap h' → Q items.toList { s with heap := h' }) : wpAny (model prog w) A (unpackItems (.ref t) items.size none) Q E s := by
  have hlt : t ≠ s.heap.objs.size := by obtain ⟨o, ho, _⟩ := ht; exact Nat.ne_of_lt (Heap.lt_size ho)
  unfold unpackItems
  refine wpAny_bind ?_
  · unfold notIterableAtAll
    refine wpAny_bind (wpAny_specialOf ht.typeIs slot_list_iter.lookup ?_)
    refine wpAny_pure ?_
    simp only [Bool.false_eq_true, if_false]
    refine wpAny_bind (wpAny_holding (wpAny_pyIter_list ht ?_))
    refine wpAny_bind (wpAny_holding (draw_list hlt items.size 0 _ _ ⟨_, Heap.get?_push_size _ rfl, rfl, rfl⟩ (ht.push _) (by (first | walk_at "om" | omega)) fun h₁ hit₁ hs₁ => ?_))
    have hall : List.take items.size (List.drop 0 items.toList) = items.toList := by
      rw [List.drop_zero]; exact List.take_of_length_le (by simp)
    rw [hall]
    rw [if_neg (by simp)]
    have ht₁ : h₁.IsList t items := (ht.push _).extBut hs₁.extBut hlt
    refine wpAny_bind (wpAny_holding (wpAny_pyNext_list_end hh hit₁ ht₁ (by simp) fun h₂ he₂ => ?_))
    simp only [Option.isSome_none, Bool.false_eq_true, if_false]
    refine wpAny_pure (hQ h₂ fun b o hb e => he₂ b o hb (hs₁.extBut b o hb (Heap.get?_push_of_some _ e)))
end
section
variable {prog : Program} {w : World} {M : Model} {A : Around} {E : Value → Shared → Prop} {hp g : Heap} {G : Array GenState} {D : Drawn} {tk : Nat} {o : OsState} {L : Addr} {kn : Kns} {led : Led} {env : Env} {k : Nat} {x y : Str} {v : Value} {pos : Pos}
/-- kind, signs = a list of two -/
theorem r_pairL {x1 x2 : Str} {p1 p2 tpos : Pos} {kk : Nat} {t : Addr} {v1 v2 : Value} {n : Nat} {Q : Unit → Shared → Prop} (S : St g L hp kn led) (hg : g.get? L = none) (hh : A.handled = none) (ht : hp.get? t = some (lo [v1, v2] n))
    (h : ∀ h' tk', St g L h' ((x2, v2) :: (x1, v1) :: kn) led → Q () ⟨h', G, D, tk', o⟩) (hL : env.locals = L) (hk : env.scope.kind = .function) (hx1 : env.kindOf x1 = some .local) (hx2 : env.kindOf x2 = some .local) :
    wpAny (model prog w) A (assign (.Tuple [.Name x1 p1, .Name x2 p2] kk tpos) env (.ref t)) Q E ⟨hp, G, D, tk, o⟩ := by
  rw [assign_Tuple]
  refine wpAny_bind (wpAny_standAt ?_)
  unfold unpack
  refine wpAny_bind (wpAny_holding ?_)
  have hlt : ∀ b ob, hp.get? b = some ob → b ≠ hp.objs.size := fun b ob e => Nat.ne_of_lt (Heap.lt_size e)
  refine unpackItems_list (items := #[v1, v2]) (s := ⟨hp, G, D, tk, o⟩) hh (isList_of ht) (fun h' he => ?_)
  have S' := S.keeps (h' := h') fun b ob e => he b ob (hlt b ob e) e
  refine assignInOrder_cons (PyProof.Rows.assign_Name (r_store S' hg (fun h2 tk2 S2 => ?_) hL hk hx1))
  refine assignInOrder_cons (PyProof.Rows.assign_Name (r_store S2 hg (fun h3 tk3 S3 => ?_) hL hk hx2))
  exact assignInOrder_nil (h _ _ S3)
theorem r_letgo {elts : List Expr} {kk : Nat} {tpos : Pos} {I T : Addr} {oI : Obj} {s : Shared} {Q : Unit → Shared → Prop} (hI : s.heap.get? I = some oI) (hc : oI.cls = .type "list_iterator") (h : Q () s) : wpAny M A (letOwnedTupleGo (.Tuple elts kk tpos) (.ref I) (.ref T)) Q E s := by
  obtain ⟨cls, dd, data, sl⟩ := oI
  dsimp only at hc
  subst hc
  unfold letOwnedTupleGo
  refine wpAny_bind (wpAny_load hI ?_)
  cases data <;> first
    | exact wpAny_pure h
    | (refine KFB.if_not ?_ (wpAny_pure h); rw [Bool.and_eq_false_iff]; left; decide)
/-- for kind, signs in a list of lists of two -/
theorem r_forPairs {σ : Type} {x1 x2 : Str} {p1 p2 tpos : Pos} {kk : Nat} {body : List Stmt} {Q : Flow → Shared → Prop} {l : Addr} {vs : List Value} {n : Nat} (hh : A.handled = none) (S : St g L hp kn led) (hgL : g.get? L = none) (hl : hp.get? l = some (lo vs n)) (kns : Nat → σ → Kns) (leds : Nat → σ → Led) (PP : Nat → σ → Prop) (c₀ : σ)
    (S0 : KnAll kn (kns 0 c₀)) (hled : leds 0 c₀ = led) (h0 : PP 0 c₀)
    (hfp : (∃ o, g.get? l = some o) ∨ ∀ i c, PP i c → (l, lo vs n) ∈ leds i c) (hoff : ∀ i c, PP i c → ∀ p ∈ leds i c, p.2.cls ≠ .type "list_iterator")
    (hit : ∀ (i : Nat) (v : Value), vs[i]? = some v → ∃ t w1 w2 m, v = Value.ref t ∧ g.get? t = some (lo [w1, w2] m))
    (turn : ∀ i c t w1 w2 m h tk I oI, vs[i]? = some (.ref t) → g.get? t = some (lo [w1, w2] m) → PP i c → St g L h ((x2, w2) :: (x1, w1) :: kns i c) (leds i c ++ [(I, oI)]) → (∀ p ∈ leds i c, p.1 ≠ I) → oI.cls = .type "list_iterator" →
      GenP (ForPost G D o g L kns leds PP [(I, oI)] Q i) fun T => wpAny (model prog w) A (execs body env) T NoE ⟨h, G, D, tk, o⟩)
    (done : ∀ c h t, PP vs.length c → St g L h (kns vs.length c) (leds vs.length c) → Q .next ⟨h, G, D, t, o⟩) (hL : env.locals = L) (hk : env.scope.kind = .function) (hx1 : env.kindOf x1 = some .local) (hx2 : env.kindOf x2 = some .local) :
    wpAny (model prog w) A (pyIter (.ref l)) (fun it s₂ => codeAny (model prog w) A (.forLoop (.Tuple [.Name x1 p1, .Name x2 p2] kk tpos) it body [] env) (fun r s' => match r with | .ok f => Q f s' | .error e => cameBackBy (model prog w) A env NoE e s') s₂) NoE ⟨hp, G, D, tk, o⟩ := by
  refine wpAny_pyIter_list (isList_of hl) ?_
  have hlt := Heap.lt_size hl
  have up : ∀ b ob, hp.get? b = some ob → (hp.push { cls := .type "list_iterator", data := .fields #[.ref l, .int 0 0] }).get? b = some ob := fun b ob e => Heap.get?_push_of_some _ e
  have W := Walks.list (prog := prog) (w := w) hh hp.objs.size l (Nat.ne_of_lt hlt) vs.toArray
  have hz : vs.toArray.size = vs.length := by simp
  rw [hz] at W
  refine r_for (g := g) (L := L) W (.type "list_iterator") (fun i h st => by obtain ⟨oo, a, b, c⟩ := st.1; exact ⟨oo, a, b⟩) (fun b hb => by simpa using hb) kns leds PP c₀ ((S.keeps up).is S0 hled) (S.none_of_le (Nat.le_refl _)) (Nat.ne_of_gt S.ltL) h0
    ⟨⟨_, Heap.get?_push_size _ rfl, rfl, rfl⟩, (isList_of hl).at fun ob e => up _ _ e⟩ (fun b hb => ?_) hoff (fun i c v h t oI hi hv hP S' off hcl => ?_) done
  · rcases List.mem_cons.mp hb with rfl | hb
    · exact .inl rfl
    · rw [List.mem_singleton.mp hb]
      exact hfp.elim (fun e => .inr (.inl e)) fun e => .inr (.inr ⟨_, e⟩)
  · have hv' : vs[i]? = some v := by simpa using hv
    obtain ⟨t, w1, w2, m, rfl, ht⟩ := hit i v hv'
    refine r_letgo (S'.mem (List.mem_append_right _ (.head _))) hcl ?_
    exact r_pairL S' hgL hh (S'.keep _ _ ht) (fun h' tk' S'' => (turn i c t w1 w2 m h' tk' _ oI hv' ht hP S'' off hcl).use) hL hk hx1 hx2
end
end
section
set_option maxRecDepth 100000
set_option maxHeartbeats 0
noncomputable def placeOf (head : Str) (kd sg : Str) (at_ : Int) : Int :=
  if (kd == Str.ofString "held") = true then Txt.find3 head sg at_
  else if (kd == Str.ofString "far") = true then rfind3 head sg at_
  else if (Txt.slice head (some at_) (some (at_ + sg.length)) == sg) = true then at_ else -1
/-- how _law_takes goes through a text's runs -/
noncomputable def takesGo (head : Str) : List (Str × Str) → Int → Bool
  | [], at_ => at_ == (head.length : Int)
  | r :: rs, at_ => if placeOf head r.1 r.2 at_ < 0 then false else takesGo head rs (placeOf head r.1 r.2 at_ + r.2.length)
theorem takesGo_cons (head : Str) (r : Str × Str) (rs : List (Str × Str)) (a : Int) : takesGo head (r :: rs) a = if placeOf head r.1 r.2 a < 0 then false else takesGo head rs (placeOf head r.1 r.2 a + r.2.length) := rfl
end
section
set_option maxRecDepth 100000
set_option maxHeartbeats 0
theorem takes_fn {w : World} {h : Heap} {l : Addr} {rs : List Run} {n : Nat} {hd' : Str} {t : Tok} (hl : h.get? l = some (lo (Run.refs rs) n)) (hr : ∀ p ∈ Run.led rs, h.get? p.1 = some p.2) (hz : ∀ r ∈ rs, r.sg.length ≤ 2000) (hz2 : hd'.length ≤ 2000) :
    Fn w 174 1 [.ref l, .str hd' t] [] h (fun v _ => v = .bool (takesGo hd' (Run.says rs) 0)) := by
  have hs24 : sizeLine = 16777216 := rfl
  refine' enter [(Str.ofString "head", .str hd' t), (Str.ofString "runs", .ref l)] [] ?ho ?hcd ?hb ?hl ?hkn ?hc ?h1 ?h2 ?h3 ?hled ?_
  walk_at "en"
  case hled => simp
  intro prog A g hp G D tk o L C gk gn gL S
  have gl := gk _ _ hl (by simp)
  repeat walk_at "v"
  refine r_forPairs (σ := Int × Tok) (g := g) (L := L) C.hh (by assumption) gL (St.keep (by assumption) _ _ gl) (fun _ c => [(Str.ofString "at", .int c.1 c.2), (Str.ofString "head", .str hd' t), (Str.ofString "runs", .ref l)]) (fun _ _ => [])
    (fun i c => takesGo hd' ((Run.says rs).drop i) c.1 = takesGo hd' (Run.says rs) 0) (0, _) (by walk_at "kn") rfl rfl (.inl ⟨_, gl⟩) (by simp) ?_ ?_ ?_ rfl rfl rfl rfl
  · intro i v hv
    obtain ⟨r, hri, rfl⟩ := List.getElem?_map .. ▸ hv |> fun (hv : (rs[i]?).map (fun r => Value.ref r.a) = some v) => Option.map_eq_some_iff.mp hv
    exact ⟨r.a, _, _, r.n, rfl, gk _ _ (hr (r.a, r.obj) (List.mem_map.mpr ⟨r, List.mem_of_getElem? hri, rfl⟩)) (by simp)⟩
  · intro i c tt w1 w2 m h2 tk2 I oI hv ht hP S off ocl
    obtain ⟨r, hri, er⟩ : ∃ r, rs[i]? = some r ∧ Value.ref r.a = Value.ref tt := by
      have hv' : (rs[i]?).map (fun r => Value.ref r.a) = some (.ref tt) := by rw [← List.getElem?_map]; exact hv
      obtain ⟨r, a, b⟩ := Option.map_eq_some_iff.mp hv'
      exact ⟨r, a, b⟩
    cases er
    have hro := gk _ _ (hr (r.a, r.obj) (List.mem_map.mpr ⟨r, List.mem_of_getElem? hri, rfl⟩)) (by simp)
    have e2 : w1 = .str r.kd r.tk ∧ w2 = .str r.sg r.ts ∧ m = r.n := by
      rw [ht] at hro
      have := Option.some.inj hro
      simp [Run.obj, lo] at this
      exact ⟨this.1.1, this.1.2, this.2⟩
    obtain ⟨rfl, rfl, rfl⟩ := e2
    have hsz := hz r (List.mem_of_getElem? hri)
    repeat walk_at "v"
    refine r_join (g := g) (L := L) (σ := Tok) (fun d => [(Str.ofString "place", .int (placeOf hd' r.kd r.sg c.1) d), (Str.ofString "signs", .str r.sg r.ts), (Str.ofString "at", .int c.1 c.2), (Str.ofString "head", .str hd' t), (Str.ofString "runs", .ref l)]) (fun _ => [(I, oI)]) (fun _ => True) ?_ ?_
    · refine wpAny_If ?_
      repeat walk_at "v"
      with_reducible refine ifs (fun hb => ?_) (fun hb => ?_)
      · repeat walk_at "v"
        refine r_find3 (fun t1 tk1 => ?_)
        repeat walk_at "v"
        have e : placeOf hd' r.kd r.sg c.1 = Txt.find3 hd' r.sg c.1 := by unfold placeOf; rw [if_pos hb]
        walk_at "x"; exact Join.intro t1 (by rw [e]; walk_at "st") trivial
      · repeat walk_at "v"
        refine wpAny_If ?_
        repeat walk_at "v"
        with_reducible refine ifs (fun hb2 => ?_) (fun hb2 => ?_)
        · repeat walk_at "v"
          refine r_rfind3 (fun t1 tk1 => ?_)
          repeat walk_at "v"
          have e : placeOf hd' r.kd r.sg c.1 = rfind3 hd' r.sg c.1 := by unfold placeOf; rw [if_neg (by rw [hb]; decide), if_pos hb2]
          walk_at "x"; exact Join.intro t1 (by rw [e]; walk_at "st") trivial
        · repeat walk_at "v"
          refine wpAny_Subscript_str_slice ?_ (fun _ _ => rfl)
          repeat walk_at "v"
          refine r_strlen (by (first | walk_at "om" | omega)) (fun t1 tk1 => ?_)
          repeat walk_at "v"
          refine r_sliced (g := g) (L := L) (some (_, _)) (some (_, _)) (by assumption) rfl rfl (by (first | walk_at "om" | omega)) (fun h5 t5 tk5 S5 => ?_)
          repeat walk_at "v"
          with_reducible refine ifs (fun hb3 => ?_) (fun hb3 => ?_)
          · replace hb3 : (Txt.slice hd' (some c.1) (some (c.1 + r.sg.length)) == r.sg) = true := hb3
            repeat walk_at "v"
            have e : placeOf hd' r.kd r.sg c.1 = c.1 := by unfold placeOf; rw [if_neg (by rw [hb]; decide), if_neg (by rw [hb2]; decide), if_pos hb3]
            walk_at "x"; exact Join.intro c.2 (by rw [e]; walk_at "st") trivial
          · replace hb3 : (Txt.slice hd' (some c.1) (some (c.1 + r.sg.length)) == r.sg) = false := hb3
            repeat walk_at "v"
            have e : placeOf hd' r.kd r.sg c.1 = -1 := by unfold placeOf; rw [if_neg (by rw [hb]; decide), if_neg (by rw [hb2]; decide), if_neg (by rw [hb3]; decide)]
            walk_at "x"; refine Join.intro _ (by rw [e]; walk_at "st") trivial
    · intro tp h3 tk3 _ S3
      have hd1 : (Run.says rs).drop i = (r.kd, r.sg) :: (Run.says rs).drop (i + 1) := by
        have hi : i < (Run.says rs).length := by simp [Run.says]; exact (List.getElem?_eq_some_iff.mp hri).1
        rw [List.drop_eq_getElem_cons hi]
        congr 1
        have := (List.getElem?_eq_some_iff.mp hri).2
        simp [Run.says, this]
      rw [hd1] at hP
      rw [takesGo_cons] at hP
      repeat walk_at "v"
      refine wpAny_If ?_
      repeat walk_at "v"
      with_reducible refine ifs (fun hb => ?_) (fun hb => ?_)
      · rw [if_pos (of_decide_eq_true hb)] at hP
        repeat walk_at "v"
        try dsimp only [ForPost]
        walk_at "x"; refine Ret.intro (by assumption) ?_
        rw [← hP]; rfl
      · rw [if_neg (of_decide_eq_false hb)] at hP
        repeat walk_at "v"
        refine r_strlen (by (first | walk_at "om" | omega)) (fun t1 tk1 => ?_)
        repeat walk_at "v"
        walk_at "x"; exact ForEnd.intro (placeOf hd' r.kd r.sg c.1 + r.sg.length, _) (by walk_at "st") hP
  · intro c h2 tk2 hP S
    have hlen : (Run.refs rs).length = rs.length := by simp [Run.refs]
    rw [hlen, List.drop_of_length_le (by simp [Run.says])] at hP
    repeat walk_at "v"
    refine r_strlen (by (first | walk_at "om" | omega)) (fun t1 tk1 => ?_)
    repeat walk_at "v"
    walk_at "x"; refine Ret.intro (by assumption) ?_
    rw [← hP]; rfl
end
section
set_option maxRecDepth 100000
set_option maxHeartbeats 0
section
variable {prog : Program} {w : World} {M : Model} {A : Around} {E : Value → Shared → Prop} {hp g : Heap} {G : Array GenState} {D : Drawn} {tk : Nat} {o : OsState} {L : Addr} {kn : Kns} {led : Led} {env : Env} {k : Nat} {x y : Str} {v : Value} {pos : Pos} {c : Addr} {oc : Obj}
theorem r_cellload {Q : Value → Shared → Prop} (S : St g L hp kn led) (hm : (c, oc) ∈ led) (hv : oc.data = .cell (some v)) (h : Q v ⟨hp, G, D, tk, o⟩) (hc : env.cells.lookup x = some c) (hk : env.scope.kind = .function)
    (hx : env.kindOf x = some .cell) (hd : (x == ("__debug__" : Str)) = false) : wpAny M A (eval (.Name x pos) env) Q E ⟨hp, G, D, tk, o⟩ :=
  wpAny_Name (wpAny_loadName_cell hk hx hc ⟨oc, S.mem hm, hv⟩ h) hd
theorem r_cellstore {v₀ : Option Value} {Q : Unit → Shared → Prop} (S : St g L hp kn ((c, oc) :: led)) (hne : ∀ p ∈ led, p.1 ≠ c) (hv : oc.data = .cell v₀)
    (h : ∀ h' oc', oc'.data = .cell (some v) → St g L h' kn ((c, oc') :: led) → Q () ⟨h', G, D, tk, o⟩) (hc : env.cells.lookup x = some c) (hk : env.scope.kind = .function) (hx : env.kindOf x = some .cell) :
    wpAny M A (storeName env x v) Q E ⟨hp, G, D, tk, o⟩ := by
  refine wpAny_storeName_cell hk hx hc ⟨oc, S.mem (.head _), hv⟩ (fun h' hI hs => ?_)
  obtain ⟨oc', e, hd⟩ := hI
  exact h h' oc' hd (S.set hs e hne)
end
end
section
set_option maxRecDepth 100000
set_option maxHeartbeats 0
section
variable {prog : Program} {w : World} {M : Model} {A : Around} {E : Value → Shared → Prop} {hp g : Heap} {G : Array GenState} {D : Drawn} {tk : Nat} {o : OsState} {L : Addr} {kn : Kns} {led : Led} {env : Env} {k : Nat} {x y : Str} {v : Value} {pos : Pos} {c : Addr} {oc : Obj}
theorem r_freeload {Q : Value → Shared → Prop} (S : St g L hp kn led) (hm : (c, oc) ∈ led) (hv : oc.data = .cell (some v)) (h : Q v ⟨hp, G, D, tk, o⟩) (hc : env.cells.lookup x = some c) (hk : env.scope.kind = .function)
    (hx : env.kindOf x = some .free) (hn : (x == ("__classdict__" : Str)) = false) (hd : (x == ("__debug__" : Str)) = false) : wpAny M A (eval (.Name x pos) env) Q E ⟨hp, G, D, tk, o⟩ :=
  wpAny_Name (wpAny_loadName_free hk hx hc ⟨oc, S.mem hm, hv⟩ h hn) hd
/-- a turn of a comprehension that takes y in -/
noncomputable def CompYes {σ : Type} (G : Array GenState) (D : Drawn) (o : OsState) (g : Heap) (C : Addr) (leds : Nat → σ → Led) (us : Nat → σ → List Value) (PP : Nat → σ → Prop) (own : Led) (Dl : Addr) (n : Nat) (i : Nat) (c : σ) (y : Value) (s : Shared) : Prop :=
  ∃ c' kn' h' t', s = ⟨h', G, D, t', o⟩ ∧ PP (i + 1) c' ∧ us (i + 1) c' = us i c ++ [y] ∧ St g C h' kn' ((Dl, lo (us i c) n) :: (leds (i + 1) c' ++ own))
noncomputable def CompNo {σ : Type} (G : Array GenState) (D : Drawn) (o : OsState) (g : Heap) (C : Addr) (leds : Nat → σ → Led) (us : Nat → σ → List Value) (PP : Nat → σ → Prop) (own : Led) (Dl : Addr) (n : Nat) (i : Nat) (c : σ) (s : Shared) : Prop :=
  ∃ c' kn' h' t', s = ⟨h', G, D, t', o⟩ ∧ PP (i + 1) c' ∧ us (i + 1) c' = us i c ∧ St g C h' kn' ((Dl, lo (us i c) n) :: (leds (i + 1) c' ++ own))
noncomputable abbrev compTests (ifs : List Expr) (cenv : Env) : Sem Bool := forIn ifs true fun c r => if r = true then do let ok ← isTrue c cenv (eval c cenv); pure (ForInStep.yield ok) else pure (ForInStep.yield r)
theorem comp_loop {σ : Type} {elt iter : Expr} {px : Pos} {ifs : List Expr} {scope : Scope} {N : Nat} {I Dl C : Addr} {fp wr : List Addr} {P : Nat → Value → Prop} {Sti : Nat → Heap → Prop} {R : Result → Shared → Prop} {cenv : Env}
    (W : Walks prog w A I fp wr N P Sti) {clsI : Value} (hcls : ∀ i h, Sti i h → ∃ o, h.get? I = some o ∧ o.cls = clsI) (hwr : ∀ b ∈ wr, b = I)
    (leds : Nat → σ → Led) (us : Nat → σ → List Value) (PP : Nat → σ → Prop) (c₀ : σ) (n₀ : Nat) (pc : Addr × Obj)
    (S : St g C hp kn ((Dl, lo (us 0 c₀) n₀) :: (leds 0 c₀ ++ [pc]))) (hgC : g.get? C = none) (hgI : g.get? I = none) (hCI : I ≠ C) (hDI : Dl ≠ I) (hpI : pc.1 ≠ I) (h0 : PP 0 c₀) (hst : Sti 0 hp)
    (hDn : ∀ i c, PP i c → (∀ p ∈ leds i c, p.1 ≠ Dl) ∧ (us i c).length ≤ sizeLine) (hDp : pc.1 ≠ Dl)
    (hfp : ∀ b ∈ fp, b = I ∨ (∃ o, g.get? b = some o) ∨ ∃ o, ∀ i c, PP i c → (b, o) ∈ leds i c) (hoff : ∀ i c, PP i c → ∀ p ∈ leds i c, p.1 ≠ I)
    (hL : cenv.locals = C) (hk : cenv.scope.kind = .function) (hx : cenv.kindOf x = some .local)
    (turn : ∀ i c v h t n oI, i < N → P i v → PP i c → oI.cls = clsI → St g C h ((x, v) :: []) ((Dl, lo (us i c) n) :: (leds i c ++ [pc, (I, oI)])) → (∀ p ∈ leds i c, p.1 ≠ I) →
      wpAny (model prog w) A (compTests ifs cenv) (fun ok s₃ => if ok = true then wpAny (model prog w) A (eval elt cenv) (fun y s₄ => CompYes G D o g C leds us PP [pc, (I, oI)] Dl n i c y s₄) NoE s₃
        else CompNo G D o g C leds us PP [pc, (I, oI)] Dl n i c s₃) NoE ⟨h, G, D, t, o⟩)
    (done : ∀ c h t n kn', PP N c → St g C h kn' ((Dl, lo (us N c) n) :: (leds N c ++ [pc])) → R (.ok .next) ⟨h, G, D, t, o⟩) :
    codeAny (model prog w) A (.compLoop (.ListComp elt [⟨.Name x px, iter, ifs, 0⟩] scope pos) 0 (.ref I) (.ref Dl) cenv) R ⟨hp, G, D, tk, o⟩ := by
  refine codeAny_compLoop_tests (fun m s' => ∃ i c h t n kn', s' = ⟨h, G, D, t, o⟩ ∧ i ≤ N ∧ m = N - i ∧ PP i c ∧ Sti i h ∧ St g C h kn' ((Dl, lo (us i c) n) :: (leds i c ++ [pc]))) ?_ N ⟨0, c₀, hp, tk, n₀, kn, rfl, Nat.zero_le _, by (first | walk_at "om" | omega), h0, hst, S⟩
  rintro m s' ⟨i, c, h, t, n, kn', rfl, hin, rfl, hP, hi, S⟩
  have ledI : ∀ p ∈ leds i c, p.1 ≠ I := hoff i c hP
  have offI : ∀ p ∈ (Dl, lo (us i c) n) :: (leds i c ++ [pc]), p.1 ≠ I := fun p hp => by
    rcases List.mem_cons.mp hp with rfl | hp
    · exact hDI
    · rcases List.mem_append.mp hp with hp | hp
      · exact ledI p hp
      · rw [List.mem_singleton.mp hp]; exact hpI
  have after : ∀ h' : Heap, (∀ b ob, b ∉ wr → h.get? b = some ob → h'.get? b = some ob) → St g C h' kn' ((Dl, lo (us i c) n) :: (leds i c ++ [pc])) := by
    intro h' hk
    refine ⟨fun b ob e => hk b ob (fun hb => by rw [hwr b hb, hgI] at e; cases e) (S.keep b ob e), ?_, fun p hp => ⟨hk _ _ (fun hb => offI p hp (hwr _ hb)) (S.nw p hp).1, (S.nw p hp).2⟩⟩
    obtain ⟨mm, ⟨ol, es, ep, a, r⟩, b⟩ := S.ns
    exact ⟨mm, ⟨ol, es, ep, hk C ol (fun hb => hCI (hwr _ hb).symm) a, r⟩, b⟩
  rcases Nat.lt_or_ge i N with hlt | hge
  · refine W.item i _ _ _ hlt hi (fun v h' tk' hv hst' hk' => ?_)
    have S' := after h' hk'
    obtain ⟨oI, e1, e2⟩ := hcls (i + 1) h' hst'
    have S'' : St g C h' kn' ((Dl, lo (us i c) n) :: (leds i c ++ [pc, (I, oI)])) := ⟨S'.keep, S'.ns, fun p hp => by
      simp only [List.mem_cons, List.mem_append, List.not_mem_nil, or_false] at hp
      rcases hp with h | h | h | h
      · exact S'.nw p (by rw [h]; exact .head _)
      · exact S'.nw p (.tail _ (List.mem_append_left _ h))
      · exact S'.nw p (by rw [h]; exact .tail _ (List.mem_append_right _ (.head _)))
      · rw [h]; exact ⟨e1, hgI, hCI⟩⟩
    have frame : ∀ c' kn2 h3 vs3, PP (i + 1) c' → St g C h3 kn2 ((Dl, vs3) :: (leds (i + 1) c' ++ [pc, (I, oI)])) → Sti (i + 1) h3 := fun c' kn2 h3 vs3 hP' S3 => by
      refine W.frame (i + 1) h' h3 hst' (fun b hb ob e => ?_)
      rcases hfp b hb with rfl | ⟨ob', eg⟩ | ⟨ob', el⟩
      · rw [e1] at e; cases e
        exact (S3.nw _ (.tail _ (List.mem_append_right _ (.tail _ (.head _))))).1
      · have := S'.keep b ob' eg
        rw [this] at e; cases e
        exact S3.keep b _ eg
      · have := (S'.nw _ (.tail _ (List.mem_append_left _ (el i c hP)))).1
        rw [this] at e; cases e
        exact (S3.nw _ (.tail _ (List.mem_append_left _ (el (i + 1) c' hP')))).1
    have drop : ∀ c' kn2 h3 vs3, St g C h3 kn2 ((Dl, vs3) :: (leds (i + 1) c' ++ [pc, (I, oI)])) → St g C h3 kn2 ((Dl, vs3) :: (leds (i + 1) c' ++ [pc])) := fun c' kn2 h3 vs3 S3 => S3.drop fun p hp => by
      simp only [List.mem_cons, List.mem_append, List.not_mem_nil, or_false] at hp ⊢
      rcases hp with h | h | h
      · exact .inl h
      · exact .inr (.inl h)
      · exact .inr (.inr (.inl h))
    refine wpAny_assign_Name (r_store S'' hgC (fun h2 tk2 S2 => ?_) hL hk hx)
    refine wpAny_mono (turn i c v h2 tk2 n oI hlt hv hP e2 (S2.re (kn_sub ⟨by simp, trivial⟩)) ledI) (fun ok s₃ h₃ => ?_) fun _ _ e => e.elim
    cases ok with
    | false =>
      simp only [Bool.false_eq_true, if_false] at h₃ ⊢
      obtain ⟨c', kn2, h3, t3, rfl, hP', hu, S3⟩ := h₃
      rw [← hu] at S3
      exact ⟨N - (i + 1), by (first | walk_at "om" | omega), i + 1, c', h3, t3, n, kn2, rfl, hlt, rfl, hP', frame c' kn2 h3 _ hP' S3, drop c' kn2 h3 _ S3⟩
    | true =>
      simp only [if_true] at h₃ ⊢
      refine wpAny_mono h₃ (fun y s₄ hy => ?_) fun _ _ e => e.elim
      obtain ⟨c', kn2, h3, t3, rfl, hP', hu, S3⟩ := hy
      refine r_append S3 (fun p hp => ?_) (hDn i c hP).2 (fun h5 S5 => ?_)
      · rcases List.mem_append.mp hp with hp | hp
        · exact (hDn (i + 1) c' hP').1 p hp
        · simp only [List.mem_cons, List.not_mem_nil, or_false] at hp
          rcases hp with rfl | rfl
          · exact hDp
          · exact Ne.symm hDI
      · rw [← hu] at S5
        exact ⟨N - (i + 1), by (first | walk_at "om" | omega), i + 1, c', h5, t3, n + 1, kn2, rfl, hlt, rfl, hP', frame c' kn2 h5 _ hP' S5, drop c' kn2 h5 _ S5⟩
  · have : i = N := by (first | walk_at "om" | omega)
    subst this
    exact W.done _ _ _ hi (fun h' tk' hk' => done c h' tk' n kn' hP (after h' hk'))
theorem comp_block {σ : Type} {elt iter : Expr} {px : Pos} {ifs : List Expr} {scope : Scope} {cl : List (Str × Addr)} {N : Nat} {I : Addr} {fp wr : List Addr} {P : Nat → Value → Prop} {Sti : Nat → Heap → Prop} {RR : Value → Addr → Result → Shared → Prop}
    (W : Walks prog w A I fp wr N P Sti) {clsI : Value} (hcls : ∀ i h, Sti i h → ∃ o, h.get? I = some o ∧ o.cls = clsI) (hwr : ∀ b ∈ wr, b = I)
    (leds : Nat → σ → Led) (us : Nat → σ → List Value) (PP : Nat → σ → Prop) (c₀ : σ)
    (S : St g L hp kn led) (hgL : g.get? L = none) (hgI : g.get? I = none) (hIL : I ≠ L) (hled : leds 0 c₀ = led) (hu0 : us 0 c₀ = []) (h0 : PP 0 c₀) (hst : Sti 0 hp)
    (hfp : ∀ b ∈ fp, b = I ∨ (∃ o, g.get? b = some o) ∨ ∃ o, ∀ i c, PP i c → (b, o) ∈ leds i c) (hoff : ∀ i c, PP i c → ∀ p ∈ leds i c, p.1 ≠ I)
    (hz : ∀ i c, PP i c → (us i c).length ≤ sizeLine) (hlt : ∀ i c, PP i c → ∀ p ∈ leds i c, p.1 ≠ hp.objs.size) (hLn : ∀ i c, PP i c → ∀ p ∈ leds i c, p.1 ≠ L)
    (hcell : ∀ y ∈ scope.names, y.2 ≠ .cell) (hkind : scope.kind = .function) (hx : scope.names.lookup x = some .local)
    (turn : ∀ Dl C pc i c v h t n oI, i < N → P i v → PP i c → oI.cls = clsI → pc.1 = L → Dl = hp.objs.size → g.get? C = none → St g C h ((x, v) :: []) ((Dl, lo (us i c) n) :: (leds i c ++ [pc, (I, oI)])) → (∀ p ∈ leds i c, p.1 ≠ I) →
      wpAny (model prog w) A (compTests ifs (compEnvC scope cl C env)) (fun ok s₃ => if ok = true then wpAny (model prog w) A (eval elt (compEnvC scope cl C env)) (fun y s₄ => CompYes G D o g C leds us PP [pc, (I, oI)] Dl n i c y s₄) NoE s₃
        else CompNo G D o g C leds us PP [pc, (I, oI)] Dl n i c s₃) NoE ⟨h, G, D, t, o⟩)
    (done : ∀ Dl C c h t n, PP N c → Dl = hp.objs.size → g.get? C = none → C ≠ L → (∀ p ∈ (Dl, lo (us N c) n) :: leds N c, p.1 ≠ C) → (∃ m, h.Ns C m) → (∀ h', Heap.SameBut C h h' → St g L h' kn ((Dl, lo (us N c) n) :: leds N c)) → RR (.ref Dl) C (.ok .next) ⟨h, G, D, t, o⟩) :
    wpAny (model prog w) A (newList []) (fun acc s₃ => wpAny (model prog w) A (newFunctionEnv scope env.globals cl [] env.qual none .none (some env)) (fun cenv s₄ =>
      codeAny (model prog w) A (.compStart (.ListComp elt [⟨.Name x px, iter, ifs, 0⟩] scope pos) 0 (.ref I) acc { cenv with scope := relabel scope env }) (RR acc cenv.locals) s₄) E s₃) E ⟨hp, G, D, tk, o⟩ := by
  refine wpAny_newObj_type (wpAny_newFunctionEnv hcell (by intro y hy; simp at hy) (fun h₁ hns₁ hsb₁ => ?_) hkind)
  try dsimp only at hns₁ hsb₁ ⊢
  have SD := (S.new (ob := lo [] 0) rfl).1
  generalize hH2 : hp.push { cls := .type "list", dict := none, data := .seq ([] : List Value).toArray } = H2 at hns₁ hsb₁ ⊢
  have hC : H2.objs.size = hp.objs.size + 1 := by rw [← hH2, Heap.size_push]
  replace SD : St g L H2 kn ((hp.objs.size, lo [] 0) :: led) := by rw [← hH2]; exact SD
  have old : ∀ b ob, H2.get? b = some ob → h₁.get? b = some ob := fun b ob e => hsb₁.extBut b ob (Nat.ne_of_lt (Heap.lt_size e)) (Heap.get?_push_of_some _ e)
  have S1 := SD.keeps old
  have hDC : hp.objs.size ≠ H2.objs.size := by rw [hC]; exact Nat.ne_of_lt (Nat.lt_succ_self _)
  have gC : g.get? H2.objs.size = none := S.none_of_le (by rw [hC]; exact Nat.le_succ _)
  have hIlt : I < hp.objs.size := by obtain ⟨oI, e, _⟩ := hcls 0 hp hst; exact Heap.lt_size e
  have hLlt := S.ltL
  obtain ⟨oL, eL⟩ : ∃ oL, h₁.get? L = some oL := by obtain ⟨m, ⟨ol, es, ep, a, _⟩, _⟩ := S1.ns; exact ⟨ol, a⟩
  have SC : St g H2.objs.size h₁ [] ((hp.objs.size, lo (us 0 c₀) 0) :: (leds 0 c₀ ++ [(L, oL)])) := by
    refine ⟨S1.keep, ⟨_, hns₁, fun x v e => by cases e⟩, fun p hp' => ?_⟩
    rw [hu0, hled] at hp'
    have below : ∀ q ∈ (hp.objs.size, lo [] 0) :: led, q.1 ≠ H2.objs.size := fun q hq => Nat.ne_of_lt (SD.lt q hq)
    rcases List.mem_cons.mp hp' with h | h
    · have z := S1.nw p (by rw [h]; exact .head _)
      exact ⟨z.1, z.2.1, below p (by rw [h]; exact .head _)⟩
    · rcases List.mem_append.mp h with h | h
      · have z := S1.nw p (.tail _ h)
        exact ⟨z.1, z.2.1, below p (.tail _ h)⟩
      · rw [List.mem_singleton.mp h]
        exact ⟨eL, hgL, by show L ≠ _; rw [hC]; exact Nat.ne_of_lt (Nat.lt_succ_of_lt hLlt)⟩
  have hst₁ : Sti 0 h₁ := W.frame _ _ _ hst fun b hb ob e => old b ob (by rw [← hH2]; exact Heap.get?_push_of_some _ e)
  have loop : ∀ s₃ : Shared, s₃ = ⟨h₁, G, D, tk + ([] : List (Str × Value)).length, o⟩ →
      codeAny (model prog w) A (.compLoop (.ListComp elt [⟨.Name x px, iter, ifs, 0⟩] scope pos) 0 (.ref I) (.ref hp.objs.size) (compEnvC scope cl H2.objs.size env)) (RR (.ref hp.objs.size) H2.objs.size) s₃ := by
    rintro s₃ rfl
    refine comp_loop (cenv := compEnvC scope cl H2.objs.size env) W hcls hwr leds us PP c₀ 0 (L, oL) SC gC hgI (Nat.ne_of_lt (by rw [hC]; exact Nat.lt_succ_of_lt hIlt)) (Nat.ne_of_gt hIlt) (Ne.symm hIL) h0 hst₁
      (fun i c hP => ⟨hlt i c hP, hz i c hP⟩) (Nat.ne_of_lt hLlt) hfp hoff rfl hkind (lookup_relabel_local hx)
      (fun i c v h t n oI a b c' d e f => turn hp.objs.size H2.objs.size (L, oL) i c v h t n oI a b c' d rfl rfl gC e f) (fun c h t n kn' hP S3 => ?_)
    refine done hp.objs.size H2.objs.size c h t n hP rfl gC (Nat.ne_of_gt (by rw [hC]; exact Nat.lt_succ_of_lt hLlt)) (fun p hp' => (S3.nw p (by
        rcases List.mem_cons.mp hp' with h | h
        · rw [h]; exact .head _
        · exact .tail _ (List.mem_append_left _ h))).2.2) (let ⟨m, a, _⟩ := S3.ns; ⟨m, a⟩) (fun h' hs => ?_)
    have off : ∀ b ob, h.get? b = some ob → b ≠ H2.objs.size → h'.get? b = some ob := fun b ob e n => (hs.2 b n).trans e
    have zL := S3.nw (L, oL) (.tail _ (List.mem_append_right _ (.head _)))
    refine ⟨fun b ob e => off b ob (S3.keep b ob e) (fun q => by rw [q, gC] at e; cases e), ?_, fun p hp' => ?_⟩
    · obtain ⟨m, ⟨ol, es, ep, a, r⟩, b⟩ := S1.ns
      rw [eL] at a; cases a
      exact ⟨m, ⟨oL, es, ep, off _ _ zL.1 zL.2.2, r⟩, b⟩
    · have hq : p ∈ (hp.objs.size, lo (us N c) n) :: (leds N c ++ [(L, oL)]) := by
        rcases List.mem_cons.mp hp' with h | h
        · rw [h]; exact .head _
        · exact .tail _ (List.mem_append_left _ h)
      have z := S3.nw p hq
      refine ⟨off _ _ z.1 z.2.2, z.2.1, ?_⟩
      rcases List.mem_cons.mp hp' with h | h
      · rw [h]; exact Nat.ne_of_gt hLlt
      · exact hLn N c hP p h
  exact codeAny_compStart_list (loop _ rfl) (W.self 0 _ _ _ hst₁ (loop _ rfl))
end
end
section
set_option maxRecDepth 100000
set_option maxHeartbeats 0
section
variable {prog : Program} {w : World} {M : Model} {A : Around} {E : Value → Shared → Prop} {hp g : Heap} {G : Array GenState} {D : Drawn} {tk : Nat} {o : OsState} {L : Addr} {kn : Kns} {led : Led} {env : Env} {k : Nat} {x y : Str} {v : Value} {pos : Pos} {c : Addr} {oc : Obj}
/-- the rest of a comprehension's making, behind its iterator -/
noncomputable def CompGo (M : Model) (A : Around) (elt iter : Expr) (x : Str) (px : Pos) (ifs : List Expr) (scope : Scope) (pos : Pos) (cl : List (Str × Addr)) (env : Env) (use : Option (Value → Sem Unit)) (Q E : Value → Shared → Prop) (it : Value) (s : Shared) : Prop :=
  wpAny M A (newList []) (fun acc s₃ => wpAny M A (newFunctionEnv scope env.globals cl [] env.qual none .none (some env)) (fun cenv s₄ =>
      codeAny M A (.compStart (.ListComp elt [⟨.Name x px, iter, ifs, 0⟩] scope pos) 0 it acc { cenv with scope := relabel scope env }) (compPost M A E use Q acc cenv.locals) s₄) E s₃) E s

theorem r_listcomp {elt iter : Expr} {px : Pos} {ifs : List Expr} {scope : Scope} {cl : List (Str × Addr)} {Q : Value → Shared → Prop} {s : Shared}
    (h : wpAny M A (eval iter env) (fun xv s₁ => wpAny M A (pyIter xv) (fun it s₂ => CompGo M A elt iter x px ifs scope pos cl env none Q E it s₂) E s₁) E s)
    (hclos : closureFor scope env = pure cl) (hs : ∀ x, foldedSetIterable iter env x = pure x) (hkind : scope.kind = .function) (hnames : ∀ z ∈ scope.names, z.2 = .local → scope.names.lookup z.1 = some .local) :
    wpAny M A (eval (.ListComp elt [⟨.Name x px, iter, ifs, 0⟩] scope pos) env) Q E s := by
  rw [eval_ListComp]
  exact wpAny_comprehension_free (use := none) rfl hs hclos hkind hnames h

theorem r_listcompA {elt iter : Expr} {px py : Pos} {ifs : List Expr} {scope : Scope} {cl : List (Str × Addr)} {spos : Pos} {Q : Flow → Shared → Prop} {s : Shared}
    (h : wpAny M A (eval iter env) (fun xv s₁ => wpAny M A (pyIter xv) (fun it s₂ => CompGo M A elt iter x px ifs scope pos cl env (some (assign (.Name y py) env)) (fun _ s' => Q .next s') E it s₂) E s₁) E s)
    (hsw : swapsWith (.ListComp elt [⟨.Name x px, iter, ifs, 0⟩] scope pos) (some (.Name y py)) spos.line env = pure true)
    (hclos : closureFor scope env = pure cl) (hs : ∀ x, foldedSetIterable iter env x = pure x) (hkind : scope.kind = .function) (hnames : ∀ z ∈ scope.names, z.2 = .local → scope.names.lookup z.1 = some .local) :
    wpAny M A (exec (.Assign [.Name y py] (.ListComp elt [⟨.Name x px, iter, ifs, 0⟩] scope pos) spos) env) Q E s := by
  rw [exec_Assign_Name_used _ _ _ _ hsw]
  refine wpAny_bind (wpAny_standAt (wpAny_bind ?_))
  show wpAny _ A (do let _ ← comprehension (.ListComp elt [⟨.Name x px, iter, ifs, 0⟩] scope pos) scope env _ (newList []) false (eval iter env) (some (assign (.Name y py) env))) _ _ s
  exact wpAny_bind (wpAny_mono (wpAny_comprehension_free (use := some (assign (.Name y py) env)) (Q := fun _ s' => Q .next s') rfl hs hclos hkind hnames h) (fun _ s' hq => wpAny_pure (wpAny_pure hq)) fun _ _ e => e)

/-- the states of a comprehension: the items so far, and the objects made -/
noncomputable abbrev Cst := List Value × Led
/-- what is wanted behind a turn -/
noncomputable def CY (G : Array GenState) (D : Drawn) (o : OsState) (g : Heap) (C : Addr) (led : Led) (PP : Nat → List Value → Led → Prop) (own : Led) (Dl : Addr) (n : Nat) (i : Nat) (us : List Value) (us' : List Value) (s : Shared) : Prop :=
  ∃ nl' kn' h' t', s = ⟨h', G, D, t', o⟩ ∧ PP (i + 1) us' nl' ∧ (∀ p ∈ nl', Dl < p.1) ∧ St g C h' kn' ((Dl, lo us n) :: ((nl' ++ led) ++ own))
theorem CY.intro {led : Led} {PP : Nat → List Value → Led → Prop} {own : Led} {Dl C : Addr} {n i : Nat} {us us' : List Value} {h' : Heap} {t' : Nat} {kn' : Kns} (nl' : Led) (S : St g C h' kn' ((Dl, lo us n) :: ((nl' ++ led) ++ own))) (hP : PP (i + 1) us' nl') (hn : ∀ p ∈ nl', Dl < p.1) :
    CY G D o g C led PP own Dl n i us us' ⟨h', G, D, t', o⟩ := ⟨nl', kn', h', t', rfl, hP, hn, S⟩

/-- a turn's post-condition of which just this is known: it follows from another -/
noncomputable def ImpV (T₀ T : List Value → Shared → Prop) : Prop := ∀ us s, T₀ us s → T us s
theorem ImpV.app {T₀ T : List Value → Shared → Prop} {us : List Value} {s : Shared} (h : ImpV T₀ T) (x : T₀ us s) : T us s := h us s x
noncomputable def GenV (T₀ : List Value → Shared → Prop) (F : (List Value → Shared → Prop) → Prop) : Prop := ∀ T, ImpV T₀ T → F T
theorem GenV.intro {T₀ : List Value → Shared → Prop} {F : (List Value → Shared → Prop) → Prop} (h : ∀ T, ImpV T₀ T → F T) : GenV T₀ F := h
theorem GenV.use {T₀ : List Value → Shared → Prop} {F : (List Value → Shared → Prop) → Prop} (h : GenV T₀ F) : F T₀ := h T₀ fun _ _ x => x

theorem compPost_done {Q : Value → Shared → Prop} {use : Option (Value → Sem Unit)} {acc : Value} {C : Addr} {h : Heap} {t : Nat} {led' : Led} (hgC : g.get? C = none) (hCL : C ≠ L) (hns : ∃ m, h.Ns C m)
    (back : ∀ h', Heap.SameBut C h h' → St g L h' kn led') (hoff : ∀ p ∈ led', p.1 ≠ C)
    (hQ : match use with
      | none => ∀ h', St g L h' kn led' → Q acc ⟨h', G, D, t, o⟩
      | some u => ∀ h' oC, St g L h' kn ((C, oC) :: led') → wpAny M A (u acc) (fun _ s'' => ∃ h'' t'' kn' led'', s'' = ⟨h'', G, D, t'', o⟩ ∧ St g L h'' kn' ((C, oC) :: led'') ∧ (∀ p ∈ led'', p.1 ≠ C) ∧ ∀ h3, St g L h3 kn' led'' → Q .none ⟨h3, G, D, t'', o⟩) E ⟨h', G, D, t, o⟩) :
    compPost M A E use Q acc C (.ok .next) ⟨h, G, D, t, o⟩ := by
  obtain ⟨m, hm⟩ := hns
  cases use with
  | none => exact ⟨m, hm, fun h' hs => hQ h' (back h' hs)⟩
  | some u =>
    obtain ⟨oC, es, ep, e, r⟩ := hm
    refine wpAny_mono (hQ h oC ((back h (Heap.SameBut.refl ..)).add e hgC hCL)) (fun _ s'' hq => ?_) fun _ _ e => e
    obtain ⟨h'', t'', kn', led'', rfl, S, hne, hq⟩ := hq
    refine ⟨m, ⟨oC, es, ep, S.mem (.head _), r⟩, fun h3 hs => hq h3 ?_⟩
    refine ⟨fun b ob e => (hs.2 b (fun q => by rw [q, hgC] at e; cases e)).trans (S.keep b ob e), ?_, fun p hp => ?_⟩
    · obtain ⟨m2, a, b⟩ := S.ns
      exact ⟨m2, a.sameBut hs (Ne.symm hCL), b⟩
    · have z := S.nw p (.tail _ hp)
      exact ⟨(hs.2 _ (hne p hp)).trans z.1, z.2⟩

theorem r_comp {elt iter : Expr} {px : Pos} {ifs : List Expr} {scope : Scope} {cl : List (Str × Addr)} {use : Option (Value → Sem Unit)} {Q : Value → Shared → Prop} {N : Nat} {I : Addr} {fp wr : List Addr} {P : Nat → Value → Prop} {Sti : Nat → Heap → Prop}
    (W : Walks prog w A I fp wr N P Sti) {clsI : Value} (hcls : ∀ i h, Sti i h → ∃ o, h.get? I = some o ∧ o.cls = clsI) (hwr : ∀ b ∈ wr, b = I) (hN : N ≤ sizeLine)
    (S : St g L hp kn led) (hgL : g.get? L = none) (hgI : g.get? I = none) (hIL : I ≠ L) (hIl : ∀ p ∈ led, p.1 ≠ I) (hst : Sti 0 hp)
    (hfp : ∀ b ∈ fp, b = I ∨ (∃ o, g.get? b = some o) ∨ ∃ o, (b, o) ∈ led)
    (PP : Nat → List Value → Led → Prop) (h0 : PP 0 [] [])
    (hcell : ∀ y ∈ scope.names, y.2 ≠ .cell) (hkind : scope.kind = .function) (hx : scope.names.lookup x = some .local)
    (turn : ∀ Dl C i us nl v h t n own, i < N → P i v → PP i us nl → (∀ p ∈ nl, Dl < p.1) → Dl = hp.objs.size → L < Dl → g.get? C = none → St g C h ((x, v) :: []) ((Dl, lo us n) :: ((nl ++ led) ++ own)) →
      wpAny (model prog w) A (compTests ifs (compEnvC scope cl C env)) (fun ok s₃ => if ok = true then wpAny (model prog w) A (eval elt (compEnvC scope cl C env)) (fun y s₄ => CY G D o g C led PP own Dl n i us (us ++ [y]) s₄) NoE s₃
        else CY G D o g C led PP own Dl n i us us s₃) NoE ⟨h, G, D, t, o⟩)
    (done : ∀ Dl us nl n t, PP N us nl → (∀ p ∈ nl, Dl < p.1) → (∀ p ∈ led, p.1 < Dl) → L < Dl → g.get? Dl = none →
      match use with
      | none => ∀ h', St g L h' kn ((Dl, lo us n) :: (nl ++ led)) → Q (.ref Dl) ⟨h', G, D, t, o⟩
      | some u => ∀ h' C oC, (∀ p ∈ (Dl, lo us n) :: (nl ++ led), p.1 ≠ C) → St g L h' kn ((C, oC) :: (Dl, lo us n) :: (nl ++ led)) → wpAny (model prog w) A (u (.ref Dl)) (fun _ s'' => ∃ h'' t'' kn' led'', s'' = ⟨h'', G, D, t'', o⟩ ∧ St g L h'' kn' ((C, oC) :: led'') ∧ (∀ p ∈ led'', p.1 ≠ C) ∧ ∀ h3, St g L h3 kn' led'' → Q .none ⟨h3, G, D, t'', o⟩) E ⟨h', G, D, t, o⟩) :
    CompGo (model prog w) A elt iter x px ifs scope pos cl env use Q E (.ref I) ⟨hp, G, D, tk, o⟩ := by
  have hIlt : I < hp.objs.size := by obtain ⟨oI, e, _⟩ := hcls 0 hp hst; exact Heap.lt_size e
  have hLlt := S.ltL
  refine comp_block (σ := Cst) (L := L) (kn := kn) (led := led) (RR := fun acc C => compPost (model prog w) A E use Q acc C) W hcls hwr (fun _ c => c.2 ++ led) (fun _ c => c.1) (fun i c => PP i c.1 c.2 ∧ (∀ p ∈ c.2, hp.objs.size < p.1) ∧ c.1.length ≤ i ∧ i ≤ N) ([], []) S hgL hgI hIL rfl rfl ⟨h0, by simp, by simp, Nat.zero_le _⟩ hst
    (fun b hb => (hfp b hb).elim .inl fun h => .inr (h.elim .inl fun ⟨o, hm⟩ => .inr ⟨o, fun i c _ => List.mem_append_right _ hm⟩))
    (fun i c hP p hp' => ?_) (fun i c hP => by have := hP.2.2.1; have := hP.2.2.2; (first | walk_at "om" | omega)) (fun i c hP p hp' => ?_) (fun i c hP p hp' => ?_) hcell hkind hx ?_ ?_
  · rcases List.mem_append.mp hp' with h | h
    · exact Nat.ne_of_gt (Nat.lt_trans hIlt (hP.2.1 p h))
    · exact hIl p h
  · rcases List.mem_append.mp hp' with h | h
    · exact Nat.ne_of_gt (hP.2.1 p h)
    · exact Nat.ne_of_lt (S.lt p h)
  · rcases List.mem_append.mp hp' with h | h
    · exact Nat.ne_of_gt (Nat.lt_trans hLlt (hP.2.1 p h))
    · exact (S.nw p h).2.2
  · rintro Dl C pc i ⟨us, nl⟩ v h t n oI hi hv ⟨hP, hnl, hlen, _⟩ _ hpc rfl hgC S' _
    refine wpAny_mono (turn _ C i us nl v h t n [pc, (I, oI)] hi hv hP hnl rfl hLlt hgC S') (fun ok s₃ h₃ => ?_) fun _ _ e => e.elim
    cases ok with
    | true =>
      simp only [if_true] at h₃ ⊢
      refine wpAny_mono h₃ (fun y s₄ hy => ?_) fun _ _ e => e.elim
      obtain ⟨nl', kn', h', t', rfl, hP', hnl', S₃⟩ := hy
      exact ⟨(us ++ [y], nl'), kn', h', t', rfl, ⟨hP', hnl', by simpa using Nat.succ_le_succ hlen, hi⟩, rfl, S₃⟩
    | false =>
      simp only [Bool.false_eq_true, if_false] at h₃ ⊢
      obtain ⟨nl', kn', h', t', rfl, hP', hnl', S₃⟩ := h₃
      exact ⟨(us, nl'), kn', h', t', rfl, ⟨hP', hnl', Nat.le_succ_of_le hlen, hi⟩, rfl, S₃⟩
  · rintro Dl C ⟨us, nl⟩ h t n ⟨hP, hnl, _⟩ rfl gC hCL hoff hns back
    dsimp only at hP hnl hoff back
    have gD : g.get? hp.objs.size = none := S.none_of_le (Nat.le_refl _)
    have z := done _ us nl n t hP hnl S.lt hLlt gD
    refine compPost_done gC hCL hns back hoff ?_
    cases use with
    | none => exact z
    | some u => exact fun h' oC S' => z h' C oC hoff S'
end
end
section
set_option maxRecDepth 100000
set_option maxHeartbeats 0
open Classical in
/-- the cells of a frame as objects -/
theorem cells_obj {h : Heap} {cs : List (Str × Addr)} {cm : Str → Option Value} (hc : ∀ n c, cs.lookup n = some c → h.IsCell c (cm n)) :
    ∃ F : Str → Obj, ∀ n c, cs.lookup n = some c → h.get? c = some (F n) ∧ (F n).data = .cell (cm n) := by
  refine ⟨fun n => if e : ∃ c o, cs.lookup n = some c ∧ h.get? c = some o ∧ o.data = .cell (cm n) then e.choose_spec.choose else plainObj, fun n c hn => ?_⟩
  have e : ∃ c o, cs.lookup n = some c ∧ h.get? c = some o ∧ o.data = .cell (cm n) := by
    obtain ⟨o, a, b⟩ := hc n c hn
    exact ⟨c, o, hn, a, b⟩
  try dsimp only
  rw [dif_pos e]
  have z := e.choose_spec.choose_spec
  have q : c = e.choose := Option.some.inj (hn.symm.trans z.1)
  exact ⟨(congrArg h.get? q).trans z.2.1, z.2.2⟩
theorem lookup_nodup : ∀ {cs : List (Str × Addr)}, (cs.Pairwise fun x y => x.1 ≠ y.1) → ∀ p ∈ cs, cs.lookup p.1 = some p.2
  | [], _, _, h => nomatch h
  | (n, c) :: r, hp, p, h => by
    obtain ⟨h1, h2⟩ := List.pairwise_cons.mp hp
    rw [List.lookup_cons]
    rcases List.mem_cons.mp h with rfl | h
    · simp
    · have : (p.1 == n) = false := by
        have := h1 p h
        simpa using Ne.symm this
      rw [this]
      exact lookup_nodup h2 p h
theorem enterCellsC {w : World} {f : Addr} {k : Nat} {args : List Value} {ds : List Addr} {h : Heap} {Post : Value → Heap → Prop} {name qual : Str} {params : Arguments} {body : List Stmt} {scope : Scope} {dV kV doc pm cdv ct oc : Value} {an od : Option Addr} {osl : Array (Option Value)} (kn : Kns) (led : Led) {binds : Kns}
    (cv : List (Str × Option Value))
    (ho : (pre.heap_1 w.params).lookup f = some ⟨oc, od, .func (fnOf name qual params body scope dV kV doc pm an cdv ct), osl⟩) (hcd : codeIn (pre.heap_1 w.params) cdv qual = true)
    (hbind : bindArgs (fnOf name qual params body scope dV kV doc pm an cdv ct) ⟨args, []⟩ = pure binds)
    (hkind : ∀ n, ∀ x ∈ binds, scope.names.lookup x.1 = some .local ∨ (scope.names.lookup x.1 = some .cell ∧ ((cellsFrom n scope.names []).lookup x.1).isSome = true))
    (hkn : Kn (bindL (fun n => scope.names.lookup n) binds fun _ => none) kn)
    (hcv : ∀ n, ((cellsFrom n scope.names []).map fun p => (p.1, bindC (fun n => scope.names.lookup n) binds (fun _ => none) p.1)) = cv)
    (hnd : ∀ n, (cellsFrom n scope.names []).Pairwise fun x y => x.1 ≠ y.1)
    (hco : scope.isCoroutine = false) (hgen : scope.isGenerator = false) (hk : scope.kind = .function)
    (hled : ∀ p ∈ led, h.get? p.1 = some p.2 ∧ p.1 ∈ ds)
    (hb : ∀ (prog : Program) (A : Around) (g : Heap) (hp : Heap) (G : Array GenState) (D : Drawn) (tk : Nat) (o : OsState) (L : Addr) (F : Str → Obj), Cx w A g k → (∀ b o, h.get? b = some o → b ∉ ds → g.get? b = some o) → (∀ b, b ∈ ds → g.get? b = none) → g.get? L = none → g.objs.size ≤ L → (∀ p ∈ cv, (F p.1).data = .cell p.2) → (∀ p ∈ led, p.1 < L) → St g L hp kn ((cellsFrom (L + 1) scope.names []).map (fun p => (p.2, F p.1)) ++ led) →
      wpAny (model prog w) A (execs body (envOfC qual scope L f cdv)) (Ret G D o g Post) NoE ⟨hp, G, D, tk, o⟩) : FnC w f (k + 1) args ds h Post := by
  intro prog A g G D tk o R C hg hQ
  have st : ∀ b o, g.get? b = some o → (hideAll h ds).get? b = some o := fun b o e => hideAll_get _ (hg b o e).1 (hg b o e).2
  have X' : (pre.heap_1 w.params).In h := C.X.keeps fun b o e => (hg b o e).1
  obtain ⟨p, l, mg, mb, T⟩ := C.T
  have hnl : h.NoLimit := T.nolimit.keeps fun b o e => (hg b o e).1
  have hroom : A.depth < recursionLimit := by have := C.hd; (first | walk_at "om" | omega)
  refine codeAny_call_cells (fd := fnOf name qual params body scope dV kV doc pm an cdv ct) (body := body) (binds := binds) hroom (X' _ _ ho) rfl hnl (codeRec_of X' hcd) rfl hbind rfl (hkind _) (fun s₁ x => ?_) hco hgen hk
  obtain ⟨h₁, tk₁, rfl⟩ := x.toInCall.same
  have hLn : (hideAll h ds).get? h.objs.size = none := by
    cases q : (hideAll h ds).get? h.objs.size with
    | none => rfl
    | some o => exact absurd (Heap.lt_size (of_hideAll _ q)) (Nat.lt_irrefl _)
  obtain ⟨F, hF⟩ := cells_obj x.cell
  have S : St (hideAll h ds) h.objs.size h₁ kn ((cellsFrom (h.objs.size + 1) scope.names []).map (fun p => (p.2, F p.1)) ++ led) := by
    refine ⟨fun b o e => x.toInCall.keep b o (of_hideAll _ e), ⟨_, x.toInCall.ns, hkn⟩, fun p hp => ?_⟩
    rcases List.mem_append.mp hp with hp | hp
    · obtain ⟨q, hq, rfl⟩ := List.mem_map.mp hp
      have hab := x.above q.1 q.2 hq
      refine ⟨(hF q.1 q.2 (lookup_nodup (hnd _) q hq)).1, ?_, Nat.ne_of_gt hab⟩
      cases e : (hideAll h ds).get? q.2 with
      | none => rfl
      | some o => exact absurd (Heap.lt_size (of_hideAll _ e)) (Nat.not_lt.mpr (Nat.le_of_lt hab))
    · exact ⟨x.toInCall.keep _ _ (hled p hp).1, hideAll_none _ (hled p hp).2, Nat.ne_of_lt (Heap.lt_size (hled p hp).1)⟩
  have hcell : ∀ p ∈ cv, (F p.1).data = .cell p.2 := fun p hp => by
    rw [← hcv (h.objs.size + 1)] at hp
    obtain ⟨q, hq, rfl⟩ := List.mem_map.mp hp
    exact (hF q.1 q.2 (lookup_nodup (hnd _) q hq)).2
  refine wpAny_mono (hb prog _ (hideAll h ds) h₁ G D tk₁ o h.objs.size F ((C.deeper).keeps st) (fun b o e n => hideAll_get _ e n) (fun b m => hideAll_none _ m) hLn (Nat.le_of_eq (hideAll_size _ _)) hcell (fun p hp => Heap.lt_size (hled p hp).1) S) (fun fl s' hr => ?_) fun _ _ e => e.elim
  obtain ⟨h', tk', rfl, hkp, hp⟩ := hr
  have y := hQ _ h' tk' (fun b o e n => hkp b o (hideAll_get _ e n)) hp
  cases fl <;> exact y
end
section
set_option maxRecDepth 100000
/-- a sort's asking tree, answered -/
noncomputable def kgo {α : Type} (lt : Nat → Nat → Bool) : KasT α → α
  | .ret a => a
  | .ask i j k => kgo lt (k (lt i j))
noncomputable def kok {α : Type} (n : Nat) : KasT α → Bool
  | .ret _ => true
  | .ask i j k => decide (i < n) && decide (j < n) && kok n (k true) && kok n (k false)
theorem kgo_wp {α : Type} {lt : Nat → Nat → Bool} {n : Nat} {cmp : Nat → Nat → (Bool → Shared → Prop) → Shared → Prop} {Q : α → Shared → Prop} {s : Shared} (hc : ∀ i j C, i < n → j < n → C (lt i j) s → cmp i j C s) :
    ∀ t : KasT α, kok n t = true → Q (kgo lt t) s → t.kasWp cmp Q s
  | .ret _, _, h => h
  | .ask i j k, ho, h => by
    have ho' : (((decide (i < n) && decide (j < n)) && kok n (k true)) && kok n (k false)) = true := ho
    simp only [Bool.and_eq_true, decide_eq_true_eq] at ho'
    refine hc i j _ ho'.1.1.1 ho'.1.1.2 ?_
    refine kgo_wp hc (k (lt i j)) ?_ h
    cases lt i j
    · exact ho'.2
    · exact ho'.1.2
theorem kgo_ext {α : Type} {lt lt' : Nat → Nat → Bool} {n : Nat} (he : ∀ i j, i < n → j < n → lt i j = lt' i j) : ∀ t : KasT α, kok n t = true → kgo lt t = kgo lt' t
  | .ret _, _ => rfl
  | .ask i j k, ho => by
    have ho' : (((decide (i < n) && decide (j < n)) && kok n (k true)) && kok n (k false)) = true := ho
    simp only [Bool.and_eq_true, decide_eq_true_eq] at ho'
    show kgo lt (k (lt i j)) = kgo lt' (k (lt' i j))
    rw [he i j ho'.1.1.1 ho'.1.1.2]
    refine kgo_ext he (k (lt' i j)) ?_
    cases lt' i j
    · exact ho'.2
    · exact ho'.1.2
noncomputable def tab4 (a b c d e f : Bool) : Nat → Nat → Bool
  | 0, 1 => a | 1, 0 => !a | 0, 2 => b | 2, 0 => !b | 0, 3 => c | 3, 0 => !c | 1, 2 => d | 2, 1 => !d | 1, 3 => e | 3, 1 => !e | 2, 3 => f | 3, 2 => !f
  | _, _ => false
noncomputable def chain (lt : Nat → Nat → Bool) : List Nat → Bool
  | x :: y :: r => lt x y && chain lt (y :: r)
  | _ => true
noncomputable def trans4 (n : Nat) (lt : Nat → Nat → Bool) : Bool := (List.range n).all fun i => (List.range n).all fun j => (List.range n).all fun k => !(lt i j && lt j k) || lt i k
noncomputable def kasGood (n : Nat) (lt : Nat → Nat → Bool) : Bool := !trans4 n lt || (((kgo lt (kas_sort n)).toList.isPerm (List.range n)) && chain lt (kgo lt (kas_sort n)).toList)
theorem kok2 : kok 2 (kas_sort 2) = true := by decide +kernel
theorem kok3 : kok 3 (kas_sort 3) = true := by decide +kernel
theorem kok4 : kok 4 (kas_sort 4) = true := by decide +kernel
theorem kgood : ∀ a b c d e f, kasGood 2 (tab4 a b c d e f) = true ∧ kasGood 3 (tab4 a b c d e f) = true ∧ kasGood 4 (tab4 a b c d e f) = true := by decide +kernel
theorem chain_pairwise {f : Nat → Nat} : ∀ p : List Nat, chain (fun i j => decide (f i < f j)) p = true → p.Pairwise fun i j => f i < f j
  | [], _ => .nil
  | [x], _ => by simp
  | x :: y :: r, h => by
    have h' : (decide (f x < f y) && chain (fun i j => decide (f i < f j)) (y :: r)) = true := h
    rw [Bool.and_eq_true] at h'
    have ih := chain_pairwise (y :: r) h'.2
    have hx := of_decide_eq_true h'.1
    refine List.pairwise_cons.mpr ⟨fun z hz => ?_, ih⟩
    rcases List.mem_cons.mp hz with rfl | hz
    · exact hx
    · exact Nat.lt_trans hx ((List.pairwise_cons.mp ih).1 z hz)
theorem chain_ext {lt lt' : Nat → Nat → Bool} {n : Nat} (he : ∀ i j, i < n → j < n → lt i j = lt' i j) : ∀ p : List Nat, (∀ x ∈ p, x < n) → chain lt p = chain lt' p
  | [], _ => rfl
  | [x], _ => rfl
  | x :: y :: r, h => by
    show (lt x y && chain lt (y :: r)) = (lt' x y && chain lt' (y :: r))
    rw [he x y (h x (.head _)) (h y (.tail _ (.head _))), chain_ext he (y :: r) fun z hz => h z (.tail _ hz)]
theorem tab_key {n : Nat} (hn : n ≤ 4) (f : Nat → Nat) (hf : ∀ i j, i < n → j < n → i ≠ j → f i ≠ f j) : ∀ i j, i < n → j < n → decide (f i < f j) = tab4 (decide (f 0 < f 1)) (decide (f 0 < f 2)) (decide (f 0 < f 3)) (decide (f 1 < f 2)) (decide (f 1 < f 3)) (decide (f 2 < f 3)) i j := by
  let L := fun i j => decide (f i < f j)
  have key : ∀ i j, i < n → j < n → L i j = tab4 (L 0 1) (L 0 2) (L 0 3) (L 1 2) (L 1 3) (L 2 3) i j := by
    intro i j hi hj
    have neg : ∀ i j, i < n → j < n → i ≠ j → L j i = !L i j := fun i j hi hj h => by
      have := hf i j hi hj h
      show decide (f j < f i) = !decide (f i < f j)
      by_cases q : f i < f j
      · rw [decide_eq_true q, decide_eq_false (by (first | walk_at "om" | lia | omega))]; rfl
      · rw [decide_eq_false q, decide_eq_true (by (first | walk_at "om" | lia | omega))]; rfl
    have self : ∀ i, L i i = false := fun i => decide_eq_false (Nat.lt_irrefl _)
    have h4 : i < 4 ∧ j < 4 := by (first | walk_at "om" | lia | omega)
    obtain ⟨a, b⟩ := h4
    match i, a, j, b with
    | 0, _, 0, _ => exact self 0
    | 1, _, 1, _ => exact self 1
    | 2, _, 2, _ => exact self 2
    | 3, _, 3, _ => exact self 3
    | 0, _, 1, _ => rfl
    | 0, _, 2, _ => rfl
    | 0, _, 3, _ => rfl
    | 1, _, 2, _ => rfl
    | 1, _, 3, _ => rfl
    | 2, _, 3, _ => rfl
    | 1, _, 0, _ => exact neg 0 1 hj hi (by decide)
    | 2, _, 0, _ => exact neg 0 2 hj hi (by decide)
    | 3, _, 0, _ => exact neg 0 3 hj hi (by decide)
    | 2, _, 1, _ => exact neg 1 2 hj hi (by decide)
    | 3, _, 1, _ => exact neg 1 3 hj hi (by decide)
    | 3, _, 2, _ => exact neg 2 3 hj hi (by decide)
  exact key
/-- what the sort of two, three or four different keys brings -/
theorem kas_sorts {n : Nat} (hn : n = 2 ∨ n = 3 ∨ n = 4) (f : Nat → Nat) (hf : ∀ i j, i < n → j < n → i ≠ j → f i ≠ f j) :
    kok n (kas_sort n) = true ∧ (kgo (fun i j => decide (f i < f j)) (kas_sort n)).toList.Perm (List.range n) ∧ (kgo (fun i j => decide (f i < f j)) (kas_sort n)).toList.Pairwise fun i j => f i < f j := by
  let L := fun i j => decide (f i < f j)
  have key : ∀ i j, i < n → j < n → L i j = tab4 (L 0 1) (L 0 2) (L 0 3) (L 1 2) (L 1 3) (L 2 3) i j := tab_key (by (first | walk_at "om" | lia | omega)) f hf
  have hk : kok n (kas_sort n) = true := by
    rcases hn with rfl | rfl | rfl
    · exact kok2
    · exact kok3
    · exact kok4
  have hg : kasGood n (tab4 (L 0 1) (L 0 2) (L 0 3) (L 1 2) (L 1 3) (L 2 3)) = true := by
    have := kgood (L 0 1) (L 0 2) (L 0 3) (L 1 2) (L 1 3) (L 2 3)
    rcases hn with rfl | rfl | rfl
    · exact this.1
    · exact this.2.1
    · exact this.2.2
  have ht : trans4 n (tab4 (L 0 1) (L 0 2) (L 0 3) (L 1 2) (L 1 3) (L 2 3)) = true := by
    unfold trans4
    simp only [List.all_eq_true, List.mem_range]
    intro i hi j hj k hk'
    rw [← key i j hi hj, ← key j k hj hk', ← key i k hi hk']
    show (!(decide (f i < f j) && decide (f j < f k)) || decide (f i < f k)) = true
    by_cases q1 : f i < f j <;> by_cases q2 : f j < f k <;> simp [q1, q2]
    (first | walk_at "om" | lia | omega)
  unfold kasGood at hg
  rw [ht, Bool.not_true, Bool.false_or, Bool.and_eq_true, ← kgo_ext key _ hk] at hg
  have hp : (kgo L (kas_sort n)).toList.Perm (List.range n) := List.isPerm_iff.mp hg.1
  refine ⟨hk, hp, chain_pairwise _ ?_⟩
  rw [chain_ext key _ fun x hx => List.mem_range.mp (hp.mem_iff.mp hx)]
  exact hg.2
end
section
set_option maxRecDepth 100000
noncomputable def kcode (p : Nat × Nat) : Nat := p.1 * 16 + p.2
noncomputable def ins (f : Nat → Nat) (x : Nat) : List Nat → List Nat
  | [] => [x]
  | y :: r => if f x ≤ f y then x :: y :: r else y :: ins f x r
noncomputable def isort (f : Nat → Nat) : List Nat → List Nat
  | [] => []
  | x :: r => ins f x (isort f r)
theorem ins_perm (f : Nat → Nat) (x : Nat) : ∀ l, (ins f x l).Perm (x :: l)
  | [] => .refl _
  | y :: r => by
    unfold ins
    split
    · exact .refl _
    · exact ((ins_perm f x r).cons y).trans (.swap x y r)
theorem isort_perm (f : Nat → Nat) : ∀ l, (isort f l).Perm l
  | [] => .refl _
  | x :: r => (ins_perm f x _).trans ((isort_perm f r).cons x)
theorem ins_sorted (f : Nat → Nat) (x : Nat) : ∀ l, (l.Pairwise fun a b => f a ≤ f b) → (ins f x l).Pairwise fun a b => f a ≤ f b
  | [], _ => by simp [ins]
  | y :: r, h => by
    obtain ⟨h1, h2⟩ := List.pairwise_cons.mp h
    unfold ins
    split
    · rename_i hle
      refine List.pairwise_cons.mpr ⟨fun z hz => ?_, h⟩
      rcases List.mem_cons.mp hz with rfl | hz
      · exact hle
      · exact Nat.le_trans hle (h1 z hz)
    · rename_i hle
      refine List.pairwise_cons.mpr ⟨fun z hz => ?_, ins_sorted f x r h2⟩
      rcases List.mem_cons.mp ((ins_perm f x r).mem_iff.mp hz) with rfl | hz
      · (first | walk_at "om" | lia | omega)
      · exact h1 z hz
theorem isort_sorted (f : Nat → Nat) : ∀ l, (isort f l).Pairwise fun a b => f a ≤ f b
  | [] => .nil
  | x :: r => ins_sorted f x _ (isort_sorted f r)
theorem isort_unique {f : Nat → Nat} {p l : List Nat} (hp : p.Perm l) (hs : p.Pairwise fun i j => f i < f j) : p = isort f l := by
  refine List.Perm.eq_of_pairwise (le := fun a b => f a ≤ f b) (fun a b ha hb h1 h2 => ?_) (hs.imp Nat.le_of_lt) (isort_sorted f l) (hp.trans (isort_perm f l).symm)
  have hb' : b ∈ p := hp.mem_iff.mpr ((isort_perm f l).mem_iff.mp hb)
  have : ∀ {q : List Nat}, (q.Pairwise fun i j => f i < f j) → a ∈ q → b ∈ q → a = b := by
    intro q hq
    induction q with
    | nil => intro h; cases h
    | cons c r ih =>
      obtain ⟨q1, q2⟩ := List.pairwise_cons.mp hq
      intro h3 h4
      rcases List.mem_cons.mp h3 with e1 | e1 <;> rcases List.mem_cons.mp h4 with e2 | e2
      · rw [e1, e2]
      · have := q1 b e2; rw [← e1] at this; (first | walk_at "om" | lia | omega)
      · have := q1 a e1; rw [← e2] at this; (first | walk_at "om" | lia | omega)
      · exact ih q2 e1 e2
  exact this hs ha hb'
/-- a record's agents and rules -/
noncomputable abbrev En := List Str × List Int
noncomputable def enD : En := ([], [])
noncomputable def mcode (pool : List En) (k : Nat) : Nat := kcode ((pool.getD k enD).1.length, k)
noncomputable def mergeE (a b : En) : En := (a.1.filter (fun z => b.1.contains z), a.2 ++ b.2)
noncomputable def mrgStep (s : List En × List Nat) : List En × List Nat := match isort (mcode s.1) s.2 with
  | i :: j :: r => (s.1 ++ [mergeE (s.1.getD i enD) (s.1.getD j enD)], r ++ [s.1.length])
  | _ => s
noncomputable def mrun (s : List En × List Nat) : Nat → List En × List Nat
  | 0 => s
  | n + 1 => mrgStep (mrun s n)
structure MGood (n : Nat) (s : List En × List Nat) : Prop where
  pool : s.1.length = 4 + n
  left : s.2.length + n = 4
  nodup : s.2.Nodup
  lt : ∀ k ∈ s.2, k < s.1.length
theorem MGood.step {n : Nat} {s : List En × List Nat} (h : MGood n s) (hn : n ≤ 2) : ∃ i j r, isort (mcode s.1) s.2 = i :: j :: r ∧ mrgStep s = (s.1 ++ [mergeE (s.1.getD i enD) (s.1.getD j enD)], r ++ [s.1.length]) ∧ MGood (n + 1) (mrgStep s) := by
  have hl := (isort_perm (mcode s.1) s.2).length_eq
  obtain ⟨i, j, r, e⟩ : ∃ i j r, isort (mcode s.1) s.2 = i :: j :: r := by
    match q : isort (mcode s.1) s.2 with
    | [] => rw [q] at hl; have := h.left; simp at hl; (first | walk_at "om" | lia | omega)
    | [_] => rw [q] at hl; have := h.left; simp at hl; (first | walk_at "om" | lia | omega)
    | i :: j :: r => exact ⟨i, j, r, rfl⟩
  have hs : mrgStep s = (s.1 ++ [mergeE (s.1.getD i enD) (s.1.getD j enD)], r ++ [s.1.length]) := by
    unfold mrgStep; rw [e]
  have hp := isort_perm (mcode s.1) s.2
  rw [e] at hp hl
  have hnd : (i :: j :: r).Nodup := hp.symm.nodup h.nodup
  have hr : ∀ k ∈ r, k < s.1.length := fun k hk => h.lt k (hp.mem_iff.mp (.tail _ (.tail _ hk)))
  refine ⟨i, j, r, e, hs, ?_⟩
  rw [hs]
  refine ⟨by simp [h.pool]; (first | walk_at "om" | lia | omega), ?_, ?_, ?_⟩
  · have := h.left; simp at hl ⊢; (first | walk_at "om" | lia | omega)
  · have h3 : r.Nodup := (List.nodup_cons.mp (List.nodup_cons.mp hnd).2).2
    refine List.nodup_append.mpr ⟨h3, by simp, fun a ha b hb => ?_⟩
    rw [List.mem_singleton.mp hb]
    exact Nat.ne_of_lt (hr a ha)
  · intro k hk
    rcases List.mem_append.mp hk with hk | hk
    · have := hr k hk; simp; (first | walk_at "om" | lia | omega)
    · rw [List.mem_singleton.mp hk]; simp
theorem MGood.init {a b c d : En} : MGood 0 ([a, b, c, d], [0, 1, 2, 3]) := ⟨rfl, rfl, by simp, by intro k hk; simp at hk; simp; (first | walk_at "om" | lia | omega)⟩
end
section
set_option maxRecDepth 100000
set_option maxHeartbeats 0
/-- tuples of two ints, in the ledger -/
noncomputable def Pairs (led : Led) (vs : List Value) (kv : List (Nat × Nat)) : Prop :=
  vs.length = kv.length ∧ ∀ (i m k : Nat), kv[i]? = some (m, k) → ∃ (a : Addr) (t u : Tok), vs[i]? = some (Value.ref a) ∧ (a, tu [.int (m : Nat) t, .int (k : Nat) u]) ∈ led

theorem pairs_tups {h : Heap} {led : Led} (hn : ∀ p ∈ led, h.get? p.1 = some p.2) : ∀ (vs : List Value) (kv : List (Nat × Nat)), Pairs led vs kv → ∃ fs, fs.length = kv.length ∧ KatTups h vs fs ∧ ∀ v ∈ fs, ∃ (i : Int) (t : Tok), v = .int i t
  | [], [], _ => ⟨[], rfl, .nil, fun _ h => nomatch h⟩
  | [], _ :: _, p => by cases p.1
  | _ :: _, [], p => by cases p.1
  | v :: vs, (m, k) :: kv, p => by
    obtain ⟨a, t, u, e, hm⟩ := p.2 0 m k rfl
    have e' : v = .ref a := Option.some.inj e
    subst e'
    obtain ⟨fs, hl, ht, hi⟩ := pairs_tups hn vs kv ⟨by have := p.1; simpa using this, fun i m' k' e => by
      obtain ⟨a, t, u, e1, e2⟩ := p.2 (i + 1) m' k' e
      exact ⟨a, t, u, e1, e2⟩⟩
    refine ⟨.int m t :: fs, by simp [hl], .cons (hn _ hm) rfl rfl rfl ht, fun w hw => ?_⟩
    rcases List.mem_cons.mp hw with rfl | hw
    · exact ⟨_, _, rfl⟩
    · exact hi w hw
section
variable {prog : Program} {w : World} {M : Model} {A : Around} {E : Value → Shared → Prop} {hp g : Heap} {G : Array GenState} {D : Drawn} {tk : Nat} {o : OsState} {L : Addr} {kn : Kns} {led : Led} {env : Env} {k : Nat} {x y : Str} {v : Value} {pos : Pos} {c : Addr} {oc : Obj}
theorem keyLt_pair {s : Shared} {a b : Addr} {m k m' k' : Nat} {t u t' u' : Tok} {Q : Bool → Shared → Prop} (ha : s.heap.get? a = some (tu [.int (m : Nat) t, .int (k : Nat) u])) (hb : s.heap.get? b = some (tu [.int (m' : Nat) t', .int (k' : Nat) u'])) (hk : k < 16) (hk' : k' < 16)
    (h : Q (decide (kcode (m, k) < kcode (m', k'))) s) : wpAny (model prog w) A (keyLt' (tuples' true) (.ref a) (.ref b)) Q E s := by
  refine kat_lt ha rfl hb rfl ?_
  show KatLex prog w A true false Q [(.int (m : Nat) t, .int (m' : Nat) t'), (.int (k : Nat) u, .int (k' : Nat) u')] 0 s
  refine kat_cons (EqAt.int_int _ _ _ _ _ _ _ _ (kat_go (fun e => ?_) (fun e => ?_)))
  · have hm : m = m' := by have := eq_of_beq e; (first | walk_at "om" | lia | omega)
    subst hm
    refine kat_yes (kat_cons (EqAt.int_int _ _ _ _ _ _ _ _ (kat_go (fun e => ?_) (fun e => ?_))))
    · have hm : k = k' := by have := eq_of_beq e; (first | walk_at "om" | lia | omega)
      subst hm
      refine kat_yes (kat_nil ?_)
      simpa using h
    · refine kat_no (kat_one _ _ (lt_int ?_))
      have e2 : decide ((k : Int) < (k' : Int)) = decide (kcode (m, k) < kcode (m, k')) := by unfold kcode; simp
      show Q _ s
      rw [e2]; exact h
  · refine kat_no ?_
    show wpAny (model prog w) A (oneLt' true _ _) _ _ _
    refine oneLt_int ?_
    have hm : m ≠ m' := fun q => by subst q; simp at e
    have e2 : decide ((m : Int) < (m' : Int)) = decide (kcode (m, k) < kcode (m', k')) := by
      unfold kcode
      refine decide_eq_decide.mpr ?_
      show (m : Int) < (m' : Int) ↔ m * 16 + k < m' * 16 + k'
      (first | walk_at "om" | lia | omega)
    rw [e2]; exact h
theorem fr_st {h₀ : Heap} {m : Str → Option Value} {h' : Heap} {news : Led} (F : Fr h₀ L h' m) (N : News h₀ L h' news) (hk : Kn m kn) : St h₀ L h' kn news :=
  ⟨F.keep, ⟨m, F.ns, hk⟩, fun p hp => ⟨(N p hp).1, (N p hp).2.2, (N p hp).2.1⟩⟩
theorem r_sorted {l : Addr} {vs : List Value} {n : Nat} {kv : List (Nat × Nat)} {Q : Value → Shared → Prop} (S : St g L hp kn led) (hgl : g.objs.size ≤ L) (hl : hp.get? l = some (lo vs n)) (hP : Pairs led vs kv) (hn : kv.length = 2 ∨ kv.length = 3 ∨ kv.length = 4)
    (hk : ∀ p ∈ kv, p.2 < 16) (hd : (kv.map (·.2)).Nodup)
    (h : ∀ (a : Addr) (p : List Nat) (c : Nat) (h' : Heap), p.Perm (List.range kv.length) → (p.Pairwise fun i j => kcode (kv.getD i (0, 0)) < kcode (kv.getD j (0, 0))) → (∀ q ∈ led, q.1 < a) → g.get? a = none → a ≠ L → St g L h' kn ((a, lo (p.map fun i => vs.getD i .none) c) :: led) → Q (.ref a) ⟨h', G, D, tk, o⟩) :
    wpAny (model prog w) A (call (.builtin "sorted") [.ref l]) Q E ⟨hp, G, D, tk, o⟩ := by
  obtain ⟨m, hns, hm⟩ := S.ns
  have hlen := hP.1
  refine kat_sorted (h₀ := g) (L := L) (m := m) (news := led) (vs := vs) ⟨hns, S.keep, hgl⟩ (fun p hp => ⟨(S.nw p hp).1, (S.nw p hp).2.2, (S.nw p hp).2.1⟩) (isList_of hl) (by (first | walk_at "om" | lia | omega)) (by (first | walk_at "om" | lia | omega)) (fun a e1 h' F N hlt => ?_)
  have hled : ∀ p ∈ led, h'.get? p.1 = some p.2 := fun p hp => (N p (.tail _ hp)).1
  obtain ⟨fs, hfl, ht, hi⟩ := pairs_tups hled vs kv hP
  refine kat_kind (T := .type "int") ht (by (first | walk_at "om" | lia | omega)) (fun v hv => by obtain ⟨i, t, rfl⟩ := hi v hv; exact Looks.of_pure rfl) (by decide) ?_
  have hT : (Value.type "int" != Value.type "tuple") = true := by decide
  rw [hT]
  have hinj : ∀ i j, i < vs.length → j < vs.length → i ≠ j → kcode (kv.getD i (0, 0)) ≠ kcode (kv.getD j (0, 0)) := by
    intro i j hi hj hij q
    have hi' : i < kv.length := by (first | walk_at "om" | lia | omega)
    have hj' : j < kv.length := by (first | walk_at "om" | lia | omega)
    simp only [List.getD, List.getElem?_eq_getElem hi', List.getElem?_eq_getElem hj', Option.getD_some] at q
    have b1 := hk _ (List.getElem_mem hi')
    have b2 := hk _ (List.getElem_mem hj')
    unfold kcode at q
    have e : kv[i].2 = kv[j].2 := by (first | walk_at "om" | lia | omega)
    have := (List.getElem_inj (h₀ := by simpa using hi') (h₁ := by simpa using hj') hd (i := i) (j := j)).mp (by simpa using e)
    exact hij this
  obtain ⟨o1, o2, o3⟩ := kas_sorts (n := vs.length) (by (first | walk_at "om" | lia | omega)) (fun i => kcode (kv.getD i (0, 0))) hinj
  have hc : ∀ i j (C : Bool → Shared → Prop), i < vs.length → j < vs.length → C (decide (kcode (kv.getD i (0, 0)) < kcode (kv.getD j (0, 0)))) ⟨h', G, D, tk, o⟩ → kas_ask prog w A.in1.in1 (tuples' true) vs i j C ⟨h', G, D, tk, o⟩ := by
    intro i j C hi hj hC
    have hi' : i < kv.length := by (first | walk_at "om" | lia | omega)
    have hj' : j < kv.length := by (first | walk_at "om" | lia | omega)
    obtain ⟨a1, t1, u1, q1, m1⟩ := hP.2 i _ _ (List.getElem?_eq_getElem hi')
    obtain ⟨a2, t2, u2, q2, m2⟩ := hP.2 j _ _ (List.getElem?_eq_getElem hj')
    unfold kas_ask
    simp only [List.getD, q1, q2, Option.getD_some]
    simp only [List.getD, List.getElem?_eq_getElem hi', List.getElem?_eq_getElem hj', Option.getD_some] at hC
    exact keyLt_pair (hled _ m1) (hled _ m2) (hk _ (List.getElem_mem hi')) (hk _ (List.getElem_mem hj')) hC
  refine kgo_wp hc _ o1 ?_
  refine KasFin.intro F N (.head fun p hp => Nat.ne_of_lt (hlt p hp)) (fun h'' c F' N' => ?_)
  have z := N' _ (.head _)
  exact h a _ c h'' (hlen ▸ o2) o3 hlt z.2.2 z.2.1 (fr_st F' N' hm)
end
end
section
set_option maxRecDepth 100000
set_option maxHeartbeats 0
section
variable {prog : Program} {w : World} {M : Model} {A : Around} {E : Value → Shared → Prop} {hp g : Heap} {G : Array GenState} {D : Drawn} {tk : Nat} {o : OsState} {L : Addr} {kn : Kns} {led : Led} {env : Env} {k : Nat} {x y : Str} {v : Value} {pos : Pos} {c : Addr} {oc : Obj}
theorem r_tests0 {cenv : Env} {Q : Bool → Shared → Prop} {s : Shared} (h : Q true s) : wpAny M A (compTests [] cenv) Q E s := by
  unfold compTests; rw [List.forIn_nil]; exact wpAny_pure h
theorem r_tests1 {t : Expr} {cenv : Env} {Q : Bool → Shared → Prop} {s : Shared} (h : wpAny M A (isTrue t cenv (eval t cenv)) Q E s) : wpAny M A (compTests [t] cenv) Q E s := by
  unfold compTests; rw [List.forIn_cons]
  refine wpAny_bind ?_
  rw [if_pos rfl]
  refine wpAny_bind (wpAny_mono h (fun b s' hq => wpAny_pure ?_) fun _ _ e => e)
  try dsimp only
  rw [List.forIn_nil]; exact wpAny_pure hq
theorem r_titem {value slice : Expr} {l : Addr} {vs : List Value} {k : Int} {u : Tok} {v : Value} {Q : Value → Shared → Prop}
    (hl : hp.get? l = some (tu vs)) (h0 : 0 ≤ k) (hhi : k < 2 ^ 63) (hx : vs[k.toNat]? = some v) (h : Q v ⟨hp, G, D, tk, o⟩)
    (hs : subscripted slice false (.ref l) (.int k u) = operate [.ref l, .int k u] (getItem (.ref l) (.int k u)) := by with_unfolding_all rfl) :
    wpAny (model prog w) A (subscriptTail value slice (.ref l) (.int k u)) Q E ⟨hp, G, D, tk, o⟩ := by
  have ht : IsTup hp l vs.toArray := ⟨_, hl, rfl, _, rfl⟩
  have hlt : k.toNat < vs.length := (List.getElem?_eq_some_iff.mp hx).1
  refine tail_any (T := "tuple") ⟨_, hl, rfl⟩ PySem.F.slot_tuple_getitem.lookup (PyProof.Rows.getItem_tuple (s := ⟨hp, G, D, tk, o⟩) ht (by (first | walk_at "om" | omega)) hhi (j := k.toNat) ?_ (by simpa using hx) h) hs
  unfold seqIndex?
  have h1 : ¬ k < 0 := by (first | walk_at "om" | omega)
  simp [h1]; (first | walk_at "om" | omega)
noncomputable def LSl (Q : Value → Shared → Prop) (ob vl vu : Value) (s₃ : Shared) : Prop :=
  ∃ l items lo hi, ob = .ref l ∧ s₃.heap.IsList l items ∧ items.size ≤ sizeLine ∧ IsPart vl lo ∧ IsPart vu hi ∧
        Q (.ref (s₃.heap.objs.size + 1)) { s₃ with heap := (s₃.heap.push { cls := .type "slice", data := .fields #[vl, vu, .none] }).push { cls := .type "list", data := .seq (slicePick items lo hi none) } }
theorem r_lslice {value : Expr} {lower upper : Option Expr} {p : Pos} {Q : Value → Shared → Prop} {s : Shared}
    (h : wpAny (model prog w) A (eval value env) (fun ob s₁ => wpAny (model prog w) A (evalPart lower env) (fun vl s₂ => wpAny (model prog w) A (evalPart upper env) (fun vu s₃ => LSl Q ob vl vu s₃) E s₂) E s₁) E s)
    (ht : ∀ o r, letTemporaryGo value o r = pure ()) :
    wpAny (model prog w) A (eval (.Subscript value (.Slice lower upper none p) pos) env) Q E s := wpAny_Subscript_list_slice h ht
/-- the end of a list's slice -/
theorem r_sliceL {l : Addr} {vs : List Value} {vl vu : Value} {Q : Value → Shared → Prop} (a b : Option Int) (us : List Value) (S : St g L hp kn led) (hl : hp.IsList l vs.toArray) (hz : vs.length ≤ sizeLine) (ha : IsPart vl a) (hb : IsPart vu b)
    (hp' : slicePick vs.toArray a b none = us.toArray) (h : ∀ D' h', St g L h' kn ((D', lo us 0) :: led) → (∀ p ∈ led, p.1 < D') → L < D' → Q (.ref D') ⟨h', G, D, tk, o⟩) :
    LSl Q (.ref l) vl vu ⟨hp, G, D, tk, o⟩ := by
  refine ⟨l, vs.toArray, a, b, rfl, hl, by simpa using hz, ha, hb, ?_⟩
  rw [hp']
  have S1 : St g L (hp.push { cls := .type "slice", data := .fields #[vl, vu, .none] }) kn led := S.keeps fun _ _ e => Heap.get?_push_of_some _ e
  obtain ⟨b1, b2, b3, _⟩ := S1.new (ob := lo us 0) rfl
  rw [Heap.size_push] at b1 b2 b3
  exact h _ _ b1 b2 b3

theorem comp_store {py : Pos} {led' : Led} {C : Addr} {oC : Obj} {Dl : Addr} {Q : Value → Shared → Prop} (hgL : g.get? L = none) (hL : env.locals = L) (hk : env.scope.kind = .function) (hx : env.kindOf y = some .local)
    (hoff : ∀ p ∈ led', p.1 ≠ C) (S : St g L hp kn ((C, oC) :: led')) (h : ∀ h3 t, St g L h3 ((y, .ref Dl) :: kn) led' → Q .none ⟨h3, G, D, t, o⟩) :
    wpAny M A (assign (.Name y py) env (.ref Dl)) (fun _ s'' => ∃ h'' t'' kn' led'', s'' = ⟨h'', G, D, t'', o⟩ ∧ St g L h'' kn' ((C, oC) :: led'') ∧ (∀ p ∈ led'', p.1 ≠ C) ∧ ∀ h3, St g L h3 kn' led'' → Q .none ⟨h3, G, D, t'', o⟩) E ⟨hp, G, D, tk, o⟩ :=
  wpAny_assign_Name (r_store S hgL (fun h' tk' S' => ⟨h', tk', _, led', rfl, S', hoff, fun h3 S3 => h h3 tk' S3⟩) hL hk hx)

/-- what is wanted behind a comprehension -/
noncomputable def CDone (M : Model) (A : Around) (E : Value → Shared → Prop) (G : Array GenState) (D : Drawn) (o : OsState) (g : Heap) (L : Addr) (kn : Kns) (use : Option (Value → Sem Unit)) (Q : Value → Shared → Prop) (Dl : Addr) (led' : Led) (t : Nat) : Prop :=
  match use with
  | none => ∀ h', St g L h' kn led' → Q (.ref Dl) ⟨h', G, D, t, o⟩
  | some u => ∀ h' C oC, (∀ p ∈ led', p.1 ≠ C) → St g L h' kn ((C, oC) :: led') → wpAny M A (u (.ref Dl)) (fun _ s'' => ∃ h'' t'' kn' led'', s'' = ⟨h'', G, D, t'', o⟩ ∧ St g L h'' kn' ((C, oC) :: led'') ∧ (∀ p ∈ led'', p.1 ≠ C) ∧ ∀ h3, St g L h3 kn' led'' → Q .none ⟨h3, G, D, t'', o⟩) E ⟨h', G, D, t, o⟩
theorem CDone.val {Q : Value → Shared → Prop} {Dl : Addr} {led' : Led} {t : Nat} (h : ∀ h', St g L h' kn led' → Q (.ref Dl) ⟨h', G, D, t, o⟩) : CDone M A E G D o g L kn none Q Dl led' t := h
theorem CDone.name {py : Pos} {Q : Value → Shared → Prop} {Dl : Addr} {led' : Led} {t : Nat} (hgL : g.get? L = none) (h : ∀ h3 t, St g L h3 ((y, .ref Dl) :: kn) led' → Q .none ⟨h3, G, D, t, o⟩) (hL : env.locals = L) (hk : env.scope.kind = .function) (hx : env.kindOf y = some .local) :
    CDone M A E G D o g L kn (some (assign (.Name y py) env)) Q Dl led' t := fun _ _ _ hoff S => comp_store hgL hL hk hx hoff S h

theorem r_compL {elt iter : Expr} {px : Pos} {ifs : List Expr} {scope : Scope} {cl : List (Str × Addr)} {use : Option (Value → Sem Unit)} {Q : Value → Shared → Prop} {l : Addr} {vs : List Value} {n : Nat} (hh : A.handled = none)
    (S : St g L hp kn led) (hgL : g.get? L = none) (hl : hp.get? l = some (lo vs n)) (hsrc : (∃ o, g.get? l = some o) ∨ ∃ o, (l, o) ∈ led) (hz : vs.length ≤ sizeLine)
    (PP : Nat → List Value → Led → Prop) (h0 : PP 0 [] [])
    (turn : ∀ Dl C i us nl v h t n own, vs[i]? = some v → PP i us nl → (∀ p ∈ nl, Dl < p.1) → (∀ p ∈ led, p.1 < Dl) → g.get? C = none → St g C h ((x, v) :: []) ((Dl, lo us n) :: ((nl ++ led) ++ own)) →
      GenV (CY G D o g C led PP own Dl n i us) fun T => wpAny (model prog w) A (compTests ifs (compEnvC scope cl C env)) (fun ok s₃ => if ok = true then wpAny (model prog w) A (eval elt (compEnvC scope cl C env)) (fun y s₄ => T (us ++ [y]) s₄) NoE s₃
        else T us s₃) NoE ⟨h, G, D, t, o⟩)
    (done : ∀ Dl us nl n t, PP vs.length us nl → (∀ p ∈ nl, Dl < p.1) → (∀ p ∈ led, p.1 < Dl) → L < Dl → g.get? Dl = none → CDone (model prog w) A E G D o g L kn use Q Dl ((Dl, lo us n) :: (nl ++ led)) t)
    (hcell : ∀ y ∈ scope.names, y.2 ≠ .cell) (hkind : scope.kind = .function) (hx : scope.names.lookup x = some .local) :
    wpAny (model prog w) A (pyIter (.ref l)) (fun it s₂ => CompGo (model prog w) A elt iter x px ifs scope pos cl env use Q E it s₂) E ⟨hp, G, D, tk, o⟩ := by
  refine wpAny_pyIter_list (isList_of hl) ?_
  have hlt := Heap.lt_size hl
  have W := Walks.list (prog := prog) (w := w) hh hp.objs.size l (Nat.ne_of_lt hlt) vs.toArray
  have hsz : vs.toArray.size = vs.length := by simp
  rw [hsz] at W
  have up : ∀ b ob, hp.get? b = some ob → (hp.push { cls := .type "list_iterator", data := .fields #[.ref l, .int 0 0] }).get? b = some ob := fun b ob e => Heap.get?_push_of_some _ e
  have S1 := S.keeps up
  have below : ∀ p ∈ led, p.1 < (hp.push { cls := .type "list_iterator", data := .fields #[.ref l, .int 0 0] }).objs.size := fun p hp => by rw [Heap.size_push]; exact Nat.lt_succ_of_lt (S.lt p hp)
  refine r_comp (g := g) (L := L) W (clsI := .type "list_iterator") (fun i h st => by obtain ⟨oo, a, b, c⟩ := st.1; exact ⟨oo, a, b⟩) (fun b hb => by simpa using hb) hz S1 hgL (S.none_of_le (Nat.le_refl _)) (Nat.ne_of_gt S.ltL) (fun p hp => Nat.ne_of_lt (S.lt p hp))
    ⟨⟨_, Heap.get?_push_size _ rfl, rfl, rfl⟩, (isList_of hl).at fun ob e => up _ _ e⟩ (fun b hb => ?_) PP h0 hcell hkind hx (fun Dl C i us nl v h t n own hi hv hP hnl hD _ hgC S' => ?_) (fun Dl us nl n t hP hnl hled hLD gD => ?_)
  · rcases List.mem_cons.mp hb with rfl | hb
    · exact .inl rfl
    · rw [List.mem_singleton.mp hb]; exact .inr hsrc
  · exact (turn Dl C i us nl v h t n own (by simpa using hv) hP hnl (fun p hp => hD ▸ below p hp) hgC S').use
  · have z := done Dl us nl n t hP hnl hled hLD gD
    cases use <;> exact z

theorem r_compR {elt iter : Expr} {px : Pos} {ifs : List Expr} {scope : Scope} {cl : List (Str × Addr)} {use : Option (Value → Sem Unit)} {Q : Value → Shared → Prop} {r : Addr} {N : Nat} {t1 t2 t3 : Tok} (hh : A.handled = none)
    (S : St g L hp kn led) (hgL : g.get? L = none) (hr : hp.get? r = some (robj 0 N 1 t1 t2 t3)) (hN : N ≤ 1000)
    (PP : Nat → List Value → Led → Prop) (h0 : PP 0 [] [])
    (turn : ∀ Dl C i us nl u h t n own, i < N → PP i us nl → (∀ p ∈ nl, Dl < p.1) → (∀ p ∈ led, p.1 < Dl) → g.get? C = none → St g C h ((x, .int (i : Nat) u) :: []) ((Dl, lo us n) :: ((nl ++ led) ++ own)) →
      GenV (CY G D o g C led PP own Dl n i us) fun T => wpAny (model prog w) A (compTests ifs (compEnvC scope cl C env)) (fun ok s₃ => if ok = true then wpAny (model prog w) A (eval elt (compEnvC scope cl C env)) (fun y s₄ => T (us ++ [y]) s₄) NoE s₃
        else T us s₃) NoE ⟨h, G, D, t, o⟩)
    (done : ∀ Dl us nl n t, PP N us nl → (∀ p ∈ nl, Dl < p.1) → (∀ p ∈ led, p.1 < Dl) → L < Dl → g.get? Dl = none → CDone (model prog w) A E G D o g L kn use Q Dl ((Dl, lo us n) :: (nl ++ led)) t)
    (hcell : ∀ y ∈ scope.names, y.2 ≠ .cell) (hkind : scope.kind = .function) (hx : scope.names.lookup x = some .local)
    (hsm : Builtin.Range.small 0 N 1 = true) (hrs : Builtin.Range.rangeSize 0 N 1 = N) :
    wpAny (model prog w) A (pyIter (.ref r)) (fun it s₂ => CompGo (model prog w) A elt iter x px ifs scope pos cl env use Q E it s₂) E ⟨hp, G, D, tk, o⟩ := by
  refine r_iterRange S hr hsm (fun I h1 tk1 S1 gI IL lI hI => ?_)
  rw [hrs] at hI
  have W := Walks.range (prog := prog) (w := w) hh I 0 1 N
  have hIlt : I < h1.objs.size := Heap.lt_size hI
  refine r_comp (g := g) (L := L) W (clsI := .type "range_iterator") (fun i h st => ⟨_, st, rfl⟩) (fun b hb => by simpa using hb) (by have : sizeLine = 16777216 := rfl; (first | walk_at "om" | omega)) S1 hgL gI IL (fun p hp => Nat.ne_of_lt (lI p hp))
    (by simpa using hI) (fun b hb => .inl (by simpa using hb)) PP h0 hcell hkind hx (fun Dl C i us nl v h t n own hi hv hP hnl hD _ hgC S' => ?_) (fun Dl us nl n t hP hnl hled hLD gD => ?_)
  · obtain ⟨u, rfl⟩ := hv
    have e : (0 : Int) + (i : Int) * 1 = (i : Nat) := by (first | walk_at "om" | omega)
    rw [e] at S'
    exact (turn Dl C i us nl u h t n own hi hP hnl (fun p hp => hD ▸ S1.lt p hp) hgC S').use
  · have z := done Dl us nl n t hP hnl hled hLD gD
    cases use <;> exact z
end
end
section
set_option maxRecDepth 100000
section
variable {α : Type} {a : α} {l r X Y : List α}
theorem mm_hd : a ∈ a :: l := .head _
theorem mm_tl {b : α} (h : a ∈ l) : a ∈ b :: l := .tail _ h
theorem mm_left (h : a ∈ l) : a ∈ l ++ r := List.mem_append_left _ h
theorem mm_right (h : a ∈ r) : a ∈ l ++ r := List.mem_append_right _ h
theorem sub_nil : ∀ p ∈ ([] : List α), p ∈ l := fun _ h => nomatch h
theorem sub_cons (h : a ∈ l) (hr : ∀ p ∈ r, p ∈ l) : ∀ p ∈ a :: r, p ∈ l := fun p hp => by
  rcases List.mem_cons.mp hp with rfl | hp
  · exact h
  · exact hr p hp
theorem sub_app (h : ∀ p ∈ X, p ∈ l) (hr : ∀ p ∈ Y, p ∈ l) : ∀ p ∈ X ++ Y, p ∈ l := fun p hp => (List.mem_append.mp hp).elim (h p) (hr p)
theorem sub_tail (h : ∀ p ∈ X, p ∈ l) : ∀ p ∈ X, p ∈ a :: l := fun p hp => .tail _ (h p hp)
theorem sub_left (h : ∀ p ∈ X, p ∈ l) : ∀ p ∈ X, p ∈ l ++ r := fun p hp => List.mem_append_left _ (h p hp)
theorem sub_right (h : ∀ p ∈ X, p ∈ r) : ∀ p ∈ X, p ∈ l ++ r := fun p hp => List.mem_append_right _ (h p hp)
end
section
variable {X Y : Led} {l : Addr}
theorem ne_app (h : ∀ p ∈ X, p.1 ≠ l) (hr : ∀ p ∈ Y, p.1 ≠ l) : ∀ p ∈ X ++ Y, p.1 ≠ l := fun p hp => (List.mem_append.mp hp).elim (h p) (hr p)
theorem ne_gts (h : ∀ p ∈ X, l < p.1) : ∀ p ∈ X, p.1 ≠ l := fun p hp => Nat.ne_of_gt (h p hp)
theorem ne_lts (h : ∀ p ∈ X, p.1 < l) : ∀ p ∈ X, p.1 ≠ l := fun p hp => Nat.ne_of_lt (h p hp)
end
theorem ane {a b : Addr} (h : @Ne Nat a b) : a ≠ b := h
theorem alt {a b : Addr} (h : a < b) : @LT.lt Nat _ a b := h
theorem St.sub {g h : Heap} {L : Addr} {kn : Kns} {led : Led} (led' : Led) (S : St g L h kn led) (hs : ∀ p ∈ led', p ∈ led) : St g L h kn led' := S.drop hs
theorem St.fit {g h : Heap} {L : Addr} {kn : Kns} {led : Led} (kn' : Kns) (led' : Led) (S : St g L h kn led) (hk : KnAll kn kn') (hs : ∀ p ∈ led', p ∈ led) : St g L h kn' led' := (S.re (kn_sub hk)).drop hs
theorem St.cy {g h : Heap} {C : Addr} {kn : Kns} {d : Addr × Obj} {nl nl' led own : Led} (new : Led) (S : St g C h kn (new ++ (d :: ((nl ++ led) ++ own)))) (hs : ∀ p ∈ nl', p ∈ nl ∨ p ∈ new) : St g C h kn (d :: ((nl' ++ led) ++ own)) := S.drop fun p hp => by
  simp only [List.mem_cons, List.mem_append] at hp ⊢
  rcases hp with h | (h | h) | h
  · exact .inr (.inl h)
  · exact (hs p h).elim (fun h => .inr (.inr (.inl (.inl h)))) .inl
  · exact .inr (.inr (.inl (.inr h)))
  · exact .inr (.inr (.inr h))
theorem r_cellloadG {M : Model} {A : Around} {E : Value → Shared → Prop} {hp g : Heap} {G : Array GenState} {D : Drawn} {tk : Nat} {o : OsState} {L : Addr} {kn : Kns} {led : Led} {env : Env} {x : Str} {v : Value} {pos : Pos} {c : Addr} {oc : Obj} {Q : Value → Shared → Prop} (S : St g L hp kn led) (hm : g.get? c = some oc) (hv : oc.data = .cell (some v)) (h : Q v ⟨hp, G, D, tk, o⟩) (hc : env.cells.lookup x = some c) (hk : env.scope.kind = .function)
    (hx : env.kindOf x = some .cell) (hd : (x == ("__debug__" : Str)) = false) : wpAny M A (eval (.Name x pos) env) Q E ⟨hp, G, D, tk, o⟩ :=
  wpAny_Name (wpAny_loadName_cell hk hx hc ⟨oc, S.keep _ _ hm, hv⟩ h) hd
end
section
set_option maxRecDepth 100000
set_option maxHeartbeats 0
-- an agents' list
set_option genInjectivity false in
set_option genSizeOf false in
structure AL where
  a : Addr
  av : List Value
  na : Nat
  ys : List Str
structure AL.ok (h : Heap) (e : AL) : Prop where
  at_ : h.get? e.a = some (lo e.av e.na)
  sa : StrsAre e.av e.ys
  len : e.av.length ≤ 1000
-- one place of the twin's list
set_option genInjectivity false in
set_option genSizeOf false in
structure PE where
  t : Addr
  al : Addr
  rl : Addr
  av : List Value
  rv : List Value
  na : Nat
  nr : Nat
  ys : List Str
  zs : List Int
  own : Bool
noncomputable def PE.led (e : PE) : Led := (e.t, tu [.ref e.al, .ref e.rl]) :: (e.rl, lo e.rv e.nr) :: (if e.own = true then [(e.al, lo e.av e.na)] else [])
noncomputable def PE.leds (es : List PE) : Led := es.flatMap PE.led
structure PE.ok (g : Heap) (b : Nat) (e : PE) : Prop where
  al : e.own = false → g.get? e.al = some (lo e.av e.na)
  sa : StrsAre e.av e.ys
  ia : IntsAre e.rv e.zs
  len : e.av.length ≤ 1000
  rlen : e.rv.length ≤ b
noncomputable def PE.en (e : PE) : En := (e.ys, e.zs)
noncomputable def PE.refs (es : List PE) : List Value := es.map fun e => .ref e.t
theorem PE.mem {es : List PE} {e : PE} (he : e ∈ es) {p : Addr × Obj} (hp : p ∈ e.led) : p ∈ PE.leds es := List.mem_flatMap.mpr ⟨e, he, hp⟩
noncomputable def initPE (e : AL) (i : Nat) (t rl : Addr) (u : Tok) : PE := ⟨t, e.a, rl, e.av, [.int (i : Nat) u], e.na, 0, e.ys, [(i : Nat)], false⟩
theorem PE.leds_snoc (es : List PE) (e : PE) : PE.leds (es ++ [e]) = PE.leds es ++ e.led := by simp [PE.leds]
set_option genInjectivity false in
set_option genSizeOf false in
structure PS where
  es : List PE
  left : List Nat
  lv : List Value
  lf : Addr
  nP : Nat
  nL : Nat
  oB : Obj
structure PS.ok (g : Heap) (Dl : Addr) (s0 : List En × List Nat) (c : PS) : Prop where
  run : ∃ i, i ≤ 3 ∧ (c.es.map PE.en, c.left) = mrun s0 i ∧ MGood i (c.es.map PE.en, c.left)
  ia : IntsAre c.lv (c.left.map fun (k : Nat) => (k : Int))
  eok : ∀ e ∈ c.es, e.ok g (2 ^ c.es.length)
  gt : ∀ p ∈ PE.leds c.es, Dl < p.1
  lf : Dl < c.lf
  oB : ∃ v, c.oB.data = .cell v
  own : ∀ k, 4 ≤ k → ∀ e, c.es[k]? = some e → e.own = true
-- a pair to sort
set_option genInjectivity false in
set_option genSizeOf false in
structure PT where
  t : Addr
  u1 : Tok
  u2 : Tok
  m : Nat
  k : Nat
noncomputable def PT.obj (p : PT) : Addr × Obj := (p.t, tu [.int (p.m : Nat) p.u1, .int (p.k : Nat) p.u2])
theorem PE.tAt {g h : Heap} {L : Addr} {kn : Kns} {led : Led} {es : List PE} {e : PE} (S : St g L h kn led) (hs : ∀ p ∈ PE.leds es, p ∈ led) (he : e ∈ es) : h.get? e.t = some (tu [.ref e.al, .ref e.rl]) := S.mem (hs _ (PE.mem he (.head _)))
theorem PE.rAt {g h : Heap} {L : Addr} {kn : Kns} {led : Led} {es : List PE} {e : PE} (S : St g L h kn led) (hs : ∀ p ∈ PE.leds es, p ∈ led) (he : e ∈ es) : h.get? e.rl = some (lo e.rv e.nr) := S.mem (hs _ (PE.mem he (.tail _ (.head _))))
theorem PE.aIn {es : List PE} {e : PE} (he : e ∈ es) (ho : e.own = true) : (e.al, lo e.av e.na) ∈ PE.leds es := PE.mem he (by unfold PE.led; rw [if_pos ho]; exact .tail _ (.tail _ (.head _)))
theorem PE.aAt {g h : Heap} {L : Addr} {kn : Kns} {led : Led} {es : List PE} {e : PE} {b : Nat} (S : St g L h kn led) (hs : ∀ p ∈ PE.leds es, p ∈ led) (he : e ∈ es) (ok : e.ok g b) : h.get? e.al = some (lo e.av e.na) := by
  cases q : e.own with
  | false => exact S.keep _ _ (ok.al q)
  | true => exact S.mem (hs _ (PE.aIn he q))
theorem PE.get_refs {es : List PE} {k : Nat} (hk : k < es.length) : (PE.refs es)[((k : Nat) : Int).toNat]? = some (.ref es[k].t) := by simp [PE.refs, hk]
theorem PE.get_en {es : List PE} {k : Nat} (hk : k < es.length) : (es.map PE.en).getD k enD = es[k].en := by simp [List.getD, hk]
theorem PT.ints : ∀ ps : List PT, IntsAre (ps.map fun q => .int (q.k : Nat) q.u2) ((ps.map fun q => q.k).map fun (k : Nat) => (k : Int))
  | [] => .nil
  | _ :: r => .cons _ _ (PT.ints r)
theorem PT.pairs {ps : List PT} {led : Led} (hs : ∀ p ∈ ps.map PT.obj, p ∈ led) : Pairs led (ps.map fun p => .ref p.t) (ps.map fun p => (p.m, p.k)) := by
  refine ⟨by simp, fun i m k e => ?_⟩
  rw [List.getElem?_map] at e
  obtain ⟨q, hq, e⟩ := Option.map_eq_some_iff.mp e
  cases e
  exact ⟨q.t, q.u1, q.u2, by rw [List.getElem?_map, hq]; rfl, hs _ (List.mem_map_of_mem (List.mem_of_getElem? hq))⟩
theorem PT.sorted {ps : List PT} {left : List Nat} {f : Nat → Nat} (hps : ps.map (fun p => (p.m, p.k)) = left.map fun k => (f k, k)) {p : List Nat} (hp : p.Perm (List.range (ps.map fun p => (p.m, p.k)).length))
    (hs : p.Pairwise fun i j => kcode ((ps.map fun p => (p.m, p.k)).getD i (0, 0)) < kcode ((ps.map fun p => (p.m, p.k)).getD j (0, 0))) :
    ∃ ops : List PT, (p.map fun i => (ps.map fun q => Value.ref q.t).getD i .none) = ops.map (fun q => .ref q.t) ∧ (∀ q ∈ ops, q ∈ ps) ∧ ops.map (·.k) = isort (fun k => kcode (f k, k)) left := by
  have hl : ps.length = left.length := by simpa using congrArg List.length hps
  rw [List.length_map] at hp
  have hlt : ∀ i ∈ p, i < ps.length := fun i hi => List.mem_range.mp (hp.mem_iff.mp hi)
  have hpk : ∀ i (h : i < ps.length) (h' : i < left.length), ps[i].m = f left[i] ∧ ps[i].k = left[i] := fun i h h' => by
    have := congrArg (fun l => l[i]?) hps
    simp [h, h'] at this
    exact this
  refine ⟨p.map fun i => ps.getD i ⟨0, 0, 0, 0, 0⟩, ?_, ?_, ?_⟩
  · rw [List.map_map]
    refine List.map_congr_left fun i hi => ?_
    have h := hlt i hi
    simp [List.getD, h]
  · intro q hq
    obtain ⟨i, hi, rfl⟩ := List.mem_map.mp hq
    have h := hlt i hi
    simp only [List.getD, List.getElem?_eq_getElem h, Option.getD_some]
    exact List.getElem_mem h
  · have e1 : (p.map fun i => ps.getD i ⟨0, 0, 0, 0, 0⟩).map (·.k) = p.map fun i => left.getD i 0 := by
      rw [List.map_map]
      refine List.map_congr_left fun i hi => ?_
      have h := hlt i hi
      have h' : i < left.length := hl ▸ h
      simp only [Function.comp, List.getD, List.getElem?_eq_getElem h, List.getElem?_eq_getElem h', Option.getD_some]
      exact (hpk i h h').2
    rw [e1]
    refine isort_unique ?_ ?_
    · have e2 : left = (List.range ps.length).map fun i => left.getD i 0 := by
        apply List.ext_getElem
        · simp [hl]
        · intro i h1 h2
          simp [List.getD, h1]
      conv => rhs; rw [e2]
      exact hp.map _
    · rw [List.pairwise_map]
      refine (List.Pairwise.imp_of_mem (fun {i j} hi hj h => ?_) hs)
      have hi' := hlt i hi
      have hj' := hlt j hj
      have hi2 : i < left.length := hl ▸ hi'
      have hj2 : j < left.length := hl ▸ hj'
      rw [hps] at h
      simpa [List.getD, hi2, hj2] using h
theorem any_contains (ys : List Str) (y : Str) : (ys.any fun x => x == y) = ys.contains y := by rw [Bool.eq_iff_iff]; simp
theorem filter_take {Sf : Str → Bool} {av : List Value} {i : Nat} {y : Str} {t : Tok} (h : av[i]? = some (.str y t)) : (av.take (i + 1)).filter (keepV Sf) = (av.take i).filter (keepV Sf) ++ if Sf y = true then [.str y t] else [] := by
  rw [List.take_add_one, h, List.filter_append]
  simp only [Option.toList, List.filter_cons, List.filter_nil]
  rfl
noncomputable def newPE (t al rl : Addr) (a b : PE) (na : Nat) : PE := ⟨t, al, rl, a.av.filter (keepV fun z => b.ys.contains z), a.rv ++ b.rv, na, 0, a.ys.filter (fun z => b.ys.contains z), a.zs ++ b.zs, true⟩
theorem newPE_led (t al rl : Addr) (a b : PE) (na : Nat) : (newPE t al rl a b na).led = [(t, tu [.ref al, .ref rl]), (rl, lo (a.rv ++ b.rv) 0), (al, lo (a.av.filter (keepV fun z => b.ys.contains z)) na)] := rfl
theorem PE.refs_snoc (es : List PE) (e : PE) : PE.refs (es ++ [e]) = PE.refs es ++ [.ref e.t] := by simp [PE.refs]
theorem strs_filter {Sf : Str → Bool} : ∀ {av : List Value} {ys : List Str}, StrsAre av ys → StrsAre (av.filter (keepV Sf)) (ys.filter Sf)
  | _, _, .nil => .nil
  | _, _, .cons x t h => by
    have ih := strs_filter (Sf := Sf) h
    rw [List.filter_cons, List.filter_cons]
    show StrsAre (if Sf x = true then _ else _) _
    cases Sf x with
    | true => exact .cons _ _ ih
    | false => exact ih
end
set_option compiler.extract_closed false in
local macro_rules | `(tactic| walk_at "lm") => `(tactic| (repeat (first | exact List.Mem.head _ | exact List.mem_append_left _ (List.mem_append_right _ (by walk_at "mem")) | refine List.Mem.tail _ ?_)))
set_option compiler.extract_closed false in
local macro_rules | `(tactic| walk_at "z") => `(tactic| with_reducible refine ImpV.app (by assumption) ?_)
set_option compiler.extract_closed false in
local macro_rules | `(tactic| walk_at "cs") => `(tactic| ((case hcell => decide); (case hkind | hx => exact rfl)))
set_option compiler.extract_closed false in
local macro_rules | `(tactic| walk_at "mm") => `(tactic| first | exact mm_hd | ((with_reducible refine mm_tl ?_); walk_at "mm") | ((with_reducible refine mm_left ?_); walk_at "mm") | ((with_reducible refine mm_right ?_); walk_at "mm"))
set_option compiler.extract_closed false in
local macro_rules | `(tactic| walk_at "ss") => `(tactic| first | exact fun _ h => h | ((with_reducible refine sub_tail ?_); walk_at "ss") | ((with_reducible refine sub_left ?_); walk_at "ss") | ((with_reducible refine sub_right ?_); walk_at "ss"))
set_option compiler.extract_closed false in
local macro_rules | `(tactic| walk_at "sub") => `(tactic| first | (with_reducible exact sub_nil) | ((with_reducible refine sub_cons ?mh ?mt); (case mh => walk_at "mm"); (case mt => walk_at "sub")) | ((with_reducible refine sub_app ?ml ?mr); (case ml | mr => walk_at "sub")) | walk_at "ss")
set_option compiler.extract_closed false in
local macro_rules | `(tactic| walk_at "nn") => `(tactic| first | (with_reducible exact ne_nil) | ((with_reducible refine ne_cons ?nx ?nr); (case nx => first | assumption | exact ne_lt (by assumption) | exact ne_gt (by assumption) | exact Ne.symm (by assumption) | exact ane (by omega)); (case nr => walk_at "nn")) | ((with_reducible refine ne_app ?nl ?nr); (case nl | nr => walk_at "nn")) | assumption | exact ne_gts (by assumption) | exact ne_lts (by assumption))
set_option compiler.extract_closed false in
local macro_rules | `(tactic| walk_at "v") => `(tactic| first
  | (with_reducible refine GenV.intro ?_; intro T hT)
  | (o_head (eval (Expr.Name _ _) _); first | (refine' r_cellload ?S ?hm ?hv ?_ ?hc ?hk ?hx ?hd; (case S => assumption); (case hc | hk | hx => exact rfl); (case hd => decide); (case hm => walk_at "mm"); (case hv => assumption)) | (refine' r_cellloadG ?S ?hm ?hv ?_ ?hc ?hk ?hx ?hd; (case S => assumption); (case hc | hk | hx => exact rfl); (case hd => decide); (case hm | hv => assumption)))
  | (o_head (eval (Expr.ListComp _ _ _ _) _); refine' r_listcomp ?_ ?hclos ?hs ?hkind ?hnames; (case hclos => exact rfl); (case hs => intro _; rfl); (case hkind => exact rfl); (case hnames => decide))
  | (o_head (exec (Stmt.Assign [Expr.Name _ _] (Expr.ListComp _ _ _ _) _) _); refine' r_listcompA ?_ ?hsw ?hclos ?hs ?hkind ?hnames; (case hsw | hclos => exact rfl); (case hs => intro _; rfl); (case hkind => exact rfl); (case hnames => decide))
  | with_reducible refine r_tests0 ?_
  | with_reducible refine r_tests1 ?_)
section
set_option maxRecDepth 100000
set_option maxHeartbeats 0
noncomputable def plainS0 (a b c d : List Str) : List En × List Nat := ([(a, [0]), (b, [1]), (c, [2]), (d, [3])], [0, 1, 2, 3])
/-- what the twin brings: a pair of lists, all new -/
noncomputable def PlainPost (h : Heap) (s0 : List En × List Nat) (v : Value) (h' : Heap) : Prop :=
  ∃ T al rl av na rv nr ys zs, v = .ref T ∧ h'.get? T = some (tu [.ref al, .ref rl]) ∧ h'.get? al = some (lo av na) ∧ h'.get? rl = some (lo rv nr) ∧ StrsAre av ys ∧ IntsAre rv zs ∧ (mrun s0 3).1.getD 6 enD = (ys, zs) ∧
    h.get? T = none ∧ h.get? al = none ∧ h.get? rl = none ∧ av.length ≤ 1000 ∧ rv.length ≤ 1000
theorem plain_fnC {w : World} {h : Heap} {B : Addr} {n : Nat} {e0 e1 e2 e3 : AL} (hB : h.get? B = some (lo (([e0, e1, e2, e3] : List AL).map fun e => .ref e.a) n)) (hal : ∀ e ∈ [e0, e1, e2, e3], e.ok h) :
    FnC w 179 1 [.ref B] [] h (PlainPost h (plainS0 e0.ys e1.ys e2.ys e3.ys)) := by
  obtain ⟨als, hals⟩ : ∃ als, als = [e0, e1, e2, e3] := ⟨_, rfl⟩
  have h4 : als.length = 4 := by rw [hals]; rfl
  rw [← hals] at hB hal
  have hs24 : sizeLine = 16777216 := rfl
  refine' enterCellsC [] [] [(Str.ofString "behind", none), (Str.ofString "plain", none), (Str.ofString "agents", some (.ref B))] ?ho ?hcd ?hbind ?hkind ?hkn ?hcv ?hnd ?h1 ?h2 ?h3 ?hled ?_
  case ho => k_is
  case hcd => k_is
  case hbind => exact rfl
  case hkind => intro n x hx; rw [List.mem_singleton.mp hx]; exact .inr ⟨rfl, rfl⟩
  case hkn => intro x v e; cases e
  case hcv => intro n; rfl
  case hnd => intro n; exact List.pairwise_map.mp (show List.Pairwise (· ≠ ·) [Str.ofString "behind", Str.ofString "plain", Str.ofString "agents"] by decide)
  case h1 => exact rfl
  case h2 => exact rfl
  case h3 => exact rfl
  case hled => simp
  intro prog A g hp G D tk o L F C gk gn gL gz hF _ S
  have S1 : St g L hp [] [(L + 1, F (Str.ofString "agents")), (L + 1 + 1, F (Str.ofString "plain")), (L + 1 + 1 + 1, F (Str.ofString "behind"))] := St.to S trivial (by walk_at "led")
  clear S
  have cA : (F (Str.ofString "agents")).data = .cell (some (.ref B)) := hF (Str.ofString "agents", some (.ref B)) (.tail _ (.tail _ (.head _)))
  have cP : (F (Str.ofString "plain")).data = .cell none := hF (Str.ofString "plain", none) (.tail _ (.head _))
  have cB : (F (Str.ofString "behind")).data = .cell none := hF (Str.ofString "behind", none) (.head _)
  generalize F (Str.ofString "agents") = oA at S1 cA
  generalize F (Str.ofString "plain") = oP at S1 cP
  generalize F (Str.ofString "behind") = oB at S1 cB
  clear hF F
  have gB := gk _ _ hB (by simp)
  repeat walk_at "v"
  refine r_range S1 (fun r h2 t1 t2 tk2 S2 l2 => ?_)
  refine' r_compR (N := 4) C.hh S2 gL (S2.mem (.head _)) (by decide) (fun i us nl => ∃ ps : List PE, ps.length = i ∧ us = PE.refs ps ∧ nl = PE.leds ps ∧ ∀ j p, ps[j]? = some p → ∃ e t rl u, als[j]? = some e ∧ p = initPE e j t rl u) ⟨[], rfl, rfl, rfl, by simp⟩ ?_ ?_ ?hcell ?hkind ?hx (by decide) (by decide)
  walk_at "cs"
  · rintro Dl K i us nl u h3 t3 n3 own hi ⟨ps, p1, rfl, rfl, p2⟩ hnl hlD gK S3
    have hia : i < als.length := by (first | walk_at "om" | lia | omega)
    have hie : als[i]? = some als[i] := List.getElem?_eq_getElem hia
    repeat walk_at "v"
    refine r_item (v := .ref als[i].a) (S3.keep _ _ gB) (by (first | walk_at "om" | lia | omega)) (by (first | walk_at "om" | lia | omega)) (by simp [hia]) ?_
    repeat walk_at "v"
    refine r_newList S3 (by simp [hs24]) (fun a1 h4 S4 b1 b2 b3 => ?_)
    repeat walk_at "v"
    refine r_newTuple S4 (by simp [hs24]) (fun a2 h5 S5 d1 d2 d3 => ?_)
    have q1 : Dl < a1 := b1 _ (.head _)
    have q2 : a1 < a2 := d1 _ (.head _)
    walk_at "z"; refine CY.intro (PE.leds ps ++ (initPE als[i] i a2 a1 u).led) (S5.cy [(a2, _), (a1, _)] (fun p hp => ?_)) ⟨ps ++ [initPE als[i] i a2 a1 u], by simp [p1], by simp [PE.refs, initPE], by rw [PE.leds_snoc], fun j p hj => ?_⟩ (fun p hp => ?_)
    · rcases List.mem_append.mp hp with hp | hp
      · exact .inl hp
      · exact .inr (by simpa [PE.led, initPE] using hp)
    · rcases Nat.lt_or_ge j ps.length with hlt | hge
      · rw [List.getElem?_append_left hlt] at hj
        exact p2 j p hj
      · have hj1 := (List.getElem?_eq_some_iff.mp hj).1
        have hji : j = i := by simp at hj1; (first | walk_at "om" | lia | omega)
        subst hji
        rw [List.getElem?_append_right hge, p1] at hj
        have e : initPE als[j] j a2 a1 u = p := by simpa using hj
        exact ⟨als[j], a2, a1, u, hie, e.symm⟩
    · rcases List.mem_append.mp hp with hp | hp
      · exact hnl p hp
      · have : p = (a2, tu [.ref als[i].a, .ref a1]) ∨ p = (a1, lo [.int (i : Nat) u] 0) := by simpa [PE.led, initPE] using hp
        rcases this with rfl | rfl
        · exact Nat.lt_trans q1 q2
        · exact q1
  · rintro Dl us nl n3 t3 ⟨ps, p1, rfl, rfl, p2⟩ hnl hlD hLD gD
    refine CDone.val (fun h3 S3 => ?_)
    try dsimp only
    repeat walk_at "v"
    have hc1 : L + 1 < Dl := hlD (L + 1, oA) (.tail _ (.head _))
    have hc2 : L + 1 + 1 < Dl := hlD (L + 1 + 1, oP) (.tail _ (.tail _ (.head _)))
    have hc3 : L + 1 + 1 + 1 < Dl := hlD (L + 1 + 1 + 1, oB) (.tail _ (.tail _ (.tail _ (.head _))))
    refine r_cellstore (c := L + 1 + 1) (oc := oP) (led := (Dl, lo (PE.refs ps) n3) :: (L + 1 + 1 + 1, oB) :: (L + 1, oA) :: PE.leds ps) (S3.sub _ (by walk_at "sub")) ?_ cP (fun h4 oP' cP' S4 => ?_) rfl rfl rfl
    · have hX : ∀ p ∈ PE.leds ps, L + 1 + 1 < p.1 := fun p hp => Nat.lt_trans hc2 (hnl p hp)
      walk_at "nn"
    repeat walk_at "v"
    refine r_newList S4 (by simp [hs24]) (fun lf h5 S5 b1 b2 b3 => ?_)
    repeat walk_at "v"
    refine r_while (g := g) (L := L) (σ := PS) (fun c => [(Str.ofString "left", .ref c.lf)]) (fun c => (Dl, lo (PE.refs c.es) c.nP) :: (c.lf, lo c.lv c.nL) :: (L + 1 + 1 + 1, c.oB) :: (L + 1, oA) :: (L + 1 + 1, oP') :: PE.leds c.es) (PS.ok g Dl (plainS0 e0.ys e1.ys e2.ys e3.ys)) (fun c => c.left.length)
      ⟨ps, [0, 1, 2, 3], _, lf, _, _, oB⟩ (St.fit _ _ (by assumption) (by walk_at "kn") (by walk_at "sub")) ?_ ?_
    · obtain ⟨pa, pb, pc, pd, rfl⟩ := four_of p1
      subst hals
      obtain ⟨_, ta, ra, ua, ea, rfl⟩ := p2 0 pa rfl
      obtain ⟨_, tb, rb, ub, eb, rfl⟩ := p2 1 pb rfl
      obtain ⟨_, tc, rc, uc, ec, rfl⟩ := p2 2 pc rfl
      obtain ⟨_, td, rd, ud, ed, rfl⟩ := p2 3 pd rfl
      cases ea; cases eb; cases ec; cases ed
      have hok : ∀ e ∈ [e0, e1, e2, e3], ∀ (i : Nat) t rl u, (initPE e i t rl u).ok g 16 := fun e he i t rl u => by
        have z := hal e he
        exact ⟨fun _ => gk _ _ z.at_ (by simp), z.sa, .cons _ _ .nil, z.len, by simp [initPE]⟩
      refine ⟨⟨0, by (first | walk_at "om" | lia | omega), rfl, MGood.init⟩, .cons _ _ (.cons _ _ (.cons _ _ (.cons _ _ .nil))), fun e he => ?_, hnl, b1 (Dl, lo (PE.refs [initPE e0 0 ta ra ua, initPE e1 1 tb rb ub, initPE e2 2 tc rc uc, initPE e3 3 td rd ud]) n3) (by walk_at "mm"), ⟨_, cB⟩, fun k hk e he => ?_⟩
      · simp only [List.mem_cons, List.not_mem_nil, or_false] at he
        rcases he with rfl | rfl | rfl | rfl
        · exact hok _ (by simp) _ _ _ _
        · exact hok _ (by simp) _ _ _ _
        · exact hok _ (by simp) _ _ _ _
        · exact hok _ (by simp) _ _ _ _
      · have := (List.getElem?_eq_some_iff.mp he).1
        simp at this; (first | walk_at "om" | lia | omega)
    · rintro ⟨es, left, lv, lf, nP, nL, oB⟩ h6 t6 ⟨⟨i, i3, hrun, hgood⟩, hia, heok, hgt, hlf, ⟨vB, hoB⟩, hown⟩ S6
      try dsimp only at hrun hgood hia heok hgt hlf hoB hown S6 ⊢
      have hlen := hia.length
      rw [List.length_map] at hlen
      have hpool := hgood.pool
      have hleft := hgood.left
      rw [List.length_map] at hpool
      dsimp only at hleft
      repeat walk_at "v"
      refine r_len (S6.mem (.tail _ (.head _))) (by (first | walk_at "om" | lia | omega)) (fun t7 tk7 => ?_)
      repeat walk_at "v"
      with_reducible refine ifs (fun hb => ?_) (fun hb => ?_)
      · have hi2 : i ≤ 2 := by have := of_decide_eq_true hb; (first | walk_at "om" | lia | omega)
        have hn : left.length = 2 ∨ left.length = 3 ∨ left.length = 4 := by (first | walk_at "om" | lia | omega)
        obtain ⟨i0, j0, r0, hsort, hstep, hgood'⟩ := hgood.step hi2
        dsimp only at hsort hstep hgood'
        repeat walk_at "v"
        refine' r_compL C.hh S6 gL (S6.mem (.tail _ (.head _))) (.inr ⟨_, .tail _ (.head _)⟩) (by (first | walk_at "om" | lia | omega))
          (fun i us nl => ∃ ps : List PT, us = ps.map (fun p => .ref p.t) ∧ nl = ps.map PT.obj ∧ ps.map (fun p => (p.m, p.k)) = (left.take i).map (fun k => (((es.map PE.en).getD k enD).1.length, k))) ⟨[], rfl, rfl, rfl⟩ ?_ ?_ ?hcell ?hkind ?hx
        walk_at "cs"
        · rintro Dk K a us nl v h7 t7 n7 own hv ⟨ps, rfl, rfl, hps⟩ hnl hlD gK S7
          obtain ⟨nk, tk, rfl, hnk⟩ := hia.at a v hv
          obtain ⟨kk, hkk, rfl⟩ : ∃ kk : Nat, left[a]? = some kk ∧ (kk : Int) = nk := by
            rw [List.getElem?_map] at hnk
            cases q : left[a]? with
            | none => rw [q] at hnk; cases hnk
            | some kk => rw [q] at hnk; exact ⟨kk, rfl, Option.some.inj hnk⟩
          have hkl : kk < es.length := by
            have := hgood.lt kk (List.mem_of_getElem? hkk)
            simpa using this
          have hek : es[kk]? = some es[kk] := List.getElem?_eq_getElem hkl
          have hem : es[kk] ∈ es := List.getElem_mem hkl
          repeat walk_at "v"
          have hsz := (heok _ hem).len
          refine r_item (v := .ref es[kk].t) (S7.mem (by walk_at "mm")) (by (first | walk_at "om" | lia | omega)) (by (first | walk_at "om" | lia | omega)) (PE.get_refs hkl) ?_
          repeat walk_at "v"
          refine r_titem (v := .ref es[kk].al) (PE.tAt S7 (by walk_at "ss") hem) (by decide) (by decide) rfl ?_
          repeat walk_at "v"
          refine r_len (PE.aAt S7 (by walk_at "ss") hem (heok _ hem)) (by (first | walk_at "om" | lia | omega)) (fun t8 tk8 => ?_)
          repeat walk_at "v"
          refine r_newTuple S7 (by simp [hs24]) (fun a2 h8 S8 d1 d2 d3 => ?_)
          have hq : Dk < a2 := d1 _ (.head _)
          walk_at "z"; refine CY.intro (ps.map PT.obj ++ [PT.obj ⟨a2, t8, tk, es[kk].av.length, kk⟩]) (S8.cy [(a2, _)] (fun p hp => ?_)) ⟨ps ++ [⟨a2, t8, tk, es[kk].av.length, kk⟩], by simp, by simp, ?_⟩ (fun p hp => ?_)
          · rcases List.mem_append.mp hp with hp | hp
            · exact .inl hp
            · exact .inr hp
          · rw [List.map_append, hps, List.take_add_one, hkk]
            simp only [Option.toList, List.map_append, List.map_cons, List.map_nil]
            rw [PE.get_en hkl]
            simp [PE.en, (heok _ hem).sa.length]
          · rcases List.mem_append.mp hp with hp | hp
            · exact hnl p hp
            · rw [List.mem_singleton.mp hp]; exact hq
        · rintro Dk us nl n7 t7 ⟨ps, rfl, rfl, hps⟩ hnl hlD hLD gD
          refine CDone.val (fun h7 S7 => ?_)
          rw [hlen, List.take_length] at hps
          have hpsl : ps.length = left.length := by simpa using congrArg List.length hps
          try dsimp only
          repeat walk_at "v"
          have hkv : (ps.map fun p => (p.m, p.k)).length = left.length := by simp [hpsl]
          refine r_sorted (kv := ps.map fun p => (p.m, p.k)) S7 gz (S7.mem (.head _)) (PT.pairs (by walk_at "ss")) (by (first | walk_at "om" | lia | omega)) (fun p hp => ?_) ?_ (fun a p c h8 hperm hpair ha1 ha2 ha3 S8 => ?_)
          · rw [hps] at hp
            obtain ⟨k, hk, rfl⟩ := List.mem_map.mp hp
            have := hgood.lt k hk
            rw [List.length_map] at this
            try dsimp only at this ⊢
            (first | walk_at "om" | lia | omega)
          · rw [hps, List.map_map]
            have : (left.map ((fun x : Nat × Nat => x.2) ∘ fun k => (((es.map PE.en).getD k enD).1.length, k))) = left := by
              rw [show ((fun x : Nat × Nat => x.2) ∘ fun k => (((es.map PE.en).getD k enD).1.length, k)) = id from rfl, List.map_id]
            rw [this]
            exact hgood.nodup
          obtain ⟨ops, hops, hom, hok⟩ := PT.sorted hps hperm hpair
          rw [hops] at S8
          replace hok : ops.map (·.k) = i0 :: j0 :: r0 := hok.trans hsort
          obtain ⟨o0, o1, opr, rfl⟩ := two_more hok
          have hk0 : o0.k = i0 := by simpa using (List.cons.inj hok).1
          have hk1 : o1.k = j0 := by simpa using (List.cons.inj (List.cons.inj hok).2).1
          have hkr : opr.map (·.k) = r0 := by simpa using (List.cons.inj (List.cons.inj hok).2).2
          subst hk0 hk1
          have hi0 : o0.k < es.length := by simpa using hgood.lt _ ((isort_perm _ _).mem_iff.mp (by rw [hsort]; exact .head _))
          have hj0 : o1.k < es.length := by simpa using hgood.lt _ ((isort_perm _ _).mem_iff.mp (by rw [hsort]; exact .tail _ (.head _)))
          repeat walk_at "v"
          have ho0 : o0.obj ∈ ps.map PT.obj := List.mem_map_of_mem (hom _ (.head _))
          have ho1 : o1.obj ∈ ps.map PT.obj := List.mem_map_of_mem (hom _ (.tail _ (.head _)))
          have hem0 : es[o0.k] ∈ es := List.getElem_mem hi0
          have hem1 : es[o1.k] ∈ es := List.getElem_mem hj0
          refine r_item (v := .ref o0.t) (St.mem (by assumption) (by walk_at "mm")) (by decide) (by decide) rfl ?_
          repeat walk_at "v"
          refine r_titem (v := .int (o0.k : Nat) o0.u2) (St.mem (by assumption) ((by walk_at "ss" : ∀ p ∈ ps.map PT.obj, p ∈ _) _ ho0)) (by decide) (by decide) rfl ?_
          refine r_item (v := .ref es[o0.k].t) (St.mem (by assumption) (by walk_at "mm")) (by (first | walk_at "om" | lia | omega)) (by (first | walk_at "om" | lia | omega)) (PE.get_refs hi0) ?_
          repeat walk_at "v"
          refine r_item (v := .ref o1.t) (St.mem (by assumption) (by walk_at "mm")) (by decide) (by decide) rfl ?_
          repeat walk_at "v"
          refine r_titem (v := .int (o1.k : Nat) o1.u2) (St.mem (by assumption) ((by walk_at "ss" : ∀ p ∈ ps.map PT.obj, p ∈ _) _ ho1)) (by decide) (by decide) rfl ?_
          refine r_item (v := .ref es[o1.k].t) (St.mem (by assumption) (by walk_at "mm")) (by (first | walk_at "om" | lia | omega)) (by (first | walk_at "om" | lia | omega)) (PE.get_refs hj0) ?_
          repeat walk_at "v"
          have qa : L + 1 + 1 + 1 < a := ha1 (L + 1 + 1 + 1, oB) (by walk_at "mm")
          have qDa : Dl < a := ha1 (Dl, lo (PE.refs es) nP) (by walk_at "mm")
          have qDk : Dl < Dk := hlD (Dl, lo (PE.refs es) nP) (by walk_at "mm")
          have qf : L + 1 + 1 + 1 < lf := Nat.lt_trans hc3 hlf
          have hX1 : ∀ p ∈ ps.map PT.obj, L + 1 + 1 + 1 < p.1 := fun p hp => Nat.lt_trans hc3 (Nat.lt_trans qDk (hnl p hp))
          have hX2 : ∀ p ∈ PE.leds es, L + 1 + 1 + 1 < p.1 := fun p hp => Nat.lt_trans hc3 (hgt p hp)
          refine r_cellstore (c := L + 1 + 1 + 1) (oc := oB) (led := (a, lo ((o0 :: o1 :: opr).map fun q => .ref q.t) c) :: (Dl, lo (PE.refs es) nP) :: (lf, lo lv nL) :: (L + 1, oA) :: (L + 1 + 1, oP') :: (ps.map PT.obj ++ PE.leds es)) (St.sub _ (by assumption) (by walk_at "sub")) (by walk_at "nn") hoB (fun h9 oB' cB' S9 => ?_) rfl rfl rfl
          try dsimp only
          repeat walk_at "v"
          refine r_lmeth PySem.F.slot_list_append PySem.F.type_list_append (S9.mem (by walk_at "mm")) ?_
          repeat walk_at "v"
          refine r_titem (v := .ref es[o0.k].al) (PE.tAt S9 (by walk_at "ss") hem0) (by decide) (by decide) rfl ?_
          have hsz0 := (heok _ hem0).len
          have hsa0 := (heok _ hem0).sa
          have hsrc : (∃ ob, g.get? es[o0.k].al = some ob) ∨ ∃ ob, (es[o0.k].al, ob) ∈ (L + 1 + 1 + 1, oB') :: (a, lo ((o0 :: o1 :: opr).map fun q => Value.ref q.t) c) :: (Dl, lo (PE.refs es) nP) :: (lf, lo lv nL) :: (L + 1, oA) :: (L + 1 + 1, oP') :: (ps.map PT.obj ++ PE.leds es) := by
            cases q : es[o0.k].own with
            | false => exact .inl ⟨_, (heok _ hem0).al q⟩
            | true => exact .inr ⟨_, (by walk_at "ss" : ∀ p ∈ PE.leds es, p ∈ _) _ (PE.aIn hem0 q)⟩
          refine' r_compL C.hh S9 gL (PE.aAt S9 (by walk_at "ss") hem0 (heok _ hem0)) hsrc (by (first | walk_at "om" | lia | omega))
            (fun i us nl => nl = [] ∧ us = (es[o0.k].av.take i).filter (keepV fun z => es[o1.k].ys.contains z)) ⟨rfl, rfl⟩ ?_ ?_ ?hcell ?hkind ?hx
          walk_at "cs"
          · rintro Dm K a1 us nl v h10 t10 n10 own hv ⟨rfl, rfl⟩ hnl1 hlD1 gK S10
            obtain ⟨y, ty, rfl, hy⟩ := hsa0.item a1 v hv
            repeat walk_at "v"
            refine r_titem (v := .ref es[o1.k].al) (PE.tAt S10 (by walk_at "ss") hem1) (by decide) (by decide) rfl ?_
            repeat walk_at "v"
            refine in_list_strs (isList_of (PE.aAt S10 (by walk_at "ss") hem1 (heok _ hem1))) (heok _ hem1).sa ?_
            rw [any_contains]
            have hft := filter_take (Sf := fun z => es[o1.k].ys.contains z) hv
            repeat walk_at "v"
            with_reducible refine ifs (fun hb1 => ?_) (fun hb1 => ?_)
            · repeat walk_at "v"
              rw [if_pos hb1] at hft
              walk_at "z"; exact CY.intro [] (St.cy [] (by assumption) (fun p hp => .inl hp)) ⟨rfl, hft.symm⟩ (by simp)
            · rw [if_neg (by rw [hb1]; decide), List.append_nil] at hft
              walk_at "z"; exact CY.intro [] (St.cy [] (by assumption) (fun p hp => .inl hp)) ⟨rfl, hft.symm⟩ (by simp)
          · rintro Dm us nl n10 t10 ⟨rfl, rfl⟩ hnl1 hlD1 hLD1 gD1
            refine CDone.val (fun h10 S10 => ?_)
            rw [List.take_length] at S10
            try dsimp only
            repeat walk_at "v"
            have hpw : 2 ^ es.length ≤ 2 ^ 7 := Nat.pow_le_pow_right (by decide) (by (first | walk_at "om" | lia | omega))
            have hr0 := (heok _ hem0).rlen
            have hr1 := (heok _ hem1).rlen
            refine r_titem (v := .ref es[o0.k].rl) (PE.tAt S10 (by walk_at "ss") hem0) (by decide) (by decide) rfl ?_
            repeat walk_at "v"
            refine r_titem (v := .ref es[o1.k].rl) (PE.tAt S10 (by walk_at "ss") hem1) (by decide) (by decide) rfl ?_
            repeat walk_at "v"
            refine r_addlist S10 (PE.rAt S10 (by walk_at "ss") hem0) (PE.rAt S10 (by walk_at "ss") hem1) (by (first | walk_at "om" | lia | omega)) (fun rl' h11 S11 e1 e2 => ?_)
            repeat walk_at "v"
            refine r_newTuple S11 (by simp [hs24]) (fun t' h12 S12 f1 f2 f3 => ?_)
            repeat walk_at "v"
            have qDm : Dl < Dm := hlD1 (Dl, lo (PE.refs es) nP) (by walk_at "mm")
            have qDr : Dm < rl' := e1 _ (.head _)
            have qrt : rl' < t' := f1 _ (.head _)
            have q1 : Dl < rl' := Nat.lt_trans qDm qDr
            have q2 : Dl < t' := Nat.lt_trans q1 qrt
            refine r_append (l := Dl) (vs := PE.refs es) (n := nP) (led := (t', tu [.ref Dm, .ref rl']) :: (rl', lo (es[o0.k].rv ++ es[o1.k].rv) 0) :: (Dm, lo (es[o0.k].av.filter (keepV fun z => es[o1.k].ys.contains z)) n10) :: (L + 1 + 1 + 1, oB') :: (a, lo ((o0 :: o1 :: opr).map fun q => .ref q.t) c) :: (lf, lo lv nL) :: (L + 1, oA) :: (L + 1 + 1, oP') :: (ps.map PT.obj ++ PE.leds es)) (S12.sub _ (by walk_at "sub")) ?_ (by simp [PE.refs]; (first | walk_at "om" | lia | omega)) (fun h13 S13 => ⟨rfl, ?_⟩)
            · have hX3 : ∀ p ∈ ps.map PT.obj, Dl < p.1 := fun p hp => Nat.lt_trans qDk (hnl p hp)
              walk_at "nn"
            repeat walk_at "v"
            refine r_lslice ?_ (fun _ _ => rfl)
            repeat walk_at "v"
            refine r_sliceL (g := g) (L := L) (some 2) none (opr.map fun q => .ref q.t) (vs := (o0 :: o1 :: opr).map fun q => .ref q.t) S13 (isList_of (S13.mem (by walk_at "mm"))) ?_ (.int _ _) .none ?_ (fun Ds h14 S14 s1 s2 => ?_)
            · have h1 := congrArg List.length hkr
              have h2 := (isort_perm (mcode (es.map PE.en)) left).length_eq
              rw [hsort] at h2
              simp at h1 h2 ⊢
              (first | walk_at "om" | lia | omega)
            · have := slicePick_from ((o0 :: o1 :: opr).map fun q => Value.ref q.t).toArray 2 (by simp)
              exact this
            have hor : opr.length ≤ 2 := by
              have h1 := congrArg List.length hkr
              have h2 := (isort_perm (mcode (es.map PE.en)) left).length_eq
              rw [hsort] at h2
              simp at h1 h2
              (first | walk_at "om" | lia | omega)
            refine' r_compL C.hh S14 gL (S14.mem (.head _)) (.inr ⟨_, .head _⟩) (by simp; (first | walk_at "om" | lia | omega))
              (fun i us nl => nl = [] ∧ us = (opr.take i).map fun q => .int (q.k : Nat) q.u2) ⟨rfl, rfl⟩ ?_ ?_ ?hcell ?hkind ?hx
            walk_at "cs"
            · rintro Dn K a2 us nl v h15 t15 n15 own hv ⟨rfl, rfl⟩ hnl2 hlD2 gK2 S15
              rw [List.getElem?_map] at hv
              obtain ⟨q, hq, rfl⟩ := Option.map_eq_some_iff.mp hv
              have hqo : q.obj ∈ ps.map PT.obj := List.mem_map_of_mem (hom _ (.tail _ (.tail _ (List.mem_of_getElem? hq))))
              repeat walk_at "v"
              refine r_titem (v := .int (q.k : Nat) q.u2) (S15.mem ((by walk_at "ss" : ∀ p ∈ ps.map PT.obj, p ∈ _) _ hqo)) (by decide) (by decide) rfl ?_
              walk_at "z"; refine CY.intro [] (St.cy [] (by assumption) (fun p hp => .inl hp)) ⟨rfl, ?_⟩ (by simp)
              rw [List.take_add_one, hq]; simp
            · rintro Dn us nl n15 t15 ⟨rfl, rfl⟩ hnl2 hlD2 hLD2 gD2
              refine CDone.val (fun h15 S15 => ?_)
              rw [List.length_map, List.take_length] at S15
              repeat walk_at "v"
              refine r_len (S15.mem (by walk_at "mm")) (by simp [PE.refs]; (first | walk_at "om" | lia | omega)) (fun t16 tk16 => ?_)
              repeat walk_at "v"
              rename_i tla _
              refine r_newList S15 (by simp [hs24]) (fun Lr h16 S16 w1 w2 w3 => ?_)
              repeat walk_at "v"
              refine r_addlist S16 (S16.mem (by walk_at "mm")) (S16.mem (.head _)) (by simp; (first | walk_at "om" | lia | omega)) (fun lf' h17 S17 x1 x2 => ?_)
              repeat walk_at "v"
              refine' TurnEnd.intro ⟨es ++ [newPE t' Dm rl' es[o0.k] es[o1.k] n10], r0 ++ [es.length], (opr.map fun q => .int (q.k : Nat) q.u2) ++ [.int (((PE.refs es ++ [Value.ref t']).length : Nat) - 1) tla], lf', nP + 1, 0, oB'⟩ (St.fit _ _ (by assumption) ?kn ?sub) ⟨?g1, ?g2, ?g3, ?g4, ?g5, ⟨_, cB'⟩, ?g7⟩ ?g6
              case kn => walk_at "kn"
              case sub =>
                try dsimp only
                rw [PE.refs_snoc, PE.leds_snoc, newPE_led]
                walk_at "sub"
              case g1 =>
                refine ⟨i + 1, by (first | walk_at "om" | lia | omega), ?_, ?_⟩
                · show _ = mrgStep _
                  rw [← hrun, hstep, List.map_append]
                  rw [PE.get_en hi0, PE.get_en hj0, List.length_map]
                  rfl
                · rw [hstep] at hgood'
                  rw [PE.get_en hi0, PE.get_en hj0, List.length_map] at hgood'
                  rw [List.map_append]
                  exact hgood'
              case g2 =>
                rw [List.map_append]
                refine IntsAre.append ?_ ?_
                · rw [← hkr]
                  exact PT.ints opr
                · have e : (((PE.refs es ++ [Value.ref t']).length : Nat) : Int) - 1 = (es.length : Nat) := by simp [PE.refs]
                  rw [e]
                  exact .cons _ _ .nil
              case g3 =>
                intro e he
                have hl : (es ++ [newPE t' Dm rl' es[o0.k] es[o1.k] n10]).length = es.length + 1 := by simp
                rw [hl, Nat.pow_succ]
                rcases List.mem_append.mp he with he | he
                · have z := heok e he
                  exact ⟨z.al, z.sa, z.ia, z.len, by have := z.rlen; (first | walk_at "om" | lia | omega)⟩
                · rw [List.mem_singleton.mp he]
                  have z0 := heok _ hem0
                  have z1 := heok _ hem1
                  refine ⟨fun q => (nomatch q), strs_filter z0.sa, z0.ia.append z1.ia, ?_, ?_⟩
                  · have := List.length_filter_le (keepV fun z => es[o1.k].ys.contains z) es[o0.k].av
                    show (es[o0.k].av.filter _).length ≤ 1000
                    (first | walk_at "om" | lia | omega)
                  · show (es[o0.k].rv ++ es[o1.k].rv).length ≤ _
                    rw [List.length_append]; (first | walk_at "om" | lia | omega)
              case g4 =>
                try dsimp only
                rw [PE.leds_snoc, newPE_led]
                intro p hp
                rcases List.mem_append.mp hp with hp | hp
                · exact hgt p hp
                · simp only [List.mem_cons, List.not_mem_nil, or_false] at hp
                  rcases hp with rfl | rfl | rfl
                  · exact q2
                  · exact q1
                  · exact qDm
              case g5 => exact x1 (Dl, lo (PE.refs es ++ [.ref t']) (nP + 1)) (by walk_at "mm")
              case g6 =>
                have h1 := congrArg List.length hkr
                have h2 := (isort_perm (mcode (es.map PE.en)) left).length_eq
                rw [hsort] at h2
                simp at h1 h2 ⊢
                (first | walk_at "om" | lia | omega)
              case g7 =>
                intro k hk e he
                dsimp only at he
                rcases Nat.lt_or_ge k es.length with hlt | hge
                · rw [List.getElem?_append_left hlt] at he
                  exact hown k hk e he
                · rw [List.getElem?_append_right hge] at he
                  have : newPE t' Dm rl' es[o0.k] es[o1.k] n10 = e := by
                    cases q : k - es.length with
                    | zero => rw [q] at he; simpa using he
                    | succ _ => rw [q] at he; simp at he
                  rw [← this]; rfl
      · have hi3 : i = 3 := by
          have := of_decide_eq_false hb
          (first | walk_at "om" | lia | omega)
        subst hi3
        have h6l : 6 < es.length := by (first | walk_at "om" | lia | omega)
        have h7 : es.length = 7 := by (first | walk_at "om" | lia | omega)
        have e6 : PE.refs es = PE.refs (es.take 6) ++ [.ref es[6].t] := by
          have : es = es.take 6 ++ [es[6]] := by
            apply List.ext_getElem
            · simp; (first | walk_at "om" | lia | omega)
            · intro i h1 h2
              rcases Nat.lt_or_ge i 6 with q | q
              · rw [List.getElem_append_left (by simp; (first | walk_at "om" | lia | omega))]; simp
              · have : i = 6 := by (first | walk_at "om" | lia | omega)
                subst this
                simp [h7]
          conv => lhs; rw [this, PE.refs_snoc]
        have hem : es[6] ∈ es := List.getElem_mem h6l
        have hz := heok _ hem
        have hown6 := hown 6 (by (first | walk_at "om" | lia | omega)) es[6] (List.getElem?_eq_getElem h6l)
        repeat walk_at "v"
        refine r_itemlast (vs := PE.refs (es.take 6)) (v := .ref es[6].t) (n := nP) (by rw [← e6]; exact S6.mem (.head _)) ?_
        have no : ∀ b, g.get? b = none → h.get? b = none := fun b hb => by
          cases q : h.get? b with
          | none => rfl
          | some ob => rw [gk _ _ q (by simp)] at hb; cases hb
        have hss : ∀ p ∈ PE.leds es, p ∈ (Dl, lo (PE.refs es) nP) :: (lf, lo lv nL) :: (L + 1 + 1 + 1, oB) :: (L + 1, oA) :: (L + 1 + 1, oP') :: PE.leds es := by walk_at "ss"
        have hr := hz.rlen
        rw [h7] at hr
        walk_at "x"; refine Ret.intro S6 ⟨es[6].t, es[6].al, es[6].rl, es[6].av, es[6].na, es[6].rv, es[6].nr, es[6].ys, es[6].zs, rfl, PE.tAt S6 hss hem, PE.aAt S6 hss hem hz, PE.rAt S6 hss hem, hz.sa, hz.ia, ?_, no _ (S6.nw _ (hss _ (PE.mem hem (.head _)))).2.1, no _ (S6.nw _ (hss _ (PE.aIn hem hown6))).2.1, no _ (S6.nw _ (hss _ (PE.mem hem (.tail _ (.head _))))).2.1, hz.len, by (first | walk_at "om" | lia | omega)⟩
        rw [← hrun]
        exact PE.get_en h6l
theorem plain_fn {w : World} {h : Heap} {B : Addr} {n : Nat} {e0 e1 e2 e3 : AL} (hB : h.get? B = some (lo (([e0, e1, e2, e3] : List AL).map fun e => .ref e.a) n)) (hal : ∀ e ∈ [e0, e1, e2, e3], e.ok h) :
    Fn w 179 1 [.ref B] [] h (PlainPost h (plainS0 e0.ys e1.ys e2.ys e3.ys)) := (plain_fnC hB hal).fn
end
section
set_option maxRecDepth 100000
set_option maxHeartbeats 0
/-- something of the law's own text -/
noncomputable def LawAt (w : World) (P : List Stmt → Scope → Str → Prop) : Prop :=
  ∀ oc od name qual params body scope dV kV doc pm an cdv ct osl, (pre.heap_1 w.params).lookup 184 = some ⟨oc, od, .func (fnOf name qual params body scope dV kV doc pm an cdv ct), osl⟩ → P body scope qual
theorem LawAt.intro {w : World} {P : List Stmt → Scope → Str → Prop} {oc od name qual params body scope dV kV doc pm an cdv ct osl} (ho : (pre.heap_1 w.params).lookup 184 = some ⟨oc, od, .func (fnOf name qual params body scope dV kV doc pm an cdv ct), osl⟩)
    (h : P body scope qual) : LawAt w P := by
  intro oc' od' name' qual' params' body' scope' dV' kV' doc' pm' an' cdv' ct' osl' ho'
  rw [ho] at ho'
  cases ho'
  exact h
theorem LawAt.and {w : World} {P R : List Stmt → Scope → Str → Prop} (h1 : LawAt w P) (h2 : LawAt w R) : LawAt w fun b s q => P b s q ∧ R b s q :=
  fun oc od name qual params body scope dV kV doc pm an cdv ct osl ho => ⟨h1 oc od name qual params body scope dV kV doc pm an cdv ct osl ho, h2 oc od name qual params body scope dV kV doc pm an cdv ct osl ho⟩
/-- what the ledger bears (but for some places) is laid into the base -/
theorem St.rebase {g hp : Heap} {L : Addr} {kn : Kns} {led : Led} (S : St g L hp kn led) (hgL : g.get? L = none) (ds : List Addr) (hL : L ∈ ds) (hds : ∀ d ∈ ds, g.get? d = none) :
    (∀ b o, g.get? b = some o → (hideAll hp ds).get? b = some o) ∧ (hideAll hp ds).get? L = none ∧ (∀ p ∈ led, p.1 ∉ ds → (hideAll hp ds).get? p.1 = some p.2) ∧
      ∀ led', (∀ p ∈ led', p ∈ led ∧ p.1 ∈ ds) → St (hideAll hp ds) L hp kn led' := by
  refine ⟨fun b o e => hideAll_get _ (S.keep b o e) (fun hm => by rw [hds b hm] at e; cases e), hideAll_none _ hL, fun p hp hn => hideAll_get _ (S.mem hp) hn, fun led' hl => ⟨fun b o e => of_hideAll _ e, S.ns, fun p hp => ⟨S.mem (hl p hp).1, hideAll_none _ (hl p hp).2, (S.nw p (hl p hp).1).2.2⟩⟩⟩
end
section
set_option maxRecDepth 100000
set_option maxHeartbeats 0
theorem law_parts (w : World) : LawAt w fun body _ _ => ∃ s0 s1 s2 s3 s4 s5 s6 s7 s8 s9 s10 s11 s12 s13 s14 s15 s16 s17 s18 s19 s20 s21 s22 s23 s24 s25 s26,
    body = [s0, s1, s2, s3, s4, s5, s6, s7, s8, s9, s10, s11, s12, s13, s14, s15, s16, s17, s18, s19, s20, s21, s22, s23, s24, s25, s26] := by
  refine' LawAt.intro ?ho ?_
  case ho => k_is
  exact ⟨_, _, _, _, _, _, _, _, _, _, _, _, _, _, _, _, _, _, _, _, _, _, _, _, _, _, _, rfl⟩
theorem law_scope (w : World) : LawAt w fun _ scope _ => scope.kind = .function := by
  refine' LawAt.intro ?ho ?_
  case ho => k_is
  exact rfl
end
section
set_option maxRecDepth 100000
set_option maxHeartbeats 0
/-- the law's frame between two statements -/
structure Fz (w : World) (A : Around) (k : Nat) (g0 : Heap) (L : Addr) (hp : Heap) (kn : Kns) : Prop where
  C : Cx w A g0 k
  keep : ∀ b o, g0.get? b = some o → hp.get? b = some o
  n0 : ∀ i : Nat, i ≤ 4 → g0.get? (L + i) = none
  ns : ∃ m, hp.Ns L m ∧ Kn m kn
  cells : ∀ i : Nat, 1 ≤ i → i ≤ 4 → ∃ v, hp.IsCell (L + i) v
noncomputable def Off (L a : Addr) : Prop := ∀ i : Nat, i ≤ 4 → a ≠ L + i
theorem Off.l {L a : Addr} (h : Off L a) : a ≠ L := h 0 (by (first | walk_at "om" | lia | omega))
section
variable {w : World} {A : Around} {k : Nat} {g0 g hp hp' : Heap} {L : Addr} {kn kn' : Kns} {led : Led}
theorem Fz.nL (F : Fz w A k g0 L hp kn) : g0.get? L = none := F.n0 0 (Nat.zero_le _)
theorem Fz.start (F : Fz w A k g0 L hp kn) (ds : List Addr) (led : Led) (hds : ∀ d ∈ ds, g0.get? d = none) (hled : ∀ p ∈ led, hp.get? p.1 = some p.2 ∧ p.1 ∈ ds ∧ p.1 ≠ L) :
    ∃ g, Cx w A g k ∧ g.get? L = none ∧ St g L hp kn led ∧ (∀ b o, hp.get? b = some o → b ∉ L :: ds → g.get? b = some o) ∧ (∀ b o, g.get? b = some o → hp.get? b = some o) ∧ (∀ b ∈ L :: ds, g.get? b = none) ∧ (∀ b o, g0.get? b = some o → g.get? b = some o) := by
  have hk : ∀ b o, g0.get? b = some o → (hideAll hp (L :: ds)).get? b = some o := fun b o e => hideAll_get _ (F.keep b o e) (fun hm => by
    rcases List.mem_cons.mp hm with rfl | hm
    · rw [F.nL] at e; cases e
    · rw [hds b hm] at e; cases e)
  exact ⟨hideAll hp (L :: ds), F.C.keeps hk, hideAll_none _ (.head _), ⟨fun b o e => of_hideAll _ e, F.ns, fun p hp => ⟨(hled p hp).1, hideAll_none _ (.tail _ (hled p hp).2.1), (hled p hp).2.2⟩⟩, fun b o e hn => hideAll_get _ e hn, fun b o e => of_hideAll _ e, fun b hb => hideAll_none _ hb, hk⟩
theorem Fz.cellObj (F : Fz w A k g0 L hp kn) {i : Nat} (h1 : 1 ≤ i) (h4 : i ≤ 4) : ∃ o v, hp.get? (L + i) = some o ∧ o.data = .cell v := by
  obtain ⟨v, o, a, b⟩ := F.cells i h1 h4
  exact ⟨o, v, a, b⟩
/-- the end of a segment -/
theorem Fz.stop (F : Fz w A k g0 L hp kn) (S : St g L hp' kn' led) (hk : ∀ b o, g0.get? b = some o → g.get? b = some o) (hc : ∀ i : Nat, 1 ≤ i → i ≤ 4 → (∃ o v, g.get? (L + i) = some o ∧ o.data = .cell v) ∨ ∃ o v, (L + i, o) ∈ led ∧ o.data = .cell v) : Fz w A k g0 L hp' kn' := by
  refine ⟨F.C, fun b o e => S.keep b o (hk b o e), F.n0, S.ns, fun i h1 h4 => ?_⟩
  rcases hc i h1 h4 with ⟨o, v, e, hd⟩ | ⟨o, v, e, hd⟩
  · exact ⟨v, o, S.keep _ _ e, hd⟩
  · exact ⟨v, o, S.mem e, hd⟩
/-- one that keeps all but what is no cell -/
theorem Fz.next {ds : List Addr} (F : Fz w A k g0 L hp kn) (hk : KB (L :: ds) hp hp') (hn : ∃ m, hp'.Ns L m ∧ Kn m kn') (hds : ∀ d ∈ ds, g0.get? d = none) (hc : ∀ i : Nat, 1 ≤ i → i ≤ 4 → (L + i) ∈ ds → ∃ v, hp'.IsCell (L + i) v) : Fz w A k g0 L hp' kn' := by
  refine ⟨F.C, fun b o e => hk b o (F.keep b o e) (fun hm => ?_), F.n0, hn, fun i h1 h4 => ?_⟩
  · rcases List.mem_cons.mp hm with rfl | hm
    · rw [F.nL] at e; cases e
    · rw [hds b hm] at e; cases e
  · by_cases hm : (L + i) ∈ ds
    · exact hc i h1 h4 hm
    · obtain ⟨v, o, a, b⟩ := F.cells i h1 h4
      refine ⟨v, o, hk _ _ a (fun hm' => ?_), b⟩
      rcases List.mem_cons.mp hm' with e | e
      · have e' : L + i = L := e
        exact absurd (show (i : Nat) = 0 from Nat.add_left_cancel (n := L) (show L + i = L + 0 from e')) (by (first | walk_at "om" | lia | omega))
      · exact hm e
theorem St.kb (S : St g L hp' kn led) {ds : List Addr} (hg : ∀ b o, hp.get? b = some o → b ∉ ds → g.get? b = some o) : KB ds hp hp' := fun b o e n => S.keep b o (hg b o e n)
theorem St.fresh (S : St g L hp' kn led) {ds : List Addr} (hg : ∀ b o, hp.get? b = some o → b ∉ ds → g.get? b = some o) {p : Addr × Obj} (hp' : p ∈ led) (hd : p.1 ∉ ds) : hp.get? p.1 = none := by
  cases q : hp.get? p.1 with
  | none => rfl
  | some o => have := (S.nw p hp').2.1; rw [hg _ _ q hd] at this; cases this
/-- what a segment makes lies off the frame and its cells -/
theorem Fz.off (F : Fz w A k g0 L hp kn) {a : Addr} (h : hp.get? a = none) : Off L a := fun i hi e => by
  subst e
  cases i with
  | zero => obtain ⟨m, ⟨o, es, ep, a, _⟩, _⟩ := F.ns; rw [show (L + 0 : Addr) = L from rfl, a] at h; cases h
  | succ i => obtain ⟨v, o, a, _⟩ := F.cells (i + 1) (by (first | walk_at "om" | lia | omega)) hi; rw [a] at h; cases h
theorem off_seq (F : Fz w A k g0 L hp kn) {a : Addr} {o : Obj} {vs : Array Value} {n : Nat} (e : hp.get? a = some o) (hd : o.data = .seq vs n) : Off L a := fun i hi q => by
  subst q
  cases i with
  | zero => obtain ⟨m, ⟨o', es, ep, a, b, _⟩, _⟩ := F.ns; rw [show (L + 0 : Addr) = L from rfl, a] at e; cases e; rw [b] at hd; cases hd
  | succ i => obtain ⟨v, o', a, b⟩ := F.cells (i + 1) (by (first | walk_at "om" | lia | omega)) hi; rw [a] at e; cases e; rw [b] at hd; cases hd
theorem off_notin {L a : Addr} (h : Off L a) {ds : List Addr} (hd : ∀ d ∈ ds, ∃ i : Nat, i ≤ 4 ∧ d = L + i) : a ∉ ds := fun hm => by
  obtain ⟨i, hi, e⟩ := hd a hm
  exact h i hi e
end
end
section
set_option maxRecDepth 100000
set_option maxHeartbeats 0
noncomputable def menu8 : List Str := [Str.ofString "a", Str.ofString "B", Str.ofString "ab", Str.ofString "bA", Str.ofString "A", Str.ofString "", Str.ofString "*", Str.ofString "a/"]
noncomputable def AL.ob (e : AL) : Addr × Obj := (e.a, lo e.av e.na)
theorem slicePick_uptoAny (items : Array Value) (b : Nat) : slicePick items none (some (b : Int)) none = (items.toList.take b).toArray := by
  rcases Nat.le_total b items.size with h | h
  · exact slicePick_upto items b h
  · have e : sliceBounds none (some (b : Int)) none items.size = (((0 : Nat) : Int), ((items.size : Nat) : Int), 1) := by
      simp only [sliceBounds, Option.getD_none]
      have h2 : ¬ ((b : Int) < 0) := by (first | walk_at "om" | lia | omega)
      simp only [h2, if_false, show (1 : Int) > 0 by decide, if_true]
      congr 1
      congr 1; (first | walk_at "om" | lia | omega)
    unfold slicePick
    rw [e]
    simp only [sliceRange_one, pick_run]
    rw [List.drop_zero, Nat.sub_zero, List.take_of_length_le (by simp), List.take_of_length_le (by simpa using h)]
section
variable {prog : Program} {w : World} {M : Model} {A : Around} {E : Value → Shared → Prop} {hp g : Heap} {G : Array GenState} {D : Drawn} {tk : Nat} {o : OsState}
theorem r_pow {a n : Int} {t u : Tok} {Q : Value → Shared → Prop} (hn : 0 ≤ n) (hn2 : n ≤ 1000000) (ha : a.natAbs < 2 ^ 64) (h : ∀ t tk', Q (.int (a ^ n.toNat) t) ⟨hp, G, D, tk', o⟩) :
    wpAny (model prog w) A (binaryOp .Pow (.int a t) (.int n u)) Q E ⟨hp, G, D, tk, o⟩ := pow_int_small hn hn2 ha (h _ _)
end
set_option genInjectivity false in
set_option genSizeOf false in
structure SL where
  av : List Value
  na : Nat
  ys : List Str
structure SL.good (b : Nat) (e : SL) : Prop where
  sa : StrsAre e.av e.ys
  len : e.av.length ≤ b
  menu : ∀ y ∈ e.ys, y ∈ menu8
noncomputable def SL.push (e : SL) (y : Str) (t : Tok) : SL := ⟨e.av ++ [.str y t], e.na + 1, e.ys ++ [y]⟩
theorem SL.good.push {b : Nat} {e : SL} (h : e.good b) {y : Str} (t : Tok) (hy : y ∈ menu8) : (e.push y t).good (b + 1) := by
  refine ⟨h.sa.append' (.cons _ _ .nil), by have := h.len; simp [SL.push]; (first | walk_at "om" | lia | omega), fun z hz => ?_⟩
  rcases List.mem_append.mp hz with hz | hz
  · exact h.menu z hz
  · rw [List.mem_singleton.mp hz]; exact hy
theorem SL.good.up {b : Nat} {e : SL} (h : e.good b) : e.good (b + 1) := ⟨h.sa, Nat.le_succ_of_le h.len, h.menu⟩
noncomputable abbrev S4 := SL × SL × SL × SL
noncomputable def led4 (a0 a1 a2 a3 : Addr) (c : S4) : Led := [(a0, lo c.1.av c.1.na), (a1, lo c.2.1.av c.2.1.na), (a2, lo c.2.2.1.av c.2.2.1.na), (a3, lo c.2.2.2.av c.2.2.2.na)]
end
section
set_option maxRecDepth 100000
set_option maxHeartbeats 0
theorem seg0 (w : World) : LawAt w fun body scope qual => ∀ s0, body[0]? = some s0 → ∀ {prog A g0 hp G D tk o L fa cd k sl} {rest : List Stmt} {Q : Flow → Shared → Prop},
    Fz w A k g0 L hp [(Str.ofString "script", .ref sl)] →
    (∀ (hp' : Heap) (tk' : Nat) (B a0 a1 a2 a3 : Addr), Fz w A k g0 L hp' [(Str.ofString "script", .ref sl)] → KB [L, L + 1] hp hp' → hp'.IsCell (L + 1) (some (.ref B)) → hp'.get? B = some (lo [.ref a0, .ref a1, .ref a2, .ref a3] 0) →
      (hp'.get? a0 = some (lo [] 0) ∧ hp'.get? a1 = some (lo [] 0) ∧ hp'.get? a2 = some (lo [] 0) ∧ hp'.get? a3 = some (lo [] 0)) → (g0.get? a0 = none ∧ g0.get? a1 = none ∧ g0.get? a2 = none ∧ g0.get? a3 = none) → a0 < a1 → a1 < a2 → a2 < a3 → a3 < B →
      wpAny (model prog w) A (execs rest (envOfC qual scope L fa cd)) Q NoE ⟨hp', G, D, tk', o⟩) →
    wpAny (model prog w) A (execs (s0 :: rest) (envOfC qual scope L fa cd)) Q NoE ⟨hp, G, D, tk, o⟩ := by
  have hs24 : sizeLine = 16777216 := rfl
  refine' LawAt.intro ?ho ?_
  case ho => k_is
  intro s0 i0
  cases i0
  intro prog A g0 hp G D tk o L fa cd k sl rest Q F next
  obtain ⟨oA, vA, eA, hoA⟩ := F.cellObj (i := 1) (by (first | walk_at "om" | lia | omega)) (by (first | walk_at "om" | lia | omega))
  obtain ⟨g, C, gL, S, gk, gh, gn, gg⟩ := F.start [L + 1] [(L + 1, oA)] (fun d hd => by rw [List.mem_singleton.mp hd]; exact F.n0 1 (by (first | walk_at "om" | lia | omega))) (fun p hp => by rw [List.mem_singleton.mp hp]; exact ⟨eA, .head _, Nat.succ_ne_self L⟩)
  repeat walk_at "v"
  refine r_newList S (by simp [hs24]) (fun a0 h1 S1 b1 b2 b3 => ?_)
  repeat walk_at "v"
  refine r_newList S1 (by simp [hs24]) (fun a1 h2 S2 c1 c2 c3 => ?_)
  repeat walk_at "v"
  refine r_newList S2 (by simp [hs24]) (fun a2 h3 S3 d1 d2 d3 => ?_)
  repeat walk_at "v"
  refine r_newList S3 (by simp [hs24]) (fun a3 h4 S4 e1 e2 e3 => ?_)
  repeat walk_at "v"
  refine r_newList S4 (by simp [hs24]) (fun B h5 S5 f1 f2 f3 => ?_)
  repeat walk_at "v"
  have q0 : L + 1 < a0 := b1 _ (.head _)
  have q1 : a0 < a1 := c1 _ (.head _)
  have q2 : a1 < a2 := d1 _ (.head _)
  have q3 : a2 < a3 := e1 _ (.head _)
  have q4 : a3 < B := f1 _ (.head _)
  have q01 : L + 1 < a1 := Nat.lt_trans q0 q1
  have q02 : L + 1 < a2 := Nat.lt_trans q01 q2
  have q03 : L + 1 < a3 := Nat.lt_trans q02 q3
  have q04 : L + 1 < B := Nat.lt_trans q03 q4
  refine r_cellstore (c := L + 1) (oc := oA) (led := (B, lo [.ref a0, .ref a1, .ref a2, .ref a3] 0) :: (a0, lo [] 0) :: (a1, lo [] 0) :: (a2, lo [] 0) :: (a3, lo [] 0) :: []) (S5.sub _ (by walk_at "sub")) (by walk_at "nn") hoA (fun h6 oA' cA S6 => ?_) rfl rfl rfl
  try dsimp only
  repeat walk_at "v"
  have K := S6.kb gk
  have g0g : ∀ a, g.get? a = none → g0.get? a = none := fun a ha => by
    cases q : g0.get? a with
    | none => rfl
    | some o2 => rw [gg _ _ q] at ha; cases ha
  have cA' : h6.IsCell (L + 1) (some (.ref B)) := ⟨oA', S6.mem (by walk_at "mm"), cA⟩
  walk_at "x"; refine next h6 tk B a0 a1 a2 a3 (F.next K S6.ns (fun d hd => by rw [List.mem_singleton.mp hd]; exact F.n0 1 (by (first | walk_at "om" | lia | omega))) (fun i _ _ hm => ?_)) K cA' (S6.mem (by walk_at "mm")) ⟨S6.mem (by walk_at "mm"), S6.mem (by walk_at "mm"), S6.mem (by walk_at "mm"), S6.mem (by walk_at "mm")⟩ ⟨g0g _ b3, g0g _ c3, g0g _ d3, g0g _ e3⟩ q1 q2 q3 q4
  rw [List.mem_singleton.mp hm]; exact ⟨_, cA'⟩
theorem seg1 (w : World) : LawAt w fun body scope qual => ∀ s0, body[1]? = some s0 → ∀ {prog A g0 hp G D tk o L fa cd k sl B a0 a1 a2 a3} {ws : List Value} {ns : List Int} {rest : List Stmt} {Q : Flow → Shared → Prop},
    Fz w A k g0 L hp [(Str.ofString "script", .ref sl)] → hp.IsList sl ws.toArray → IntsAre ws ns → ws.length ≤ 100 → hp.IsCell (L + 1) (some (.ref B)) → hp.get? B = some (lo [.ref a0, .ref a1, .ref a2, .ref a3] 0) →
      (hp.get? a0 = some (lo [] 0) ∧ hp.get? a1 = some (lo [] 0) ∧ hp.get? a2 = some (lo [] 0) ∧ hp.get? a3 = some (lo [] 0)) → (g0.get? a0 = none ∧ g0.get? a1 = none ∧ g0.get? a2 = none ∧ g0.get? a3 = none) → a0 < a1 → a1 < a2 → a2 < a3 → a3 < B → (∀ a ∈ [a0, a1, a2, a3], sl ≠ a) →
    (∀ (hp' : Heap) (tk' : Nat) (c : S4), Fz w A k g0 L hp' [] → KB [L, a0, a1, a2, a3] hp hp' → (∀ p ∈ led4 a0 a1 a2 a3 c, hp'.get? p.1 = some p.2) → c.1.good 12 → c.2.1.good 12 → c.2.2.1.good 12 → c.2.2.2.good 12 →
      wpAny (model prog w) A (execs rest (envOfC qual scope L fa cd)) Q NoE ⟨hp', G, D, tk', o⟩) →
    wpAny (model prog w) A (execs (s0 :: rest) (envOfC qual scope L fa cd)) Q NoE ⟨hp, G, D, tk, o⟩ := by
  have hs24 : sizeLine = 16777216 := rfl
  refine' LawAt.intro ?ho ?_
  case ho => k_is
  intro s0 i0
  cases i0
  intro prog A g0 hp G D tk o L fa cd k sl B a0 a1 a2 a3 ws ns rest Q F hsl hns hlen hcA hB ha hg0 q1 q2 q3 q4 hsa next
  have o0 := off_seq F ha.1 rfl
  have o1 := off_seq F ha.2.1 rfl
  have o2 := off_seq F ha.2.2.1 rfl
  have o3 := off_seq F ha.2.2.2 rfl
  have oB := off_seq F hB rfl
  obtain ⟨g, C, gL, S, gk, gh, gn, gg⟩ := F.start [a0, a1, a2, a3] (led4 a0 a1 a2 a3 (⟨[], 0, []⟩, ⟨[], 0, []⟩, ⟨[], 0, []⟩, ⟨[], 0, []⟩)) (fun d hd => by
    simp only [List.mem_cons, List.not_mem_nil, or_false] at hd
    rcases hd with rfl | rfl | rfl | rfl
    · exact hg0.1
    · exact hg0.2.1
    · exact hg0.2.2.1
    · exact hg0.2.2.2) (fun p hp => by
    simp only [led4, List.mem_cons, List.not_mem_nil, or_false] at hp
    rcases hp with rfl | rfl | rfl | rfl
    · exact ⟨ha.1, by simp, o0.l⟩
    · exact ⟨ha.2.1, by simp, o1.l⟩
    · exact ⟨ha.2.2.1, by simp, o2.l⟩
    · exact ⟨ha.2.2.2, by simp, o3.l⟩)
  obtain ⟨oA, eA, cA⟩ := hcA
  have gA : g.get? (L + 1) = some oA := gk _ _ eA (by
    have e0 := o0 1 (by (first | walk_at "om" | lia | omega)); have e1 := o1 1 (by (first | walk_at "om" | lia | omega)); have e2 := o2 1 (by (first | walk_at "om" | lia | omega)); have e3 := o3 1 (by (first | walk_at "om" | lia | omega))
    simp only [List.mem_cons, List.not_mem_nil, or_false, not_or]
    exact ⟨Nat.succ_ne_self L, Ne.symm e0, Ne.symm e1, Ne.symm e2, Ne.symm e3⟩)
  have gB : g.get? B = some (lo [.ref a0, .ref a1, .ref a2, .ref a3] 0) := gk _ _ hB (by
    simp only [List.mem_cons, List.not_mem_nil, or_false, not_or]
    exact ⟨oB.l, ne_gt (Nat.lt_trans q1 (Nat.lt_trans q2 (Nat.lt_trans q3 q4))), ne_gt (Nat.lt_trans q2 (Nat.lt_trans q3 q4)), ne_gt (Nat.lt_trans q3 q4), ne_gt q4⟩)
  have gsl : g.IsList sl ws.toArray := by
    obtain ⟨os, es, cs, ns', ds⟩ := hsl
    refine ⟨os, gk _ _ es ?_, cs, ns', ds⟩
    have os' := off_seq F es ds
    simp only [List.mem_cons, List.not_mem_nil, or_false, not_or]
    exact ⟨os'.l, hsa _ (by simp), hsa _ (by simp), hsa _ (by simp), hsa _ (by simp)⟩
  repeat walk_at "v"
  refine wpAny_mono (Q := fun v s₁ => ∃ l xs nsx h t, v = .ref l ∧ s₁ = ⟨h, G, D, t, o⟩ ∧ St g L h [] ((l, lo xs 0) :: led4 a0 a1 a2 a3 (⟨[], 0, []⟩, ⟨[], 0, []⟩, ⟨[], 0, []⟩, ⟨[], 0, []⟩)) ∧ IntsAre xs nsx ∧ xs.length ≤ 12 ∧ a3 < l) ?_ ?_ (fun _ _ (e : False) => e.elim)
  · refine BoolOp_or ?_
    refine r_lslice ?_ (fun _ _ => rfl)
    repeat walk_at "v"
    refine r_sliceL (g := g) (L := L) none (some 12) (ws.take 12) S (by obtain ⟨os, es, r⟩ := gsl; exact ⟨os, S.keep _ _ es, r⟩) (by (first | walk_at "om" | lia | omega)) .none (.int _ _) (slicePick_uptoAny ws.toArray 12) (fun l h7 S7 l1 l2 => ?_)
    refine r_truthy (S7.mem (.head _)) (by simp; (first | walk_at "om" | lia | omega)) (fun tk7 => ?_)
    with_reducible refine ifs (fun hb => ?_) (fun hb => ?_)
    · exact ⟨l, ws.take 12, ns.take 12, _, _, rfl, rfl, S7.re (kn_sub (kn' := []) trivial), hns.take 12, by simp; (first | walk_at "om" | lia | omega), l1 (a3, lo [] 0) (.tail _ (.tail _ (.tail _ (.head _))))⟩
    · refine BoolOp_one ?_
      repeat walk_at "v"
      refine r_newList S7 (by simp [hs24]) (fun l' h8 S8 l3 l4 l5 => ?_)
      exact ⟨l', _, [2], _, _, rfl, rfl, (S8.re (kn_sub (kn' := []) trivial)).sub _ (by walk_at "sub"), .cons _ _ .nil, by simp, l3 (a3, lo [] 0) (.tail _ (.tail _ (.tail _ (.tail _ (.head _)))))⟩
  · rintro v s₁ ⟨l, xs, nsx, h7, t7, rfl, rfl, S7, hxs, hxl, hBl⟩
    refine r_forList (σ := S4) C.hh S7 gL (S7.mem (.head _)) (fun _ _ => []) (fun _ c => (l, lo xs 0) :: led4 a0 a1 a2 a3 c) (fun i c => c.1.good i ∧ c.2.1.good i ∧ c.2.2.1.good i ∧ c.2.2.2.good i) (⟨[], 0, []⟩, ⟨[], 0, []⟩, ⟨[], 0, []⟩, ⟨[], 0, []⟩) trivial rfl
      ⟨⟨.nil, by simp, by simp⟩, ⟨.nil, by simp, by simp⟩, ⟨.nil, by simp, by simp⟩, ⟨.nil, by simp, by simp⟩⟩ (.inr fun _ _ _ => .head _) (by simp [led4]) ?_ ?_ rfl rfl rfl
    · rintro i ⟨c0, c1, c2, c3⟩ v h8 t8 I oI hv ⟨gd0, gd1, gd2, gd3⟩ S8 hoff hIc
      try dsimp only at gd0 gd1 gd2 gd3 S8 ⊢
      obtain ⟨x, tx, rfl, hx⟩ := hxs.at i v hv
      have hi12 : i < 12 := by have := (List.getElem?_eq_some_iff.mp hv).1; (first | walk_at "om" | lia | omega)
      repeat walk_at "v"
      rename_i tch _ _ _ _ _ _ _ _
      refine r_range (by assumption) (fun r h9 u1 u2 tk9 S9 l9 => ?_)
      refine r_iterRange S9 (S9.mem (.head _)) (by decide) (fun I2 h10 tk10 S10 gI2 IL2 lI2 it2 => ?_)
      have S10' := S10.sub ((l, lo xs 0) :: led4 a0 a1 a2 a3 (c0, c1, c2, c3) ++ [(I, oI)]) (by walk_at "ss")
      refine r_forRI (σ := S4) (g := g) (L := L) (n := 4) C.hh S10' gL it2 gI2 IL2 (fun _ _ => [(Str.ofString "chosen", .int (x / 8 % 16) tch), (Str.ofString "x", .int x tx)]) (fun _ c => (l, lo xs 0) :: led4 a0 a1 a2 a3 c ++ [(I, oI)])
        (fun j c => c.1.good (if j ≤ 0 then i else i + 1) ∧ c.2.1.good (if j ≤ 1 then i else i + 1) ∧ c.2.2.1.good (if j ≤ 2 then i else i + 1) ∧ c.2.2.2.good (if j ≤ 3 then i else i + 1)) (c0, c1, c2, c3) (by walk_at "kn") rfl ⟨gd0, gd1, gd2, gd3⟩ (by simp [led4, hIc]) ?_ ?_ rfl rfl rfl
      · rintro j ⟨d0, d1, d2, d3⟩ h11 t11 u I3 oI3 hj ⟨e0, e1, e2, e3⟩ S11 hoff3 hIc3
        try dsimp only at e0 e1 e2 e3 S11 ⊢
        have hI3 : ∀ p ∈ ((l, lo xs 0) :: led4 a0 a1 a2 a3 (d0, d1, d2, d3)) ++ [(I, oI)], p.1 ≠ I3 := hoff3
        have h01 : a0 ≠ I3 := hI3 (a0, lo d0.av d0.na) (by simp [led4])
        have h11' : a1 ≠ I3 := hI3 (a1, lo d1.av d1.na) (by simp [led4])
        have h21 : a2 ≠ I3 := hI3 (a2, lo d2.av d2.na) (by simp [led4])
        have h31 : a3 ≠ I3 := hI3 (a3, lo d3.av d3.na) (by simp [led4])
        have k01 : a0 ≠ I := hoff (a0, lo c0.av c0.na) (by simp [led4])
        have k11 : a1 ≠ I := hoff (a1, lo c1.av c1.na) (by simp [led4])
        have k21 : a2 ≠ I := hoff (a2, lo c2.av c2.na) (by simp [led4])
        have k31 : a3 ≠ I := hoff (a3, lo c3.av c3.na) (by simp [led4])
        have q12 := Nat.lt_trans q1 q2
        have q23 := Nat.lt_trans q2 q3
        have q13 := Nat.lt_trans q1 q23
        have l0 : a0 < l := Nat.lt_trans q13 hBl
        have l1 : a1 < l := Nat.lt_trans q23 hBl
        have l2 : a2 < l := Nat.lt_trans q3 hBl
        have hm8 : 0 ≤ x % 8 ∧ x % 8 < 8 := by (first | walk_at "om" | lia | omega)
        have menuAt : ∀ k : Nat, k < 8 → ∃ y, menu8[k]? = some y ∧ y ∈ menu8 := fun k hk => ⟨_, List.getElem?_eq_getElem (by simpa [menu8] using hk), List.getElem_mem _⟩
        obtain ⟨m, hm, hm'⟩ : ∃ m : Nat, x % 8 = (m : Int) ∧ m < 8 := ⟨(x % 8).toNat, by (first | walk_at "om" | lia | omega), by (first | walk_at "om" | lia | omega)⟩
        obtain ⟨y, hy, hym⟩ := menuAt m hm'
        have hj4 : j = 0 ∨ j = 1 ∨ j = 2 ∨ j = 3 := by (first | walk_at "om" | lia | omega)
        repeat walk_at "v"
        refine wpAny_If ?_
        refine wpAny_mono (Q := fun (_ : Bool) s => ∃ t, s = ⟨h11, G, D, t, o⟩) ?_ ?_ (fun _ _ (e : False) => e.elim)
        · repeat walk_at "v"
          with_reducible refine ifs (fun hb => ⟨_, rfl⟩) (fun hb => ?_)
          · repeat walk_at "v"
            refine r_pow (by (first | walk_at "om" | lia | omega)) (by (first | walk_at "om" | lia | omega)) (by decide) (fun t12 tk12 => ?_)
            refine r_fdiv ?_ ?_ (fun t13 tk13 => ?_)
            · rcases hj4 with rfl | rfl | rfl | rfl <;> decide
            · rcases hj4 with rfl | rfl | rfl | rfl <;> decide
            repeat walk_at "v"
            with_reducible refine ifs (fun hb => ⟨_, rfl⟩) (fun hb => ?_)
            · repeat walk_at "v"
              exact ⟨_, rfl⟩
        · rintro bt s ⟨t12, rfl⟩
          with_reducible refine ifs (fun _ => ?_) (fun _ => ?_)
          · repeat walk_at "v"
            refine r_item (v := .ref ([a0, a1, a2, a3].getD j 0)) (S11.keep _ _ gB) (by (first | walk_at "om" | lia | omega)) (by (first | walk_at "om" | lia | omega)) (by rcases hj4 with rfl | rfl | rfl | rfl <;> rfl) ?_
            rcases hj4 with rfl | rfl | rfl | rfl
            · refine r_lmeth (l := a0) (vs := d0.av) (n := d0.na) PySem.F.slot_list_append PySem.F.type_list_append (S11.mem (by unfold led4; walk_at "mm")) ?_
              repeat walk_at "v"
              refine r_newTuple S11 (by simp [hs24]) (fun T h12 S12 w1 w2 w3 => ?_)
              repeat walk_at "v"
              obtain ⟨ty, hty⟩ : ∃ ty, ([.str (Str.ofString "a") _, .str (Str.ofString "B") _, .str (Str.ofString "ab") _, .str (Str.ofString "bA") _, .str (Str.ofString "A") _, .str (Str.ofString "") _, .str (Str.ofString "*") _, .str (Str.ofString "a/") _] : List Value)[m]? = some (.str y ty) := StrsAre.at (.cons _ _ (.cons _ _ (.cons _ _ (.cons _ _ (.cons _ _ (.cons _ _ (.cons _ _ (.cons _ _ .nil)))))))) hy
              rw [hm]
              refine r_titem (v := .str y ty) (S12.mem (.head _)) (by (first | walk_at "om" | lia | omega)) (by (first | walk_at "om" | lia | omega)) hty ?_
              repeat walk_at "v"
              refine r_append (l := a0) (vs := d0.av) (n := d0.na) (led := (a1, lo d1.av d1.na) :: (a2, lo d2.av d2.na) :: (a3, lo d3.av d3.na) :: (l, lo xs 0) :: [(I, oI), (I3, oI3)]) (S12.sub _ (by unfold led4; walk_at "sub")) (by walk_at "nn") (by have := (e0).len; simp at this; (first | walk_at "om" | lia | omega)) (fun h13 S13 => ⟨rfl, ?_⟩)
              try dsimp only
              repeat walk_at "v"
              walk_at "x"; refine ForEnd.intro (d0.push y ty, d1, d2, d3) (St.fit _ _ S13 (by walk_at "kn") (by unfold led4; walk_at "sub")) ⟨?_, ?_, ?_, ?_⟩
              · exact SL.good.push (b := i) e0 ty hym
              · exact e1
              · exact e2
              · exact e3
            · refine r_lmeth (l := a1) (vs := d1.av) (n := d1.na) PySem.F.slot_list_append PySem.F.type_list_append (S11.mem (by unfold led4; walk_at "mm")) ?_
              repeat walk_at "v"
              refine r_newTuple S11 (by simp [hs24]) (fun T h12 S12 w1 w2 w3 => ?_)
              repeat walk_at "v"
              obtain ⟨ty, hty⟩ : ∃ ty, ([.str (Str.ofString "a") _, .str (Str.ofString "B") _, .str (Str.ofString "ab") _, .str (Str.ofString "bA") _, .str (Str.ofString "A") _, .str (Str.ofString "") _, .str (Str.ofString "*") _, .str (Str.ofString "a/") _] : List Value)[m]? = some (.str y ty) := StrsAre.at (.cons _ _ (.cons _ _ (.cons _ _ (.cons _ _ (.cons _ _ (.cons _ _ (.cons _ _ (.cons _ _ .nil)))))))) hy
              rw [hm]
              refine r_titem (v := .str y ty) (S12.mem (.head _)) (by (first | walk_at "om" | lia | omega)) (by (first | walk_at "om" | lia | omega)) hty ?_
              repeat walk_at "v"
              refine r_append (l := a1) (vs := d1.av) (n := d1.na) (led := (a0, lo d0.av d0.na) :: (a2, lo d2.av d2.na) :: (a3, lo d3.av d3.na) :: (l, lo xs 0) :: [(I, oI), (I3, oI3)]) (S12.sub _ (by unfold led4; walk_at "sub")) (by walk_at "nn") (by have := (e1).len; simp at this; (first | walk_at "om" | lia | omega)) (fun h13 S13 => ⟨rfl, ?_⟩)
              try dsimp only
              repeat walk_at "v"
              walk_at "x"; refine ForEnd.intro (d0, d1.push y ty, d2, d3) (St.fit _ _ S13 (by walk_at "kn") (by unfold led4; walk_at "sub")) ⟨?_, ?_, ?_, ?_⟩
              · exact e0
              · exact SL.good.push (b := i) e1 ty hym
              · exact e2
              · exact e3
            · refine r_lmeth (l := a2) (vs := d2.av) (n := d2.na) PySem.F.slot_list_append PySem.F.type_list_append (S11.mem (by unfold led4; walk_at "mm")) ?_
              repeat walk_at "v"
              refine r_newTuple S11 (by simp [hs24]) (fun T h12 S12 w1 w2 w3 => ?_)
              repeat walk_at "v"
              obtain ⟨ty, hty⟩ : ∃ ty, ([.str (Str.ofString "a") _, .str (Str.ofString "B") _, .str (Str.ofString "ab") _, .str (Str.ofString "bA") _, .str (Str.ofString "A") _, .str (Str.ofString "") _, .str (Str.ofString "*") _, .str (Str.ofString "a/") _] : List Value)[m]? = some (.str y ty) := StrsAre.at (.cons _ _ (.cons _ _ (.cons _ _ (.cons _ _ (.cons _ _ (.cons _ _ (.cons _ _ (.cons _ _ .nil)))))))) hy
              rw [hm]
              refine r_titem (v := .str y ty) (S12.mem (.head _)) (by (first | walk_at "om" | lia | omega)) (by (first | walk_at "om" | lia | omega)) hty ?_
              repeat walk_at "v"
              refine r_append (l := a2) (vs := d2.av) (n := d2.na) (led := (a0, lo d0.av d0.na) :: (a1, lo d1.av d1.na) :: (a3, lo d3.av d3.na) :: (l, lo xs 0) :: [(I, oI), (I3, oI3)]) (S12.sub _ (by unfold led4; walk_at "sub")) (by walk_at "nn") (by have := (e2).len; simp at this; (first | walk_at "om" | lia | omega)) (fun h13 S13 => ⟨rfl, ?_⟩)
              try dsimp only
              repeat walk_at "v"
              walk_at "x"; refine ForEnd.intro (d0, d1, d2.push y ty, d3) (St.fit _ _ S13 (by walk_at "kn") (by unfold led4; walk_at "sub")) ⟨?_, ?_, ?_, ?_⟩
              · exact e0
              · exact e1
              · exact SL.good.push (b := i) e2 ty hym
              · exact e3
            · refine r_lmeth (l := a3) (vs := d3.av) (n := d3.na) PySem.F.slot_list_append PySem.F.type_list_append (S11.mem (by unfold led4; walk_at "mm")) ?_
              repeat walk_at "v"
              refine r_newTuple S11 (by simp [hs24]) (fun T h12 S12 w1 w2 w3 => ?_)
              repeat walk_at "v"
              obtain ⟨ty, hty⟩ : ∃ ty, ([.str (Str.ofString "a") _, .str (Str.ofString "B") _, .str (Str.ofString "ab") _, .str (Str.ofString "bA") _, .str (Str.ofString "A") _, .str (Str.ofString "") _, .str (Str.ofString "*") _, .str (Str.ofString "a/") _] : List Value)[m]? = some (.str y ty) := StrsAre.at (.cons _ _ (.cons _ _ (.cons _ _ (.cons _ _ (.cons _ _ (.cons _ _ (.cons _ _ (.cons _ _ .nil)))))))) hy
              rw [hm]
              refine r_titem (v := .str y ty) (S12.mem (.head _)) (by (first | walk_at "om" | lia | omega)) (by (first | walk_at "om" | lia | omega)) hty ?_
              repeat walk_at "v"
              refine r_append (l := a3) (vs := d3.av) (n := d3.na) (led := (a0, lo d0.av d0.na) :: (a1, lo d1.av d1.na) :: (a2, lo d2.av d2.na) :: (l, lo xs 0) :: [(I, oI), (I3, oI3)]) (S12.sub _ (by unfold led4; walk_at "sub")) (by walk_at "nn") (by have := (e3).len; simp at this; (first | walk_at "om" | lia | omega)) (fun h13 S13 => ⟨rfl, ?_⟩)
              try dsimp only
              repeat walk_at "v"
              walk_at "x"; refine ForEnd.intro (d0, d1, d2, d3.push y ty) (St.fit _ _ S13 (by walk_at "kn") (by unfold led4; walk_at "sub")) ⟨?_, ?_, ?_, ?_⟩
              · exact e0
              · exact e1
              · exact e2
              · exact SL.good.push (b := i) e3 ty hym
          · repeat walk_at "v"
            walk_at "x"; refine ForEnd.intro (d0, d1, d2, d3) (St.fit _ _ S11 (by walk_at "kn") (fun _ h => h)) ?_
            have up : ∀ (e : SL) (m : Nat), e.good (if j ≤ m then i else i + 1) → e.good (if j + 1 ≤ m then i else i + 1) := fun e m h => by
              by_cases q : j + 1 ≤ m
              · rw [if_pos q]; rw [if_pos (by (first | walk_at "om" | lia | omega))] at h; exact h
              · rw [if_neg q]
                by_cases q' : j ≤ m
                · rw [if_pos q'] at h; exact h.up
                · rw [if_neg q'] at h; exact h
            exact ⟨up _ 0 e0, up _ 1 e1, up _ 2 e2, up _ 3 e3⟩
      · rintro ⟨d0, d1, d2, d3⟩ h11 t11 ⟨e0, e1, e2, e3⟩ S11
        try dsimp only at e0 e1 e2 e3 S11 ⊢
        repeat walk_at "v"
        walk_at "x"; exact ForEnd.intro (d0, d1, d2, d3) (St.fit _ _ S11 (by walk_at "kn") (fun _ h => h)) ⟨e0, e1, e2, e3⟩
    · rintro ⟨d0, d1, d2, d3⟩ h11 t11 ⟨e0, e1, e2, e3⟩ S11
      try dsimp only at e0 e1 e2 e3 S11 ⊢
      have K := S11.kb gk
      have up : ∀ (n : Nat) (e : SL), n ≤ 12 → e.good n → e.good 12 := fun n e hn h => ⟨h.sa, Nat.le_trans h.len hn, h.menu⟩
      walk_at "x"; refine next h11 t11 (d0, d1, d2, d3) (F.next K S11.ns (fun d hd => ?_) (fun i' h1 h4 hm => ?_)) K (fun p hp => S11.mem (.tail _ hp)) (up _ _ hxl e0) (up _ _ hxl e1) (up _ _ hxl e2) (up _ _ hxl e3)
      · simp only [List.mem_cons, List.not_mem_nil, or_false] at hd
        rcases hd with rfl | rfl | rfl | rfl
        · exact hg0.1
        · exact hg0.2.1
        · exact hg0.2.2.1
        · exact hg0.2.2.2
      · simp only [List.mem_cons, List.not_mem_nil, or_false] at hm
        rcases hm with e | e | e | e
        · exact absurd e.symm (o0 i' h4)
        · exact absurd e.symm (o1 i' h4)
        · exact absurd e.symm (o2 i' h4)
        · exact absurd e.symm (o3 i' h4)
end
section
set_option maxRecDepth 100000
set_option maxHeartbeats 0
-- a record with what it bears
set_option genInjectivity false in
set_option genSizeOf false in
structure RS where
  x : Addr
  d : Addr
  p : Addr
  r : Addr
  t1 : Tok
  t2 : Tok
  t3 : Tok
  t4 : Tok
  n : Nat
  na : Nat
  nr : Nat
  vs : List Value
  rs : List Value
  ys : List Str
  zs : List Int
noncomputable def RS.led (w : World) (e : RS) : Led := [(e.x, instObj 76 e.d), (e.d, dictOf (ent w e.t1 e.t2 e.t3 e.t4 (.ref e.p) (.ref e.r) .none .none) e.n), (e.p, lo e.vs e.na), (e.r, lo e.rs e.nr)]
noncomputable def RS.leds (w : World) (es : List RS) : Led := es.flatMap (RS.led w)
noncomputable def RS.refs (es : List RS) : List Value := es.map fun e => .ref e.x
structure RS.ok (b : Nat) (e : RS) : Prop where
  sa : StrsAre e.vs e.ys
  ia : IntsAre e.rs e.zs
  len : e.vs.length ≤ 12
  rlen : e.rs.length ≤ b
noncomputable def RS.en (e : RS) : En := (e.ys, e.zs)
theorem RS.leds_snoc (w : World) (es : List RS) (e : RS) : RS.leds w (es ++ [e]) = RS.leds w es ++ e.led w := by simp [RS.leds]
theorem RS.refs_snoc (es : List RS) (e : RS) : RS.refs (es ++ [e]) = RS.refs es ++ [.ref e.x] := by simp [RS.refs]
theorem RS.mem {w : World} {es : List RS} {e : RS} (he : e ∈ es) {p : Addr × Obj} (hp : p ∈ e.led w) : p ∈ RS.leds w es := List.mem_flatMap.mpr ⟨e, he, hp⟩
theorem RS.cls {w : World} {es : List RS} {c : String} (hc : c = "range_iterator" ∨ c = "list_iterator") : ∀ p ∈ RS.leds w es, p.2.cls ≠ .type c := fun p hp => by
  obtain ⟨e, he, hp⟩ := List.mem_flatMap.mp hp
  simp only [RS.led, List.mem_cons, List.not_mem_nil, or_false] at hp
  rcases hc with rfl | rfl <;> rcases hp with rfl | rfl | rfl | rfl <;> simp [instObj, dictOf]
theorem RS.at {w : World} {g h : Heap} {L : Addr} {kn : Kns} {led : Led} {es : List RS} {e : RS} (S : St g L h kn led) (hs : ∀ p ∈ RS.leds w es, p ∈ led) (he : e ∈ es) : Rec w h e.x e.d e.p e.r e.t1 e.t2 e.t3 e.t4 e.n e.vs e.na e.rs e.nr :=
  ⟨S.mem (hs _ (RS.mem he (.head _))), S.mem (hs _ (RS.mem he (.tail _ (.head _)))), S.mem (hs _ (RS.mem he (.tail _ (.tail _ (.head _))))), S.mem (hs _ (RS.mem he (.tail _ (.tail _ (.tail _ (.head _))))))⟩
section
variable {prog : Program} {w : World} {M : Model} {A : Around} {E : Value → Shared → Prop} {hp g : Heap} {G : Array GenState} {D : Drawn} {tk : Nat} {o : OsState} {L : Addr} {kn : Kns} {led : Led}
theorem r_extend {l b : Addr} {vs ws : List Value} {n m : Nat} {Q : Value → Shared → Prop} (S : St g L hp kn ((l, lo vs n) :: led)) (hne : ∀ p ∈ led, p.1 ≠ l) (hb : hp.get? b = some (lo ws m)) (hz : vs.length + ws.length ≤ 10000)
    (h : ∀ h' n', St g L h' kn ((l, lo (vs ++ ws) n') :: led) → Q .none ⟨h', G, D, tk, o⟩) : wpAny (model prog w) A (call (.builtin "list.extend") [.ref l, .ref b]) Q E ⟨hp, G, D, tk, o⟩ := by
  have hs24 : sizeLine = 16777216 := rfl
  have ho := S.mem (.head _)
  refine call_meets PySem.F.slot_list_extend ⟨_, ho, rfl⟩ PySem.F.entry_list_extend (PySem.F.args_list_extend_2 _ _) (AutoSeq1.list_extend_list_list_0 l vs.toArray n b ws.toArray m (extend_door (by simp; (first | walk_at "om" | omega))) (by simp; (first | walk_at "om" | omega)) (by simp; (first | walk_at "om" | omega))) ⟨ho, hb, ?_⟩
  obtain ⟨c, hc⟩ : ∃ c, (hp.update l (Obj.mapSeq fun x => x ++ ws.toArray)).get? l = some (seqObj "list" (vs.toArray ++ ws.toArray) c) := ⟨_, get?_update_seq ho fun x => x ++ ws.toArray⟩
  exact h _ c (S.set (Heap.SameBut.update ..) (by rw [hc]; simp) hne)
end
noncomputable def as4 (a0 a1 a2 a3 : Addr) : List Addr := [a0, a1, a2, a3]
noncomputable def cs4 (c : S4) : List SL := [c.1, c.2.1, c.2.2.1, c.2.2.2]
noncomputable def slD : SL := ⟨[], 0, []⟩
end
section
set_option maxRecDepth 100000
set_option maxHeartbeats 0
theorem seg23 (w : World) : LawAt w fun body scope qual => ∀ s0 s1, body[2]? = some s0 → body[3]? = some s1 → ∀ {prog A g0 hp G D tk o L fa cd k B a0 a1 a2 a3} {c : S4} {rest : List Stmt} {Q : Flow → Shared → Prop},
    Fz w A (k + 3) g0 L hp [] → hp.IsCell (L + 1) (some (.ref B)) → hp.get? B = some (lo [.ref a0, .ref a1, .ref a2, .ref a3] 0) → (∀ p ∈ led4 a0 a1 a2 a3 c, hp.get? p.1 = some p.2) → (∀ e ∈ cs4 c, e.good 12) →
    (∀ (hp' : Heap) (tk' : Nat) (R : Addr) (nR : Nat) (es : List RS), Fz w A (k + 3) g0 L hp' [(Str.ofString "records", .ref R)] → KB [L] hp hp' → hp.get? R = none → hp'.get? R = some (lo (RS.refs es) nR) → (∀ p ∈ RS.leds w es, hp'.get? p.1 = some p.2 ∧ p.1 ≠ R ∧ hp.get? p.1 = none) → es.length = 4 →
        (∀ j e, es[j]? = some e → e.ok 1 ∧ e.ys = ((cs4 c).getD j slD).ys ∧ e.zs = [(j : Int)]) →
      wpAny (model prog w) A (execs rest (envOfC qual scope L fa cd)) Q NoE ⟨hp', G, D, tk', o⟩) →
    wpAny (model prog w) A (execs (s0 :: s1 :: rest) (envOfC qual scope L fa cd)) Q NoE ⟨hp, G, D, tk, o⟩ := by
  have hs24 : sizeLine = 16777216 := rfl
  refine' LawAt.intro ?ho ?_
  case ho => k_is
  intro s0 s1 i0 i1
  cases i0; cases i1
  intro prog A g0 hp G D tk o L fa cd k B a0 a1 a2 a3 c rest Q F hcA hB ha hgd next
  obtain ⟨g, C, gL, S, gk, gh, gn, gg⟩ := F.start [] [] (by simp) (by simp)
  have gka : ∀ b o, hp.get? b = some o → b ≠ L → g.get? b = some o := fun b o e n => gk b o e (by simpa using n)
  obtain ⟨oA, eA, cA⟩ := hcA
  have gA : g.get? (L + 1) = some oA := gka _ _ eA (Nat.succ_ne_self L)
  have gB := gka _ _ hB (off_seq F hB rfl).l
  have hac : ∀ j : Nat, j < 4 → g.get? ((as4 a0 a1 a2 a3).getD j 0) = some (lo ((cs4 c).getD j slD).av ((cs4 c).getD j slD).na) := by
    intro j hj
    have h4 : j = 0 ∨ j = 1 ∨ j = 2 ∨ j = 3 := by (first | walk_at "om" | omega)
    rcases h4 with rfl | rfl | rfl | rfl
    · have e := ha (a0, _) (.head _); exact gka _ _ e (off_seq F e rfl).l
    · have e := ha (a1, _) (.tail _ (.head _)); exact gka _ _ e (off_seq F e rfl).l
    · have e := ha (a2, _) (.tail _ (.tail _ (.head _))); exact gka _ _ e (off_seq F e rfl).l
    · have e := ha (a3, _) (.tail _ (.tail _ (.tail _ (.head _)))); exact gka _ _ e (off_seq F e rfl).l
  repeat walk_at "v"
  refine r_newList S (by simp [hs24]) (fun R h1 S1 b1 b2 b3 => ?_)
  repeat walk_at "v"
  refine r_range (by assumption) (fun r h2 u1 u2 tk2 S2 l2 => ?_)
  refine r_iterRange S2 (S2.mem (.head _)) (by decide) (fun I h3 tk3 S3 gI IL lI it => ?_)
  have S3' := S3.sub [(R, lo [] 0)] (by walk_at "ss")
  refine r_forRI (σ := List RS × Nat) (g := g) (L := L) (n := 4) C.hh S3' gL it gI IL (fun _ _ => [(Str.ofString "records", .ref R)]) (fun _ c => (R, lo (RS.refs c.1) c.2) :: RS.leds w c.1)
    (fun j d => d.1.length = j ∧ (∀ p ∈ RS.leds w d.1, p.1 ≠ R) ∧ ∀ j e, d.1[j]? = some e → e.ok 1 ∧ e.ys = ((cs4 c).getD j slD).ys ∧ e.zs = [(j : Int)]) ([], 0) (by walk_at "kn") rfl ⟨rfl, by simp [RS.leds], by simp⟩ ?_ ?_ ?_ rfl rfl rfl
  · rintro j ⟨es, n⟩ ⟨p1, p2, p3⟩ p hp
    rcases List.mem_cons.mp hp with rfl | hp
    · simp
    · exact RS.cls (.inl rfl) p hp
  · rintro j ⟨es, n⟩ h4 t4 u I' oI hj ⟨p1, p2, p3⟩ S4 hoff hIc
    try dsimp only at p1 p2 p3 S4 ⊢
    repeat walk_at "v"
    refine r_lmeth PySem.F.slot_list_append PySem.F.type_list_append (S4.mem (.head _)) ?_
    repeat walk_at "v"
    refine r_entry (k := k + 1) C (by assumption) (fun x dx l1 l2 s1 s2 s3 s4 en h5 tk5 S5 e1 e2 e3 e4 e5 e6 e7 e8 e9 => ?_)
    have qR : R < dx := e1 _ (.head _)
    have qRx : R < x := Nat.lt_trans qR e2
    have qR1 : R ≠ l1 := e3 _ (.head _)
    have qR2 : R ≠ l2 := e4 _ (.head _)
    have qRI : R ≠ I' := hoff _ (.head _)
    have hsx : ∀ p ∈ RS.leds w es, p.1 < dx := fun p hp => e1 p (List.mem_append_left _ (.tail _ hp))
    have hs1 : ∀ p ∈ RS.leds w es, p.1 ≠ l1 := fun p hp => e3 p (List.mem_append_left _ (.tail _ hp))
    have hs2 : ∀ p ∈ RS.leds w es, p.1 ≠ l2 := fun p hp => e4 p (List.mem_append_left _ (.tail _ hp))
    have hI1 : I' ≠ l1 := e3 _ (List.mem_append_right _ (.head _))
    have hI2 : I' ≠ l2 := e4 _ (List.mem_append_right _ (.head _))
    repeat walk_at "v"
    refine r_append (l := R) (vs := RS.refs es) (n := n) (led := (x, instObj 76 dx) :: (dx, dictOf (ent w s1 s2 s3 s4 (.ref l1) (.ref l2) .none .none) en) :: (l1, lo [] 0) :: (l2, lo [] 0) :: (RS.leds w es ++ [(I', oI)])) (S5.sub _ (by walk_at "sub")) (by walk_at "nn") (by simp [RS.refs]; (first | walk_at "om" | omega)) (fun h6 S6 => ⟨rfl, ?_⟩)
    try dsimp only
    repeat walk_at "v"
    refine r_item (v := .ref x) (S6.mem (.head _)) (by (first | walk_at "om" | omega)) (by (first | walk_at "om" | omega)) (by
      have : (0 + (j : Int) * 1).toNat = j := by (first | walk_at "om" | omega)
      rw [this, List.getElem?_append_right (by simp [RS.refs, p1])]
      simp [RS.refs, p1]) ?_
    walk_at "get"
    have hj4 : (0 + (j : Int) * 1).toNat = j := by (first | walk_at "om" | omega)
    have hgj : (cs4 c).getD j slD ∈ cs4 c := by
      have : j < (cs4 c).length := by simpa [cs4] using hj
      simp only [List.getD, List.getElem?_eq_getElem this, Option.getD_some]
      exact List.getElem_mem _
    have hgood := hgd _ hgj
    have hgl := hgood.len
    refine r_lmeth PySem.F.slot_list_extend PySem.F.type_list_extend (S6.mem (by walk_at "mm")) ?_
    repeat walk_at "v"
    refine r_item (v := .ref ((as4 a0 a1 a2 a3).getD j 0)) (S6.keep _ _ gB) (by (first | walk_at "om" | omega)) (by (first | walk_at "om" | omega)) (by
      rw [hj4]
      have h4 : j = 0 ∨ j = 1 ∨ j = 2 ∨ j = 3 := by (first | walk_at "om" | omega)
      rcases h4 with rfl | rfl | rfl | rfl <;> rfl) ?_
    repeat walk_at "v"
    refine r_extend (l := l1) (vs := []) (n := 0) (led := (R, lo (RS.refs es ++ [.ref x]) (n + 1)) :: (x, instObj 76 dx) :: (dx, dictOf (ent w s1 s2 s3 s4 (.ref l1) (.ref l2) .none .none) en) :: (l2, lo [] 0) :: (RS.leds w es ++ [(I', oI)])) (S6.sub _ (by walk_at "sub")) (by walk_at "nn") (S6.keep _ _ (hac j (by (first | walk_at "om" | omega)))) (by rw [List.length_nil]; (first | walk_at "om" | omega)) (fun h7 n7 S7 => ⟨rfl, ?_⟩)
    rw [List.nil_append] at S7
    try dsimp only
    repeat walk_at "v"
    refine r_item (v := .ref x) (S7.mem (by walk_at "mm")) (by (first | walk_at "om" | omega)) (by (first | walk_at "om" | omega)) (by
      rw [hj4, List.getElem?_append_right (by simp [RS.refs, p1])]
      simp [RS.refs, p1]) ?_
    walk_at "get"
    refine r_lmeth PySem.F.slot_list_append PySem.F.type_list_append (S7.mem (by walk_at "mm")) ?_
    repeat walk_at "v"
    refine r_append (l := l2) (vs := []) (n := 0) (led := (R, lo (RS.refs es ++ [.ref x]) (n + 1)) :: (x, instObj 76 dx) :: (dx, dictOf (ent w s1 s2 s3 s4 (.ref l1) (.ref l2) .none .none) en) :: (l1, lo ((cs4 c).getD j slD).av n7) :: (RS.leds w es ++ [(I', oI)])) (S7.sub _ (by walk_at "sub")) (by walk_at "nn") (by simp) (fun h8 S8 => ⟨rfl, ?_⟩)
    try dsimp only
    repeat walk_at "v"
    have hz : (0 + (j : Int) * 1) = (j : Int) := by (first | walk_at "om" | omega)
    walk_at "x"; refine ForEnd.intro (es ++ [⟨x, dx, l1, l2, s1, s2, s3, s4, en, n7, 1, ((cs4 c).getD j slD).av, [.int (0 + (j : Int) * 1) u], ((cs4 c).getD j slD).ys, [(j : Int)]⟩], n + 1) (St.fit _ _ S8 (by walk_at "kn") ?_) ⟨by simp [p1], ?_, ?_⟩
    · try dsimp only
      rw [RS.leds_snoc, RS.refs_snoc]
      unfold RS.led
      walk_at "sub"
    · try dsimp only
      rw [RS.leds_snoc]
      unfold RS.led
      walk_at "nn"
    · intro j' e he
      rcases Nat.lt_or_ge j' es.length with hlt | hge
      · rw [List.getElem?_append_left hlt] at he
        exact p3 j' e he
      · have hj1 := (List.getElem?_eq_some_iff.mp he).1
        have hjj : j' = j := by simp at hj1; (first | walk_at "om" | omega)
        subst hjj
        rw [List.getElem?_append_right hge, p1] at he
        simp at he
        subst he
        have h0 : ([.int (j' : Int) u] : List Value).length ≤ 1 := by simp
        exact ⟨⟨hgood.sa, .cons _ _ .nil, hgl, h0⟩, rfl, rfl⟩
  · rintro ⟨es, n⟩ h4 t4 ⟨p1, p2, p3⟩ S4
    try dsimp only at p1 p2 p3 S4 ⊢
    have K := S4.kb gk
    walk_at "x"; refine next h4 t4 R n es (F.next K S4.ns (by simp) (fun _ _ _ h => by simp at h)) K (S4.fresh gk (.head _) (by simpa using ne_gt b2)) (S4.mem (.head _)) (fun p hp => ⟨S4.mem (.tail _ hp), p2 p hp, S4.fresh gk (.tail _ hp) (by simpa using (S4.nw p (.tail _ hp)).2.2)⟩) p1 p3
end
section
set_option maxRecDepth 100000
set_option maxHeartbeats 0
section
variable {α β : Type} {lt : α → α → Bool} {lt' : β → β → Bool} (f : α → β) (hlt : ∀ a b, lt' (f a) (f b) = lt a b)
include hlt
theorem pick_map (vs : List α) (c : Nat) : pick lt' (vs.map f) c = pick lt vs c := by
  unfold pick
  rw [List.getElem?_map, List.getElem?_map]
  cases vs[c]? with
  | none => rfl
  | some a =>
    cases vs[c + 1]? with
    | none => rfl
    | some b => simp only [Option.map]; rw [hlt]
theorem sul_map : ∀ (n : Nat) (vs : List α) (pos : Nat), sul lt' n (vs.map f) pos = ((sul lt n vs pos).1.map f, (sul lt n vs pos).2)
  | 0, _, _ => rfl
  | n + 1, vs, pos => by
    unfold sul
    rw [pick_map f hlt, List.getElem?_map]
    cases vs[pick lt vs (2 * pos + 1)]? with
    | none => rfl
    | some x =>
      dsimp only [Option.map]
      rw [← List.map_set]
      exact sul_map n _ _
theorem sup_map (vs : List α) (pos : Nat) : sup lt' (vs.map f) pos = (sup lt vs pos).map f := by
  unfold sup
  rw [List.getElem?_map]
  cases vs[pos]? with
  | none => rfl
  | some it =>
    dsimp only [Option.map]
    rw [List.length_map, sul_map f hlt, sdown_map f hlt, List.map_set]
theorem hpop_map (us : List α) (last : α) : hpop lt' (us.map f) (f last) = (f (hpop lt us last).1, (hpop lt us last).2.map f) := by
  unfold hpop
  cases us with
  | nil => rfl
  | cons x r =>
    dsimp only [List.map]
    rw [← sup_map f hlt, List.map_set]
    rfl
end
noncomputable def heapB {α : Type} (lt : α → α → Bool) (l : List α) : Bool := (List.range l.length).all fun i => match l[i]?, l[(i - 1) / 2]? with
  | some x, some y => i == 0 || !lt x y
  | _, _ => true
noncomputable def lessAll {α : Type} (lt : α → α → Bool) (x : α) (l : List α) : Bool := l.all fun y => lt x y
noncomputable def goodFy (lt : Nat → Nat → Bool) : Bool := !trans4 4 lt || ((sup lt (sup lt [0, 1, 2, 3] 1) 0).isPerm [0, 1, 2, 3] && heapB lt (sup lt (sup lt [0, 1, 2, 3] 1) 0))
noncomputable def goodPop (n : Nat) (lt : Nat → Nat → Bool) : Bool := !(trans4 n lt && heapB lt (List.range n)) || (let r := hpop lt (List.range (n - 1)) (n - 1); (r.1 :: r.2).isPerm (List.range n) && lessAll lt r.1 r.2 && heapB lt r.2)
noncomputable def goodPush (n : Nat) (lt : Nat → Nat → Bool) : Bool := !(trans4 n lt && heapB lt (List.range (n - 1))) || (let r := sdown lt 0 (List.range n) (n - 1); r.isPerm (List.range n) && heapB lt r)
theorem good_fy : ∀ a b c d e f, goodFy (tab4 a b c d e f) = true := by decide +kernel
theorem good_pop : ∀ a b c d e f, goodPop 1 (tab4 a b c d e f) = true ∧ goodPop 2 (tab4 a b c d e f) = true ∧ goodPop 3 (tab4 a b c d e f) = true ∧ goodPop 4 (tab4 a b c d e f) = true := by decide +kernel
theorem good_push : ∀ a b c d e f, goodPush 1 (tab4 a b c d e f) = true ∧ goodPush 2 (tab4 a b c d e f) = true ∧ goodPush 3 (tab4 a b c d e f) = true := by decide +kernel
section
variable {α : Type} {lt lt' : α → α → Bool} {S : α → Prop} (he : ∀ x y, S x → S y → lt x y = lt' x y)
include he
theorem sdl_ext {sp : Nat} {item : α} (hi : S item) : ∀ (n : Nat) (vs : List α) (pos : Nat), (∀ v ∈ vs, S v) → sdl lt sp item n vs pos = sdl lt' sp item n vs pos
  | 0, _, _, _ => rfl
  | n + 1, vs, pos, hv => by
    unfold sdl
    split
    · cases q : vs[(pos - 1) / 2]? with
      | none => rfl
      | some p =>
        have hp := hv p (List.mem_of_getElem? q)
        try dsimp only
        rw [he item p hi hp]
        split
        · exact sdl_ext hi n _ _ fun v hv' => (List.mem_or_eq_of_mem_set hv').elim (hv v) (fun e => e ▸ hp)
        · rfl
    · rfl
theorem sdown_ext {sp : Nat} (vs : List α) (pos : Nat) (hv : ∀ v ∈ vs, S v) : sdown lt sp vs pos = sdown lt' sp vs pos := by
  unfold sdown
  cases q : vs[pos]? with
  | none => rfl
  | some it => exact sdl_ext he (hv it (List.mem_of_getElem? q)) _ _ _ hv
theorem pick_ext (vs : List α) (c : Nat) (hv : ∀ v ∈ vs, S v) : pick lt vs c = pick lt' vs c := by
  unfold pick
  cases q : vs[c]? with
  | none => rfl
  | some a =>
    cases q' : vs[c + 1]? with
    | none => rfl
    | some b => dsimp only; rw [he a b (hv a (List.mem_of_getElem? q)) (hv b (List.mem_of_getElem? q'))]
theorem sul_ext : ∀ (n : Nat) (vs : List α) (pos : Nat), (∀ v ∈ vs, S v) → sul lt n vs pos = sul lt' n vs pos
  | 0, _, _, _ => rfl
  | n + 1, vs, pos, hv => by
    unfold sul
    rw [pick_ext he vs _ hv]
    cases q : vs[pick lt' vs (2 * pos + 1)]? with
    | none => rfl
    | some x =>
      have hx := hv x (List.mem_of_getElem? q)
      try dsimp only
      exact sul_ext n _ _ fun v hv' => (List.mem_or_eq_of_mem_set hv').elim (hv v) (fun e => e ▸ hx)
theorem sup_ext (vs : List α) (pos : Nat) (hv : ∀ v ∈ vs, S v) : sup lt vs pos = sup lt' vs pos := by
  unfold sup
  cases q : vs[pos]? with
  | none => rfl
  | some it =>
    have hx := hv it (List.mem_of_getElem? q)
    try dsimp only
    rw [sul_ext he _ _ _ hv]
    refine sdown_ext he _ _ fun v hv' => ?_
    rcases List.mem_or_eq_of_mem_set hv' with h | h
    · exact hv v (sul_mem _ _ _ v h)
    · exact h ▸ hx
theorem hpop_ext (us : List α) (last : α) (hv : ∀ v ∈ us, S v) (hl : S last) : hpop lt us last = hpop lt' us last := by
  unfold hpop
  cases us with
  | nil => rfl
  | cons x r =>
    try dsimp only
    rw [sup_ext he _ _ fun v hv' => (List.mem_or_eq_of_mem_set hv').elim (hv v) (fun e => e ▸ hl)]
end
theorem heapB_ext {lt lt' : Nat → Nat → Bool} {n : Nat} (he : ∀ i j, i < n → j < n → lt i j = lt' i j) (l : List Nat) (hl : ∀ x ∈ l, x < n) : heapB lt l = heapB lt' l := by
  unfold heapB
  congr 1
  funext i
  cases q : l[i]? with
  | none => rfl
  | some x =>
    cases q' : l[(i - 1) / 2]? with
    | none => rfl
    | some y => dsimp only; rw [he x y (hl x (List.mem_of_getElem? q)) (hl y (List.mem_of_getElem? q'))]
theorem heapB_map {α β : Type} {lt : α → α → Bool} {lt' : β → β → Bool} (f : α → β) (hlt : ∀ a b, lt' (f a) (f b) = lt a b) (l : List α) : heapB lt' (l.map f) = heapB lt l := by
  unfold heapB
  rw [List.length_map]
  congr 1
  funext i
  rw [List.getElem?_map, List.getElem?_map]
  cases l[i]? with
  | none => rfl
  | some x =>
    cases l[(i - 1) / 2]? with
    | none => rfl
    | some y => simp only [Option.map]; rw [hlt]
/-- a table of four keys -/
theorem tab_of {n : Nat} (hn : n ≤ 4) (f : Nat → Nat) (hf : ∀ i j, i < n → j < n → i ≠ j → f i ≠ f j) : ∃ a b c d e g, (∀ i j, i < n → j < n → decide (f i < f j) = tab4 a b c d e g i j) ∧ trans4 n (tab4 a b c d e g) = true := by
  let L := fun i j => decide (f i < f j)
  have key : ∀ i j, i < n → j < n → L i j = tab4 (L 0 1) (L 0 2) (L 0 3) (L 1 2) (L 1 3) (L 2 3) i j := tab_key hn f hf
  refine ⟨_, _, _, _, _, _, key, ?_⟩
  unfold trans4
  simp only [List.all_eq_true, List.mem_range]
  intro i hi j hj k hk'
  rw [← key i j hi hj, ← key j k hj hk', ← key i k hi hk']
  show (!(decide (f i < f j) && decide (f j < f k)) || decide (f i < f k)) = true
  by_cases q1 : f i < f j <;> by_cases q2 : f j < f k <;> simp [q1, q2]
  (first | walk_at "om" | lia | omega)
/-- the order by a code -/
noncomputable def ltC {α : Type} (code : α → Nat) (a b : α) : Bool := decide (code a < code b)
section
variable {α : Type} {code : α → Nat}
theorem inj_of {us : List α} (d : α) (hn : (us.map code).Nodup) : ∀ i j, i < us.length → j < us.length → i ≠ j → code (us.getD i d) ≠ code (us.getD j d) := by
  intro i j hi hj hij q
  simp only [List.getD, List.getElem?_eq_getElem hi, List.getElem?_eq_getElem hj, Option.getD_some] at q
  exact hij ((List.getElem_inj (h₀ := by simpa using hi) (h₁ := by simpa using hj) hn (i := i) (j := j)).mp (by simpa using q))
theorem range_map (us : List α) (d : α) : (List.range us.length).map (fun i => us.getD i d) = us := by
  apply List.ext_getElem
  · simp
  · intro i h1 h2; simp [List.getD, h2]
theorem pop_good {us : List α} {last : α} (hl : us.length ≤ 3) (hn : ((us ++ [last]).map code).Nodup) (hh : heapB (ltC code) (us ++ [last]) = true) :
    ((hpop (ltC code) us last).1 :: (hpop (ltC code) us last).2).Perm (us ++ [last]) ∧ (∀ y ∈ (hpop (ltC code) us last).2, code (hpop (ltC code) us last).1 < code y) ∧ heapB (ltC code) (hpop (ltC code) us last).2 = true := by
  let n := us.length + 1
  let F : Nat → α := fun i => (us ++ [last]).getD i last
  have hlen : (us ++ [last]).length = n := by simp [n]
  have hF : (List.range n).map F = us ++ [last] := by rw [← hlen]; exact range_map _ _
  have hFl : F us.length = last := by simp [F]
  have hFu : (List.range us.length).map F = us := by
    have h2 : (List.range us.length).map F ++ [F us.length] = us ++ [last] := by rw [← hF]; simp [n, List.range_succ]
    rw [hFl] at h2
    exact List.append_cancel_right h2
  obtain ⟨a, b, c, d, e, g, key, htr⟩ := tab_of (n := n) (by (first | walk_at "om" | lia | omega)) (fun i => code (F i)) (fun i j hi hj hij => by
    rw [← hlen] at hi hj; exact inj_of last hn i j hi hj hij)
  let T := fun i j => ltC code (F i) (F j)
  have hT : ∀ i j, i < n → j < n → T i j = tab4 a b c d e g i j := key
  have e1 : hpop (ltC code) us last = (F (hpop T (List.range us.length) us.length).1, (hpop T (List.range us.length) us.length).2.map F) := by
    have := hpop_map (lt := T) (lt' := ltC code) F (fun _ _ => rfl) (List.range us.length) us.length
    rw [hFu, hFl] at this
    exact this
  have e2 : hpop T (List.range us.length) us.length = hpop (tab4 a b c d e g) (List.range us.length) us.length :=
    hpop_ext (S := fun i => i < n) (fun x y hx hy => hT x y hx hy) _ _ (fun v hv => Nat.lt_succ_of_lt (List.mem_range.mp hv)) (Nat.lt_succ_self _)
  have hh' : heapB (tab4 a b c d e g) (List.range n) = true := by
    rw [← heapB_ext hT _ (fun x hx => List.mem_range.mp hx), ← heapB_map F (fun _ _ => rfl), hF]; exact hh
  have hg : goodPop n (tab4 a b c d e g) = true := by
    have := good_pop a b c d e g
    have hn4 : n = 1 ∨ n = 2 ∨ n = 3 ∨ n = 4 := by (first | walk_at "om" | lia | omega)
    rcases hn4 with q | q | q | q <;> rw [q]
    · exact this.1
    · exact this.2.1
    · exact this.2.2.1
    · exact this.2.2.2
  unfold goodPop at hg
  rw [htr, hh', Bool.and_self, Bool.not_true, Bool.false_or, Bool.and_eq_true, Bool.and_eq_true, show n - 1 = us.length from rfl, ← e2] at hg
  obtain ⟨⟨g1, g2⟩, g3⟩ := hg
  have hp := List.isPerm_iff.mp g1
  have hmem : ∀ x ∈ (hpop T (List.range us.length) us.length).1 :: (hpop T (List.range us.length) us.length).2, x < n := fun x hx => List.mem_range.mp (hp.mem_iff.mp hx)
  rw [e1]
  refine ⟨?_, fun y hy => ?_, ?_⟩
  · have := hp.map F
    rw [hF] at this
    exact this
  · obtain ⟨i, hi, rfl⟩ := List.mem_map.mp hy
    have := List.all_eq_true.mp g2 i hi
    rw [← hT _ _ (hmem _ (.head _)) (hmem _ (.tail _ hi))] at this
    exact of_decide_eq_true this
  · rw [heapB_map F (lt := T) (fun _ _ => rfl), heapB_ext hT _ (fun x hx => hmem x (.tail _ hx))]
    exact g3
theorem push_good {us : List α} {v : α} (hl : us.length ≤ 2) (hn : ((us ++ [v]).map code).Nodup) (hh : heapB (ltC code) us = true) :
    (sdown (ltC code) 0 (us ++ [v]) us.length).Perm (us ++ [v]) ∧ heapB (ltC code) (sdown (ltC code) 0 (us ++ [v]) us.length) = true := by
  let n := us.length + 1
  let F : Nat → α := fun i => (us ++ [v]).getD i v
  have hlen : (us ++ [v]).length = n := by simp [n]
  have hF : (List.range n).map F = us ++ [v] := by rw [← hlen]; exact range_map _ _
  have hFl : F us.length = v := by simp [F]
  have hFu : (List.range us.length).map F = us := by
    have h2 : (List.range us.length).map F ++ [F us.length] = us ++ [v] := by rw [← hF]; simp [n, List.range_succ]
    rw [hFl] at h2
    exact List.append_cancel_right h2
  obtain ⟨a, b, c, d, e, g, key, htr⟩ := tab_of (n := n) (by (first | walk_at "om" | lia | omega)) (fun i => code (F i)) (fun i j hi hj hij => by
    rw [← hlen] at hi hj; exact inj_of v hn i j hi hj hij)
  let T := fun i j => ltC code (F i) (F j)
  have hT : ∀ i j, i < n → j < n → T i j = tab4 a b c d e g i j := key
  have e1 : sdown (ltC code) 0 (us ++ [v]) us.length = (sdown T 0 (List.range n) us.length).map F := by
    rw [sdown_map (lt' := ltC code) F (fun _ _ => rfl), hF]
  have e2 : sdown T 0 (List.range n) us.length = sdown (tab4 a b c d e g) 0 (List.range n) us.length :=
    sdown_ext (S := fun i => i < n) (fun x y hx hy => hT x y hx hy) _ _ (fun v hv => List.mem_range.mp hv)
  have hh' : heapB (tab4 a b c d e g) (List.range us.length) = true := by
    rw [← heapB_ext hT _ (fun x hx => Nat.lt_succ_of_lt (List.mem_range.mp hx)), ← heapB_map F (fun _ _ => rfl), hFu]; exact hh
  have hg : goodPush n (tab4 a b c d e g) = true := by
    have := good_push a b c d e g
    have hn4 : n = 1 ∨ n = 2 ∨ n = 3 := by (first | walk_at "om" | lia | omega)
    rcases hn4 with q | q | q <;> rw [q]
    · exact this.1
    · exact this.2.1
    · exact this.2.2
  unfold goodPush at hg
  rw [show n - 1 = us.length from rfl, htr, hh', Bool.and_self, Bool.not_true, Bool.false_or, Bool.and_eq_true, ← e2] at hg
  have hp := List.isPerm_iff.mp hg.1
  rw [e1]
  refine ⟨?_, ?_⟩
  · have := hp.map F
    rw [hF] at this
    exact this
  · rw [heapB_map F (lt := T) (fun _ _ => rfl), heapB_ext hT _ (fun x hx => List.mem_range.mp (hp.mem_iff.mp hx))]
    exact hg.2
theorem heapify_good {us : List α} (hl : us.length = 4) (hn : (us.map code).Nodup) :
    (sup (ltC code) (sup (ltC code) us 1) 0).Perm us ∧ heapB (ltC code) (sup (ltC code) (sup (ltC code) us 1) 0) = true := by
  obtain ⟨d0, hd0⟩ : ∃ d0 : α, d0 ∈ us := by
    match us, hl with
    | x :: _, _ => exact ⟨x, .head _⟩
  let F : Nat → α := fun i => us.getD i d0
  have hF : (List.range 4).map F = us := by rw [← hl]; exact range_map _ _
  obtain ⟨a, b, c, d, e, g, key, htr⟩ := tab_of (n := 4) (by (first | walk_at "om" | lia | omega)) (fun i => code (F i)) (fun i j hi hj hij => by
    rw [← hl] at hi hj; exact inj_of d0 hn i j hi hj hij)
  let T := fun i j => ltC code (F i) (F j)
  have hT : ∀ i j, i < 4 → j < 4 → T i j = tab4 a b c d e g i j := key
  have e1 : sup (ltC code) (sup (ltC code) us 1) 0 = (sup T (sup T (List.range 4) 1) 0).map F := by
    rw [← sup_map (lt' := ltC code) F (fun _ _ => rfl), ← sup_map (lt' := ltC code) F (fun _ _ => rfl), hF]
  have e2 : sup T (sup T (List.range 4) 1) 0 = sup (tab4 a b c d e g) (sup (tab4 a b c d e g) (List.range 4) 1) 0 := by
    rw [sup_ext (S := fun i => i < 4) (fun x y hx hy => hT x y hx hy) (List.range 4) 1 (fun v hv => List.mem_range.mp hv)]
    exact sup_ext (S := fun i => i < 4) (fun x y hx hy => hT x y hx hy) _ _ (fun v hv => List.mem_range.mp (sup_mem _ _ _ hv))
  have hg := good_fy a b c d e g
  unfold goodFy at hg
  rw [htr, Bool.not_true, Bool.false_or, Bool.and_eq_true, show ([0, 1, 2, 3] : List Nat) = List.range 4 from rfl, ← e2] at hg
  have hp := List.isPerm_iff.mp hg.1
  rw [e1]
  refine ⟨?_, ?_⟩
  · have := hp.map F
    rw [hF] at this
    exact this
  · rw [heapB_map F (lt := T) (fun _ _ => rfl), heapB_ext hT _ (fun x hx => List.mem_range.mp (hp.mem_iff.mp hx))]
    exact hg.2
end
end
section
set_option maxRecDepth 100000
set_option maxHeartbeats 0
/-- a pair's code as it stands in the heap -/
noncomputable def codeV (h : Heap) : Value → Nat
  | .ref a => match h.get? a with
    | some o => match o.data with
      | .seq xs _ => match xs.toList with
        | [.int m _, .int k _] => kcode (m.toNat, k.toNat)
        | _ => 0
      | _ => 0
    | none => 0
  | _ => 0
noncomputable def codeP (p : PT) : Nat := kcode (p.m, p.k)
theorem codeV_at {h : Heap} {p : PT} (e : h.get? p.t = some p.obj.2) : codeV h (.ref p.t) = codeP p := by
  unfold codeV
  try dsimp only
  rw [e]
  simp [PT.obj, tu, codeP]
theorem lt2_code {m k m' k' : Nat} (hk : k < 16) (hk' : k' < 16) : (if ((m : Int) == (m' : Int)) then (if ((k : Int) == (k' : Int)) then false else decide ((k : Int) < (k' : Int))) else decide ((m : Int) < (m' : Int))) = decide (kcode (m, k) < kcode (m', k')) := by
  unfold kcode
  by_cases h1 : m = m'
  · subst h1
    by_cases h2 : k = k'
    · subst h2; simp
    · have : ((k : Int) == (k' : Int)) = false := by
        rw [beq_eq_false_iff_ne]; exact fun q => h2 (Int.ofNat_inj.mp q)
      simp only [beq_self_eq_true, if_true, this]
      simp
  · have : ((m : Int) == (m' : Int)) = false := by
      rw [beq_eq_false_iff_ne]; exact fun q => h1 (Int.ofNat_inj.mp q)
    rw [this]
    simp only [Bool.false_eq_true, if_false]
    refine decide_eq_decide.mpr ?_
    show (m : Int) < (m' : Int) ↔ m * 16 + k < m' * 16 + k'
    (first | walk_at "om" | omega)
theorem cmp_pts {w : World} {h : Heap} {W : Addr} {pts : List PT} (ho : ∀ p ∈ pts, h.get? p.t = some p.obj.2 ∧ p.t ≠ W ∧ p.k < 16) : CmpOk w h [W] (ltC (codeV h)) (pts.map fun p => .ref p.t) := by
  intro u hu v hv prog A hp G D tk o Q E hA hk hQ
  obtain ⟨p, hp1, rfl⟩ := List.mem_map.mp hu
  obtain ⟨q, hq1, rfl⟩ := List.mem_map.mp hv
  have hp2 := ho p hp1
  have hq2 := ho q hq1
  have e : ltC (codeV h) (.ref p.t) (.ref q.t) = decide (kcode (p.m, p.k) < kcode (q.m, q.k)) := by
    unfold ltC; rw [codeV_at hp2.1, codeV_at hq2.1]; rfl
  rw [e, ← lt2_code hp2.2.2 hq2.2.2] at hQ
  exact r_lt2 (p1 := .int (p.m : Nat) p.u1) (p2 := .int (p.k : Nat) p.u2) (q1 := .int (q.m : Nat) q.u1) (q2 := .int (q.k : Nat) q.u2) hA (hk _ _ hp2.1 (by simpa using hp2.2.1)) (hk _ _ hq2.1 (by simpa using hq2.2.1)) (EqAt.int_int _ _ _ _) (EqAt.int_int _ _ _ _) (LtAt.int _ _ _ _ _ _) (LtAt.int _ _ _ _ _ _) (hQ _)
section
variable {h : Heap} {pts : List PT} (ho : ∀ p ∈ pts, h.get? p.t = some p.obj.2)
include ho
theorem ltP_eq : ∀ x y : PT, x ∈ pts → y ∈ pts → ltC (fun p : PT => codeV h (.ref p.t)) x y = ltC codeP x y := fun x y hx hy => by
  have e1 := codeV_at (ho x hx)
  have e2 := codeV_at (ho y hy)
  simp only [ltC, e1, e2]
theorem sup_pts (pos : Nat) : sup (ltC (codeV h)) (pts.map fun p => Value.ref p.t) pos = (sup (ltC codeP) pts pos).map fun p => .ref p.t := by
  rw [sup_map (lt := ltC fun p : PT => codeV h (.ref p.t)) (fun p : PT => Value.ref p.t) (fun _ _ => rfl), sup_ext (S := fun p => p ∈ pts) (ltP_eq ho) pts pos fun _ h => h]
theorem sdown_pts (sp pos : Nat) : sdown (ltC (codeV h)) sp (pts.map fun p => Value.ref p.t) pos = (sdown (ltC codeP) sp pts pos).map fun p => .ref p.t := by
  rw [← sdown_map (lt := ltC fun p : PT => codeV h (.ref p.t)) (fun p : PT => Value.ref p.t) (fun _ _ => rfl), sdown_ext (S := fun p => p ∈ pts) (ltP_eq ho) pts pos fun _ h => h]
end
theorem hpop_pts {h : Heap} {us : List PT} {last : PT} (ho : ∀ p ∈ us ++ [last], h.get? p.t = some p.obj.2) : hpop (ltC (codeV h)) (us.map fun p => Value.ref p.t) (.ref last.t) = (.ref (hpop (ltC codeP) us last).1.t, (hpop (ltC codeP) us last).2.map fun p => .ref p.t) := by
  rw [hpop_map (lt := ltC fun p : PT => codeV h (.ref p.t)) (fun p : PT => Value.ref p.t) (fun _ _ => rfl), hpop_ext (S := fun p => p ∈ us ++ [last]) (ltP_eq ho) us last (fun v hv => List.mem_append_left _ hv) (by simp)]
end
section
set_option maxRecDepth 100000
set_option maxHeartbeats 0
theorem seg45 (w : World) : LawAt w fun body scope qual => ∀ s0 s1, body[4]? = some s0 → body[5]? = some s1 → ∀ {prog A g0 hp G D tk o L fa cd k R B a0 a1 a2 a3} {c : S4} {rest : List Stmt} {Q : Flow → Shared → Prop},
    Fz w A (k + 3) g0 L hp [(Str.ofString "records", .ref R)] → hp.IsCell (L + 1) (some (.ref B)) → hp.get? B = some (lo [.ref a0, .ref a1, .ref a2, .ref a3] 0) → (∀ p ∈ led4 a0 a1 a2 a3 c, hp.get? p.1 = some p.2) → (∀ e ∈ cs4 c, e.good 12) →
    (∀ (hp' : Heap) (tk' : Nat) (W : Addr) (nW : Nat) (pts : List PT), Fz w A (k + 3) g0 L hp' [(Str.ofString "waiting", .ref W), (Str.ofString "records", .ref R)] → KB [L] hp hp' → hp'.get? W = some (lo (pts.map fun p => .ref p.t) nW) → hp.get? W = none → (∀ p ∈ pts, hp'.get? p.t = some p.obj.2 ∧ p.t ≠ W ∧ hp.get? p.t = none) →
        (pts.map (fun p => (p.m, p.k))).Perm ((List.range 4).map fun j => (((cs4 c).getD j slD).ys.length, j)) → heapB (ltC codeP) pts = true →
      wpAny (model prog w) A (execs rest (envOfC qual scope L fa cd)) Q NoE ⟨hp', G, D, tk', o⟩) →
    wpAny (model prog w) A (execs (s0 :: s1 :: rest) (envOfC qual scope L fa cd)) Q NoE ⟨hp, G, D, tk, o⟩ := by
  have hs24 : sizeLine = 16777216 := rfl
  refine' LawAt.intro ?ho ?_
  case ho => k_is
  intro s0 s1 i0 i1
  cases i0; cases i1
  intro prog A g0 hp G D tk o L fa cd k R B a0 a1 a2 a3 c rest Q F hcA hB ha hgd next
  obtain ⟨g, C, gL, S, gk, gh, gn, gg⟩ := F.start [] [] (by simp) (by simp)
  have gka : ∀ b o, hp.get? b = some o → b ≠ L → g.get? b = some o := fun b o e n => gk b o e (by simpa using n)
  obtain ⟨oA, eA, cA⟩ := hcA
  have gA : g.get? (L + 1) = some oA := gka _ _ eA (Nat.succ_ne_self L)
  have gB := gka _ _ hB (off_seq F hB rfl).l
  have hac : ∀ j : Nat, j < 4 → g.get? ((as4 a0 a1 a2 a3).getD j 0) = some (lo ((cs4 c).getD j slD).av ((cs4 c).getD j slD).na) := by
    intro j hj
    have h4 : j = 0 ∨ j = 1 ∨ j = 2 ∨ j = 3 := by (first | walk_at "om" | omega)
    rcases h4 with rfl | rfl | rfl | rfl
    · have e := ha (a0, _) (.head _); exact gka _ _ e (off_seq F e rfl).l
    · have e := ha (a1, _) (.tail _ (.head _)); exact gka _ _ e (off_seq F e rfl).l
    · have e := ha (a2, _) (.tail _ (.tail _ (.head _))); exact gka _ _ e (off_seq F e rfl).l
    · have e := ha (a3, _) (.tail _ (.tail _ (.tail _ (.head _)))); exact gka _ _ e (off_seq F e rfl).l
  have hgj : ∀ j, j < 4 → (cs4 c).getD j slD ∈ cs4 c := fun j hj => by
    have : j < (cs4 c).length := by simpa [cs4] using hj
    simp only [List.getD, List.getElem?_eq_getElem this, Option.getD_some]
    exact List.getElem_mem _
  repeat walk_at "v"
  refine r_range S (fun r h2 t1 t2 tk2 S2 l2 => ?_)
  refine' r_compR (N := 4) C.hh S2 gL (S2.mem (.head _)) (by decide) (fun i us nl => ∃ ps : List PT, us = ps.map (fun p => .ref p.t) ∧ nl = ps.map PT.obj ∧ ps.map (fun p => (p.m, p.k)) = (List.range i).map fun j => (((cs4 c).getD j slD).ys.length, j)) ⟨[], rfl, rfl, rfl⟩ ?_ ?_ ?hcell ?hkind ?hx (by decide) (by decide)
  walk_at "cs"
  · rintro Dl K i us nl u h3 t3 n3 own hi ⟨ps, rfl, rfl, hps⟩ hnl hlD gK S3
    have hg := hgd _ (hgj i hi)
    have hgl := hg.len
    repeat walk_at "v"
    refine r_item (v := .ref ((as4 a0 a1 a2 a3).getD i 0)) (S3.keep _ _ gB) (by (first | walk_at "om" | omega)) (by (first | walk_at "om" | omega)) (by
      have e : ((i : Nat) : Int).toNat = i := by (first | walk_at "om" | omega)
      rw [e]
      have h4 : i = 0 ∨ i = 1 ∨ i = 2 ∨ i = 3 := by (first | walk_at "om" | omega)
      rcases h4 with rfl | rfl | rfl | rfl <;> rfl) ?_
    repeat walk_at "v"
    refine r_len (S3.keep _ _ (hac i hi)) (by (first | walk_at "om" | omega)) (fun t4 tk4 => ?_)
    repeat walk_at "v"
    refine r_newTuple S3 (by simp [hs24]) (fun a2' h5 S5 d1 d2 d3 => ?_)
    have hq : Dl < a2' := d1 _ (.head _)
    walk_at "z"; refine CY.intro (ps.map PT.obj ++ [PT.obj ⟨a2', t4, u, ((cs4 c).getD i slD).av.length, i⟩]) (S5.cy [(a2', _)] (fun p hp => ?_)) ⟨ps ++ [⟨a2', t4, u, ((cs4 c).getD i slD).av.length, i⟩], by simp, by simp, ?_⟩ (fun p hp => ?_)
    · rcases List.mem_append.mp hp with hp | hp
      · exact .inl hp
      · exact .inr hp
    · rw [List.map_append, hps, List.range_succ, List.map_append]
      simp only [List.map_cons, List.map_nil]
      rw [hg.sa.length]
    · rcases List.mem_append.mp hp with hp | hp
      · exact hnl p hp
      · rw [List.mem_singleton.mp hp]; exact hq
  · rintro Dl us nl n3 t3 ⟨ps, rfl, rfl, hps⟩ hnl hlD hLD gD
    refine CDone.name gL (fun h3 tk3 S3 => ?_) rfl rfl rfl
    try dsimp only
    have hpl : ps.length = 4 := by simpa using congrArg List.length hps
    have hob : ∀ p ∈ ps, h3.get? p.t = some p.obj.2 ∧ p.t ≠ Dl ∧ p.k < 16 := fun p hp => by
      have hm : p.obj ∈ ps.map PT.obj := List.mem_map_of_mem hp
      refine ⟨S3.mem (.tail _ (List.mem_append_left _ hm)), Nat.ne_of_gt (hnl _ hm), ?_⟩
      have : (p.m, p.k) ∈ (List.range 4).map fun j => (((cs4 c).getD j slD).ys.length, j) := hps ▸ List.mem_map_of_mem (f := fun p : PT => (p.m, p.k)) hp
      obtain ⟨j, hj, e⟩ := List.mem_map.mp this
      have := List.mem_range.mp hj
      have e2 : j = p.k := congrArg Prod.snd e
      (first | walk_at "om" | omega)
    repeat walk_at "v"
    refine r_call C S3 (heapify_fn (S3.mem (.head _)) (by simpa using hpl) (cmp_pts hob)) (by (first | walk_at "om" | omega)) (fun d hd => by rw [List.mem_singleton.mp hd]; exact gD) (fun v h4 tk4 K hp4 => ⟨hp4.1, ?_⟩)
    have hX : ∀ p ∈ ps.map PT.obj, Dl < p.1 := hnl
    have S4 := S3.call1 K hp4.2 (by
      have hr : r ≠ Dl := Nat.ne_of_lt (hlD (r, robj 0 4 1 t1 _ t2) (.head _))
      walk_at "nn")
    have hnd : (ps.map codeP).Nodup := by
      have e : ps.map codeP = (List.range 4).map fun j => kcode (((cs4 c).getD j slD).ys.length, j) := by
        have : ps.map codeP = (ps.map fun p => (p.m, p.k)).map kcode := by rw [List.map_map]; rfl
        rw [this, hps, List.map_map]; rfl
      rw [e]
      refine List.nodup_iff_pairwise_ne.mpr (List.pairwise_map.mpr ?_)
      refine List.Pairwise.imp_of_mem (R := fun a b => a ≠ b) (fun {a b} ha hb hab q => ?_) (List.nodup_iff_pairwise_ne.mp List.nodup_range)
      have := List.mem_range.mp ha
      have := List.mem_range.mp hb
      unfold kcode at q
      dsimp only at q
      (first | walk_at "om" | omega)
    obtain ⟨hperm, hheap⟩ := heapify_good (code := codeP) hpl hnd
    rw [sup_pts (fun p hp => (hob p hp).1), sup_pts (pts := sup (ltC codeP) ps 1) (fun p hp => (hob p (sup_mem _ _ _ hp)).1)] at S4
    try dsimp only
    repeat walk_at "v"
    have hm : ∀ p ∈ sup (ltC codeP) (sup (ltC codeP) ps 1) 0, p ∈ ps := fun p hp => hperm.mem_iff.mp hp
    have KB4 := S4.kb gk
    have S5 := S4.sub ((Dl, lo ((sup (ltC codeP) (sup (ltC codeP) ps 1) 0).map fun p => Value.ref p.t) n3) :: ps.map PT.obj) (by walk_at "sub")
    walk_at "x"; refine next h4 tk4 Dl n3 _ (F.next KB4 S4.ns (by simp) (fun _ _ _ h => by simp at h)) KB4 (S5.mem (.head _)) (S5.fresh gk (.head _) (by simpa using ne_gt hLD)) (fun p hp => ?_) ?_ hheap
    · have hmp : p.obj ∈ ps.map PT.obj := List.mem_map_of_mem (hm p hp)
      exact ⟨S5.mem (.tail _ hmp), Nat.ne_of_gt (hnl _ hmp), S5.fresh gk (.tail _ hmp) (by simpa using (S5.nw _ (.tail _ hmp)).2.2)⟩
    · exact hps ▸ hperm.map _
end
section
set_option maxRecDepth 100000
set_option maxHeartbeats 0
section
variable {prog : Program} {w : World} {M : Model} {A : Around} {E : Value → Shared → Prop} {hp g : Heap} {G : Array GenState} {D : Drawn} {tk : Nat} {o : OsState} {L : Addr} {kn : Kns} {led : Led} {k : Nat}
/-- heappop of pairs -/
theorem r_popW {W : Addr} {pts : List PT} {n : Nat} {Q : Value → Shared → Prop} (C : Cx w A g (k + 3)) (S : St g L hp kn ((W, lo (pts.map fun p => .ref p.t) n) :: led)) (hne : ∀ p ∈ led, p.1 ≠ W) (h0 : pts ≠ []) (h4 : pts.length ≤ 4)
    (ho : ∀ p ∈ pts, hp.get? p.t = some p.obj.2 ∧ p.t ≠ W ∧ p.k < 16) (hn : (pts.map codeP).Nodup) (hh : heapB (ltC codeP) pts = true)
    (h : ∀ (p : PT) (pts' : List PT) h' tk', (p :: pts').Perm pts → (∀ y ∈ pts', codeP p < codeP y) → heapB (ltC codeP) pts' = true → St g L h' kn ((W, lo (pts'.map fun p => .ref p.t) (n + 1)) :: led) → (∀ b o, b ≠ W → hp.get? b = some o → h'.get? b = some o) → Q (.ref p.t) ⟨h', G, D, tk', o⟩) :
    wpAny (model prog w) A (call (.ref 139) [.ref W]) Q E ⟨hp, G, D, tk, o⟩ := by
  have hs24 : sizeLine = 16777216 := rfl
  obtain ⟨us, last, rfl⟩ : ∃ us last, pts = us ++ [last] := ⟨pts.dropLast, pts.getLast h0, (List.dropLast_concat_getLast h0).symm⟩
  have e : (us ++ [last]).map (fun p => Value.ref p.t) = us.map (fun p => .ref p.t) ++ [.ref last.t] := by simp
  rw [e] at S
  have hc := cmp_pts (w := w) ho
  rw [e] at hc
  have hl : us.length ≤ 3 := by simp at h4; (first | walk_at "om" | lia | omega)
  obtain ⟨g1, g2, g3⟩ := pop_good hl hn hh
  refine r_call C S (heappop_fn (S.mem (.head _)) (by simp; (first | walk_at "om" | lia | omega)) hc) (by (first | walk_at "om" | lia | omega)) (fun d hd => by rw [List.mem_singleton.mp hd]; exact (S.nw _ (.head _)).2.1) (fun v h' tk' K hp' => ?_)
  rw [hpop_pts (fun p hp => (ho p hp).1)] at hp'
  obtain ⟨rfl, hw⟩ := hp'
  exact h _ _ h' tk' g1 g2 g3 (S.call1 K hw hne) (fun b o hb e => K b o e (by simpa using hb))
end
theorem kcode_inj {p q : Nat × Nat} (hp : p.2 < 16) (hq : q.2 < 16) (h : kcode p = kcode q) : p.2 = q.2 := by
  unfold kcode at h; (first | walk_at "om" | lia | omega)
/-- two pops of the heap are the twin's first two -/
theorem two_pops {pool : List En} {lf : List Nat} {pts pts1 pts2 : List PT} {p1 p2 : PT} (hk : (pts.map (·.k)).Perm lf) (hlt : ∀ k ∈ lf, k < 16) (hm : ∀ p ∈ pts, p.m = (pool.getD p.k enD).1.length) (hnd : lf.Nodup)
    (hp1 : (p1 :: pts1).Perm pts) (hp2 : (p2 :: pts2).Perm pts1) (h1 : ∀ y ∈ pts1, codeP p1 < codeP y) (h2 : ∀ y ∈ pts2, codeP p2 < codeP y) :
    ∃ r0, isort (mcode pool) lf = p1.k :: p2.k :: r0 ∧ (pts2.map (·.k)).Perm r0 := by
  have hall : (p1 :: p2 :: pts2).Perm pts := (hp2.cons p1).trans hp1
  have hcode : ∀ p ∈ pts, codeP p = mcode pool p.k := fun p hp => by unfold codeP mcode; rw [hm p hp]
  have m1 : p1 ∈ pts := hall.mem_iff.mp (.head _)
  have m2 : p2 ∈ pts := hall.mem_iff.mp (.tail _ (.head _))
  have m3 : ∀ y ∈ pts2, y ∈ pts := fun y hy => hall.mem_iff.mp (.tail _ (.tail _ hy))
  have hks : ((p1 :: p2 :: pts2).map (·.k)).Perm lf := (hall.map _).trans hk
  have hnd2 : ((p1 :: p2 :: pts2).map (·.k)).Nodup := hks.symm.nodup hnd
  simp only [List.map_cons] at hks hnd2
  have hndr : (pts2.map (·.k)).Nodup := (List.nodup_cons.mp (List.nodup_cons.mp hnd2).2).2
  have hq := isort_perm (mcode pool) (pts2.map (·.k))
  refine ⟨isort (mcode pool) (pts2.map (·.k)), ?_, hq.symm⟩
  symm
  refine isort_unique (((hq.cons _).cons _).trans hks) ?_
  have lt16 : ∀ k, k ∈ pts2.map (·.k) → k < 16 := fun k hk' => hlt k (hks.mem_iff.mp (.tail _ (.tail _ hk')))
  refine List.pairwise_cons.mpr ⟨fun y hy => ?_, List.pairwise_cons.mpr ⟨fun y hy => ?_, ?_⟩⟩
  · rcases List.mem_cons.mp hy with rfl | hy
    · have := h1 p2 (hp2.mem_iff.mp (.head _))
      rwa [hcode _ m1, hcode _ m2] at this
    · obtain ⟨q, hq1, rfl⟩ := List.mem_map.mp (hq.mem_iff.mp hy)
      have := h1 q (hp2.mem_iff.mp (.tail _ hq1))
      rwa [hcode _ m1, hcode _ (m3 q hq1)] at this
  · obtain ⟨q, hq1, rfl⟩ := List.mem_map.mp (hq.mem_iff.mp hy)
    have := h2 q hq1
    rwa [hcode _ m2, hcode _ (m3 q hq1)] at this
  · have hs := isort_sorted (mcode pool) (pts2.map (·.k))
    have hn := List.nodup_iff_pairwise_ne.mp (hq.symm.nodup hndr)
    refine (hs.and hn).imp_of_mem (fun {a b} ha hb h => ?_)
    refine Nat.lt_of_le_of_ne h.1 (fun e => h.2 ?_)
    exact kcode_inj (p := ((pool.getD a enD).1.length, a)) (q := ((pool.getD b enD).1.length, b)) (lt16 a (hq.mem_iff.mp ha)) (lt16 b (hq.mem_iff.mp hb)) e
set_option genInjectivity false in
set_option genSizeOf false in
structure WS where
  pts : List PT
  nps : List PT
  nw : List RS
  nR : Nat
  nW : Nat
structure WS.ok (pts0 : List PT) (es0 : List RS) (W R : Addr) (s0 : List En × List Nat) (led : Led) (c : WS) : Prop where
  run : ∃ i lf, i ≤ 3 ∧ ((es0 ++ c.nw).map RS.en, lf) = mrun s0 i ∧ MGood i ((es0 ++ c.nw).map RS.en, lf) ∧ (c.pts.map (·.k)).Perm lf
  m : ∀ p ∈ c.pts, p.m = (((es0 ++ c.nw).map RS.en).getD p.k enD).1.length
  hh : heapB (ltC codeP) c.pts = true
  eok : ∀ e ∈ es0 ++ c.nw, e.ok (2 ^ (es0 ++ c.nw).length)
  sub : ∀ p ∈ c.pts, p ∈ pts0 ∨ p ∈ c.nps
  off : ∀ p ∈ led, p.1 ≠ W ∧ p.1 ≠ R
theorem RS.get_refs {es : List RS} {k : Nat} (hk : k < es.length) : (RS.refs es)[((k : Nat) : Int).toNat]? = some (.ref es[k].x) := by simp [RS.refs, hk]
theorem RS.get_en {es : List RS} {k : Nat} (hk : k < es.length) : (es.map RS.en).getD k enD = es[k].en := by simp [List.getD, hk]
end
section
set_option maxRecDepth 100000
set_option maxHeartbeats 0
theorem seg6 (w : World) : LawAt w fun body scope qual => ∀ s0, body[6]? = some s0 → ∀ {prog A g0 hp G D tk o L fa cd k W R nW nR} {pts0 : List PT} {es0 : List RS} {rest : List Stmt} {Q : Flow → Shared → Prop},
    Fz w A (k + 4) g0 L hp [(Str.ofString "waiting", .ref W), (Str.ofString "records", .ref R)] → hp.get? W = some (lo (pts0.map fun p => .ref p.t) nW) → hp.get? R = some (lo (RS.refs es0) nR) → W ≠ R → g0.get? W = none → g0.get? R = none →
    (∀ p ∈ pts0, hp.get? p.t = some p.obj.2 ∧ p.t ≠ W ∧ p.t ≠ R ∧ p.t ≠ L) → (∀ p ∈ RS.leds w es0, hp.get? p.1 = some p.2 ∧ p.1 ≠ W ∧ p.1 ≠ R ∧ p.1 ≠ L) → es0.length = 4 → (∀ e ∈ es0, e.ok 1) →
    (pts0.map (fun p => (p.m, p.k))).Perm ((List.range 4).map fun j => (((es0.map RS.en).getD j enD).1.length, j)) → heapB (ltC codeP) pts0 = true →
    (∀ (hp' : Heap) (tk' : Nat) (nR' : Nat) (nw : List RS), Fz w A (k + 4) g0 L hp' [(Str.ofString "records", .ref R)] → KB [L, W, R] hp hp' → hp'.get? R = some (lo (RS.refs (es0 ++ nw)) nR') → nw.length = 3 → (es0 ++ nw).map RS.en = (mrun (es0.map RS.en, [0, 1, 2, 3]) 3).1 →
        (∀ p ∈ RS.leds w nw, hp'.get? p.1 = some p.2 ∧ p.1 ≠ R ∧ hp.get? p.1 = none) → (∀ e ∈ nw, e.ok 128) →
      wpAny (model prog w) A (execs rest (envOfC qual scope L fa cd)) Q NoE ⟨hp', G, D, tk', o⟩) →
    wpAny (model prog w) A (execs (s0 :: rest) (envOfC qual scope L fa cd)) Q NoE ⟨hp, G, D, tk, o⟩ := by
  have hs24 : sizeLine = 16777216 := rfl
  refine' LawAt.intro ?ho ?_
  case ho => k_is
  intro s0 i0
  cases i0
  intro prog A g0 hp G D tk o L fa cd k W R nW nR pts0 es0 rest Q F hW hR hWR gW0 gR0 hpt hes h4 heok0 hperm0 hheap0 next
  have oW := (off_seq F hW rfl).l
  have oR := (off_seq F hR rfl).l
  obtain ⟨g, C, gL, S, gk, gh, gn, gg⟩ := F.start [W, R] [(W, lo (pts0.map fun p => .ref p.t) nW), (R, lo (RS.refs es0) nR)] (fun d hd => by
    simp only [List.mem_cons, List.not_mem_nil, or_false] at hd
    rcases hd with rfl | rfl
    · exact gW0
    · exact gR0) (fun p hp => by
    simp only [List.mem_cons, List.not_mem_nil, or_false] at hp
    rcases hp with rfl | rfl
    · exact ⟨hW, by simp, oW⟩
    · exact ⟨hR, by simp, oR⟩)
  have gpt : ∀ p ∈ pts0, g.get? p.t = some p.obj.2 := fun p hp => gk _ _ (hpt p hp).1 (by have z := (hpt p hp).2; simp only [List.mem_cons, List.not_mem_nil, or_false, not_or]; exact ⟨z.2.2, z.1, z.2.1⟩)
  have ges : ∀ p ∈ RS.leds w es0, g.get? p.1 = some p.2 := fun p hp => gk _ _ (hes p hp).1 (by have z := (hes p hp).2; simp only [List.mem_cons, List.not_mem_nil, or_false, not_or]; exact ⟨z.2.2, z.1, z.2.1⟩)
  have hgood0 : MGood 0 (es0.map RS.en, [0, 1, 2, 3]) := ⟨by simp [h4], rfl, by simp, by intro k hk; simp at hk; simp [h4]; (first | walk_at "om" | lia | omega)⟩
  have hk0 : (pts0.map (·.k)).Perm [0, 1, 2, 3] := by
    have := hperm0.map Prod.snd
    rw [List.map_map, List.map_map] at this
    exact this
  repeat walk_at "v"
  refine r_while (g := g) (L := L) (σ := WS) (fun c => [(Str.ofString "waiting", .ref W), (Str.ofString "records", .ref R)]) (fun c => (W, lo (c.pts.map fun p => .ref p.t) c.nW) :: (R, lo (RS.refs (es0 ++ c.nw)) c.nR) :: (c.nps.map PT.obj ++ RS.leds w c.nw))
    (fun c => c.ok pts0 es0 W R (es0.map RS.en, [0, 1, 2, 3]) (c.nps.map PT.obj ++ RS.leds w c.nw)) (fun c => c.pts.length)
    ⟨pts0, [], [], nR, nW⟩ (by rw [List.append_nil]; exact St.fit _ _ S (by walk_at "kn") (fun _ h => h)) ⟨⟨0, [0, 1, 2, 3], by (first | walk_at "om" | lia | omega), by simp [mrun], by simpa using hgood0, hk0⟩, fun p hp => ?_, hheap0, fun e he => ?_, fun p hp => .inl hp, by simp [RS.leds]⟩ ?_
  · have := hperm0.mem_iff.mp (List.mem_map_of_mem (f := fun p : PT => (p.m, p.k)) hp)
    obtain ⟨j, hj, e⟩ := List.mem_map.mp this
    have e1 : _ = p.m := congrArg Prod.fst e
    have e2 : j = p.k := congrArg Prod.snd e
    subst e2
    simpa using e1.symm
  · rw [List.append_nil] at he ⊢
    have z := heok0 e he
    exact ⟨z.sa, z.ia, z.len, Nat.le_trans z.rlen (by rw [h4]; decide)⟩
  · rintro ⟨pts, nps, nw, nR1, nW1⟩ h6 t6 ⟨⟨i, lf, hi3, hrun, hgood, hklf⟩, hm, hheap, heok, hsub, hoff⟩ S6
    try dsimp only at hrun hgood hklf hm hheap heok hsub hoff S6 ⊢
    have hpool := hgood.pool
    have hleft := hgood.left
    dsimp only at hleft
    rw [List.length_map] at hpool
    have hptl : pts.length = lf.length := by simpa using hklf.length_eq
    have hlt16 : ∀ k ∈ lf, k < 16 := fun k hk => by have := hgood.lt k hk; rw [List.length_map] at this; (first | walk_at "om" | lia | omega)
    have hX1 : ∀ p ∈ nps.map PT.obj, p.1 ≠ W := fun p hp => (hoff p (List.mem_append_left _ hp)).1
    have hX2 : ∀ p ∈ nps.map PT.obj, p.1 ≠ R := fun p hp => (hoff p (List.mem_append_left _ hp)).2
    have hY1 : ∀ p ∈ RS.leds w nw, p.1 ≠ W := fun p hp => (hoff p (List.mem_append_right _ hp)).1
    have hY2 : ∀ p ∈ RS.leds w nw, p.1 ≠ R := fun p hp => (hoff p (List.mem_append_right _ hp)).2
    have ptAt : ∀ {h : Heap} {kn : Kns} {led : Led}, St g L h kn led → (∀ p ∈ nps.map PT.obj, p ∈ led) → ∀ p ∈ pts, h.get? p.t = some p.obj.2 ∧ p.t ≠ W ∧ p.k < 16 := fun {h kn led} S hs p hp => by
      have hk16 := hlt16 _ (hklf.mem_iff.mp (List.mem_map_of_mem (f := fun p : PT => p.k) hp))
      rcases hsub p hp with h1 | h1
      · exact ⟨S.keep _ _ (gpt p h1), (hpt p h1).2.1, hk16⟩
      · exact ⟨S.mem (hs _ (List.mem_map_of_mem h1)), hX1 _ (List.mem_map_of_mem h1), hk16⟩
    have recAt : ∀ {h : Heap} {kn : Kns} {led : Led}, St g L h kn led → (∀ p ∈ RS.leds w nw, p ∈ led) → ∀ e ∈ es0 ++ nw, Rec w h e.x e.d e.p e.r e.t1 e.t2 e.t3 e.t4 e.n e.vs e.na e.rs e.nr := fun {h kn led} S hs e he => by
      rcases List.mem_append.mp he with h1 | h1
      · exact ⟨S.keep _ _ (ges _ (RS.mem h1 (.head _))), S.keep _ _ (ges _ (RS.mem h1 (.tail _ (.head _)))), S.keep _ _ (ges _ (RS.mem h1 (.tail _ (.tail _ (.head _))))), S.keep _ _ (ges _ (RS.mem h1 (.tail _ (.tail _ (.tail _ (.head _))))))⟩
      · exact RS.at S hs h1
    have hkn : (pts.map (·.k)).Nodup := hklf.symm.nodup hgood.nodup
    have hcn : (pts.map codeP).Nodup := by
      refine List.nodup_iff_pairwise_ne.mpr (List.pairwise_map.mpr ?_)
      refine (List.pairwise_map.mp (List.nodup_iff_pairwise_ne.mp hkn)).imp_of_mem (fun {a b} ha hb hab q => hab ?_)
      exact kcode_inj (p := (a.m, a.k)) (q := (b.m, b.k)) (hlt16 _ (hklf.mem_iff.mp (List.mem_map_of_mem (f := fun p : PT => p.k) ha))) (hlt16 _ (hklf.mem_iff.mp (List.mem_map_of_mem (f := fun p : PT => p.k) hb))) q
    repeat walk_at "v"
    refine r_len (S6.mem (.head _)) (by simp; (first | walk_at "om" | lia | omega)) (fun t7 tk7 => ?_)
    repeat walk_at "v"
    with_reducible refine ifs (fun hb => ?_) (fun hb => ?_)
    · have hge : 2 ≤ pts.length := by
        have := of_decide_eq_true hb
        rw [List.length_map] at this
        (first | walk_at "om" | lia | omega)
      have hi2 : i ≤ 2 := by (first | walk_at "om" | lia | omega)
      repeat walk_at "v"
      refine r_popW (k := k + 1) C S6 (by walk_at "nn") (by intro e; rw [e] at hge; simp at hge) (by (first | walk_at "om" | lia | omega)) (ptAt S6 (by walk_at "ss")) hcn hheap (fun p1 pts1 h7 tk7 hp1 hl1 hh1 S7 K7 => ?_)
      have m1 : p1 ∈ pts := hp1.mem_iff.mp (.head _)
      have hs1 : ∀ p ∈ pts1, p ∈ pts := fun p hp => hp1.mem_iff.mp (.tail _ hp)
      have hl1' : pts1.length + 1 = pts.length := by simpa using hp1.length_eq
      repeat walk_at "v"
      refine r_titem (v := .int (p1.k : Nat) p1.u2) (ptAt S7 (by walk_at "ss") p1 m1).1 (by decide) (by decide) rfl ?_
      repeat walk_at "v"
      refine r_popW (k := k + 1) (pts := pts1) (n := nW1 + 1) (W := W) (led := (R, lo (RS.refs (es0 ++ nw)) nR1) :: (nps.map PT.obj ++ RS.leds w nw)) C (by assumption) (by walk_at "nn") (by intro e; rw [e] at hl1'; simp at hl1'; (first | walk_at "om" | lia | omega)) (by (first | walk_at "om" | lia | omega)) (fun p hp => ptAt (by assumption) (by walk_at "ss") p (hs1 p hp))
        ((List.nodup_cons.mp (((hp1.map codeP).symm.nodup hcn) : (codeP p1 :: pts1.map codeP).Nodup)).2) hh1 (fun p2 pts2 h8 tk8 hp2 hl2 hh2 S8 K8 => ?_)
      have m2 : p2 ∈ pts := hs1 _ (hp2.mem_iff.mp (.head _))
      have hs2 : ∀ p ∈ pts2, p ∈ pts := fun p hp => hs1 _ (hp2.mem_iff.mp (.tail _ hp))
      have hl2' : pts2.length + 1 = pts1.length := by simpa using hp2.length_eq
      repeat walk_at "v"
      refine r_titem (v := .int (p2.k : Nat) p2.u2) (ptAt S8 (by walk_at "ss") p2 m2).1 (by decide) (by decide) rfl ?_
      repeat walk_at "v"
      rename_i hS tkS SS _ _
      obtain ⟨r0, hsort, hr0⟩ := two_pops hklf hlt16 hm hgood.nodup hp1 hp2 hl1 hl2
      obtain ⟨i0, j0, r0', hsort', hstep, hgood'⟩ := hgood.step hi2
      dsimp only at hsort' hstep hgood'
      rw [hsort] at hsort'
      cases hsort'
      have hk1 : p1.k < (es0 ++ nw).length := by have := hgood.lt _ (hklf.mem_iff.mp (List.mem_map_of_mem (f := fun p : PT => p.k) m1)); simpa using this
      have hk2 : p2.k < (es0 ++ nw).length := by have := hgood.lt _ (hklf.mem_iff.mp (List.mem_map_of_mem (f := fun p : PT => p.k) m2)); simpa using this
      have hem1 : (es0 ++ nw)[p1.k] ∈ es0 ++ nw := List.getElem_mem hk1
      have hem2 : (es0 ++ nw)[p2.k] ∈ es0 ++ nw := List.getElem_mem hk2
      generalize he1 : (es0 ++ nw)[p1.k] = e1 at hem1
      generalize he2 : (es0 ++ nw)[p2.k] = e2 at hem2
      have z1 := heok e1 hem1
      have z2 := heok e2 hem2
      have hpw : 2 ^ (es0 ++ nw).length ≤ 2 ^ 7 := Nat.pow_le_pow_right (by decide) (by (first | walk_at "om" | lia | omega))
      have zl1 := z1.len
      have zl2 := z2.len
      have zr1 := z1.rlen
      have zr2 := z2.rlen
      refine r_lmeth PySem.F.slot_list_append PySem.F.type_list_append (St.mem (by assumption) (by walk_at "mm")) ?_
      repeat walk_at "v"
      refine r_item (v := .ref e1.x) (St.mem (by assumption) (by walk_at "mm")) (by (first | walk_at "om" | lia | omega)) (by (first | walk_at "om" | lia | omega)) (by rw [RS.get_refs hk1, he1]) ?_
      repeat walk_at "v"
      refine r_item (v := .ref e2.x) (St.mem (by assumption) (by walk_at "mm")) (by (first | walk_at "om" | lia | omega)) (by (first | walk_at "om" | lia | omega)) (by rw [RS.get_refs hk2, he2]) ?_
      repeat walk_at "v"
      refine r_call C SS (merge_fn (recAt SS (by walk_at "ss") e1 hem1) (recAt SS (by walk_at "ss") e2 hem2) z1.sa z2.sa (by (first | walk_at "om" | lia | omega)) (by (first | walk_at "om" | lia | omega)) (by (first | walk_at "om" | lia | omega)) (by (first | walk_at "om" | lia | omega))) (by (first | walk_at "om" | lia | omega)) (by simp) (fun v h9 tk9 K9 hp9 => ?_)
      obtain ⟨x, d, a, r, s1, s2, s3, s4, n9, na9, nr9, rfl, R9, f1, f2, f3, f4⟩ := hp9
      obtain ⟨e', he'⟩ : ∃ e' : RS, e' = ⟨x, d, a, r, s1, s2, s3, s4, n9, na9, nr9, e1.vs.filter (keepV fun z => e2.ys.contains z), e1.rs ++ e2.rs, e1.ys.filter (fun z => e2.ys.contains z), e1.zs ++ e2.zs⟩ := ⟨_, rfl⟩
      have gnone : ∀ b, hS.get? b = none → g.get? b = none ∧ b ≠ L := fun b hb => by
        constructor
        · cases q : g.get? b with
          | none => rfl
          | some o' => rw [SS.keep _ _ q] at hb; cases hb
        · rintro rfl
          obtain ⟨mm, ⟨o', es', ep', q, _⟩, _⟩ := SS.ns
          rw [q] at hb; cases hb
      have differ : ∀ {b c : Addr} {o' : Obj}, hS.get? b = none → hS.get? c = some o' → b ≠ c := fun {b c o'} hb hc q => by rw [q, hc] at hb; cases hb
      have SW := SS.mem (a := W) (.head _)
      have SR := SS.mem (a := R) (.tail _ (.head _))
      have S9 := ((((SS.call0 K9).add R9.r (gnone _ f4).1 (gnone _ f4).2).add R9.a (gnone _ f3).1 (gnone _ f3).2).add R9.d (gnone _ f2).1 (gnone _ f2).2).add R9.x (gnone _ f1).1 (gnone _ f1).2
      have w1 := differ f1 SW
      have w2 := differ f2 SW
      have w3 := differ f3 SW
      have w4 := differ f4 SW
      have v1 := differ f1 SR
      have v2 := differ f2 SR
      have v3 := differ f3 SR
      have v4 := differ f4 SR
      repeat walk_at "v"
      refine r_append (l := R) (vs := RS.refs (es0 ++ nw)) (n := nR1) (led := (W, lo (pts2.map fun p => .ref p.t) (nW1 + 1 + 1)) :: ([(x, instObj 76 d), (d, dictOf (ent w s1 s2 s3 s4 (.ref a) (.ref r) .none .none) n9), (a, lo (e1.vs.filter (keepV fun z => e2.ys.contains z)) na9), (r, lo (e1.rs ++ e2.rs) nr9)] ++ (nps.map PT.obj ++ RS.leds w nw))) (S9.sub _ (by walk_at "sub")) (by walk_at "nn") (by simp [RS.refs] at hpool ⊢; (first | walk_at "om" | lia | omega)) (fun h10 S10 => ⟨rfl, ?_⟩)
      repeat walk_at "v"
      refine r_itemlast (vs := RS.refs (es0 ++ nw)) (v := .ref x) (S10.mem (.head _)) ?_
      have hx10 : h10.get? x = some (instObj 76 d) := S10.mem (by walk_at "mm")
      have hd10 : h10.get? d = some (dictOf (ent w s1 s2 s3 s4 (.ref a) (.ref r) .none .none) n9) := S10.mem (by walk_at "mm")
      walk_at "get"
      repeat walk_at "v"
      have hfl := List.length_filter_le (keepV fun z => e2.ys.contains z) e1.vs
      refine r_len (l := a) (vs := e1.vs.filter (keepV fun z => e2.ys.contains z)) (n := na9) (S10.mem (by walk_at "mm")) (by (first | walk_at "om" | lia | omega)) (fun t11 tk11 => ?_)
      repeat walk_at "v"
      refine r_len (S10.mem (.head _)) (by simp [RS.refs] at hpool ⊢; (first | walk_at "om" | lia | omega)) (fun t12 tk12 => ?_)
      repeat walk_at "v"
      have eN : (((RS.refs (es0 ++ nw) ++ [Value.ref x]).length : Nat) : Int) - 1 = ((es0 ++ nw).length : Nat) := by simp [RS.refs]; (first | walk_at "om" | lia | omega)
      rw [eN]
      rename_i tN _
      refine r_newTuple S10 (by simp [hs24]) (fun T h11 S11 b1 b2 b3 => ?_)
      repeat walk_at "v"
      obtain ⟨pN, hpN⟩ : ∃ pN : PT, pN = ⟨T, t11, tN, (e1.vs.filter (keepV fun z => e2.ys.contains z)).length, (es0 ++ nw).length⟩ := ⟨_, rfl⟩
      have hTW : W < T := b1 (W, lo (pts2.map fun p => .ref p.t) (nW1 + 1 + 1)) (by walk_at "mm")
      have hTR : R < T := b1 (R, lo (RS.refs (es0 ++ nw) ++ [.ref x]) (nR1 + 1)) (by walk_at "mm")
      have S12 := S11.sub ((W, lo (pts2.map fun p => .ref p.t) (nW1 + 1 + 1)) :: (R, lo (RS.refs (es0 ++ nw) ++ [.ref x]) (nR1 + 1)) :: (T, tu [.int ((e1.vs.filter (keepV fun z => e2.ys.contains z)).length : Nat) t11, .int ((es0 ++ nw).length : Nat) tN]) :: ([(x, instObj 76 d), (d, dictOf (ent w s1 s2 s3 s4 (.ref a) (.ref r) .none .none) n9), (a, lo (e1.vs.filter (keepV fun z => e2.ys.contains z)) na9), (r, lo (e1.rs ++ e2.rs) nr9)] ++ (nps.map PT.obj ++ RS.leds w nw))) (by walk_at "sub")
      have hobs : ∀ p ∈ pts2 ++ [pN], h11.get? p.t = some p.obj.2 ∧ p.t ≠ W ∧ p.k < 16 := fun p hp => by
        rcases List.mem_append.mp hp with hp | hp
        · exact ptAt S12 (by walk_at "ss") p (hs2 p hp)
        · rw [List.mem_singleton.mp hp, hpN]
          exact ⟨S12.mem (by walk_at "mm"), ne_gt hTW, by dsimp only; (first | walk_at "om" | lia | omega)⟩
      have emap : (pts2 ++ [pN]).map (fun p => Value.ref p.t) = pts2.map (fun p => .ref p.t) ++ [.ref T] := by rw [hpN]; simp
      have hcmp := cmp_pts (w := w) hobs
      rw [emap] at hcmp
      refine r_call C S12 (heappush_fn (S12.mem (.head _)) (by simp; (first | walk_at "om" | lia | omega)) hcmp) (by (first | walk_at "om" | lia | omega)) (fun q hq => by rw [List.mem_singleton.mp hq]; exact (S12.nw _ (.head _)).2.1) (fun v h13 tk13 K13 hp13 => ⟨hp13.1, ?_⟩)
      have hw13 := hp13.2
      rw [← emap, List.length_map, sdown_pts (fun p hp => (hobs p hp).1)] at hw13
      have S13 := S12.call1 K13 hw13 (by walk_at "nn")
      have hkN : ((pts2 ++ [pN]).map (·.k)).Perm (r0 ++ [(es0 ++ nw).length]) := by
        rw [List.map_append]
        have : [pN].map (·.k) = [(es0 ++ nw).length] := by rw [hpN]; rfl
        rw [this]
        exact hr0.append_right _
      rw [hstep] at hgood'
      have hnd' : ((pts2 ++ [pN]).map codeP).Nodup := by
        have h16 : ∀ p ∈ pts2 ++ [pN], p.k < 16 := fun p hp => (hobs p hp).2.2
        have hn2 : ((pts2 ++ [pN]).map (·.k)).Nodup := hkN.symm.nodup (by
          have := hgood'.nodup
          rwa [List.length_map] at this)
        refine List.nodup_iff_pairwise_ne.mpr (List.pairwise_map.mpr ?_)
        refine (List.pairwise_map.mp (List.nodup_iff_pairwise_ne.mp hn2)).imp_of_mem (fun {a b} ha hb hab q => hab ?_)
        exact kcode_inj (p := (a.m, a.k)) (q := (b.m, b.k)) (h16 a ha) (h16 b hb) q
      obtain ⟨hpp, hheap'⟩ := push_good (code := codeP) (us := pts2) (v := pN) (by (first | walk_at "om" | lia | omega)) hnd' hh2
      have een : (es0 ++ nw ++ [e']).map RS.en = (es0 ++ nw).map RS.en ++ [mergeE e1.en e2.en] := by rw [List.map_append, he']; rfl
      have ge1 : ((es0 ++ nw).map RS.en).getD p1.k enD = e1.en := by rw [RS.get_en hk1, he1]
      have ge2 : ((es0 ++ nw).map RS.en).getD p2.k enD = e2.en := by rw [RS.get_en hk2, he2]
      rw [ge1, ge2, List.length_map] at hgood' hstep
      repeat walk_at "v"
      walk_at "x"; refine TurnEnd.intro (σ := WS) ⟨sdown (ltC codeP) 0 (pts2 ++ [pN]) pts2.length, nps ++ [pN], nw ++ [e'], nR1 + 1, nW1 + 1 + 1 + 1⟩ (St.fit _ _ S13 (by walk_at "kn") ?_) ⟨⟨i + 1, r0 ++ [(es0 ++ nw).length], by (first | walk_at "om" | lia | omega), ?_, ?_, ?_⟩, ?_, hheap', ?_, ?_, ?_⟩ ?_
      · try dsimp only
        rw [← List.append_assoc, RS.refs_snoc, RS.leds_snoc, List.map_append, hpN, he']
        simp only [List.map_cons, List.map_nil, RS.led]
        walk_at "sub"
      · try dsimp only
        rw [← List.append_assoc, een]
        show _ = mrgStep (mrun _ i)
        rw [← hrun, hstep]
      · try dsimp only
        rw [← List.append_assoc, een]
        exact hgood'
      · exact (hpp.map _).trans hkN
      · intro p hp
        try dsimp only at hp ⊢
        rw [← List.append_assoc, een]
        rcases List.mem_append.mp (hpp.mem_iff.mp hp) with hp | hp
        · have hpk := hgood.lt _ (hklf.mem_iff.mp (List.mem_map_of_mem (f := fun p : PT => p.k) (hs2 p hp)))
          rw [hm p (hs2 p hp)]
          simp only [List.getD]
          rw [List.getElem?_append_left hpk]
        · rw [List.mem_singleton.mp hp, hpN]
          try dsimp only
          simp only [List.getD]
          rw [List.getElem?_append_right (by simp)]
          simp only [List.length_map, Nat.sub_self, List.getElem?_cons_zero, Option.getD_some]
          exact (strs_filter (Sf := fun z => e2.ys.contains z) z1.sa).length
      · intro e he
        try dsimp only at he ⊢
        rw [← List.append_assoc] at he ⊢
        have hl : (es0 ++ nw ++ [e']).length = (es0 ++ nw).length + 1 := by simp; (first | walk_at "om" | lia | omega)
        rw [hl, Nat.pow_succ]
        rcases List.mem_append.mp he with he | he
        · have z := heok e he
          exact ⟨z.sa, z.ia, z.len, by have := z.rlen; (first | walk_at "om" | lia | omega)⟩
        · rw [List.mem_singleton.mp he, he']
          refine ⟨strs_filter z1.sa, z1.ia.append z2.ia, ?_, ?_⟩
          · show (e1.vs.filter _).length ≤ 12
            (first | walk_at "om" | lia | omega)
          · show (e1.rs ++ e2.rs).length ≤ _
            rw [List.length_append]; (first | walk_at "om" | lia | omega)
      · intro p hp
        try dsimp only at hp ⊢
        rcases List.mem_append.mp (hpp.mem_iff.mp hp) with hp | hp
        · rcases hsub p (hs2 p hp) with h | h
          · exact .inl h
          · exact .inr (List.mem_append_left _ h)
        · exact .inr (List.mem_append_right _ hp)
      · try dsimp only
        rw [RS.leds_snoc, List.map_append, hpN, he']
        simp only [List.map_cons, List.map_nil, RS.led]
        intro p hp
        have n1 : ∀ p ∈ (nps.map PT.obj ++ [PT.obj ⟨T, t11, tN, (e1.vs.filter (keepV fun z => e2.ys.contains z)).length, (es0 ++ nw).length⟩]) ++ (RS.leds w nw ++ [(x, instObj 76 d), (d, dictOf (ent w s1 s2 s3 s4 (.ref a) (.ref r) .none .none) n9), (a, lo (e1.vs.filter (keepV fun z => e2.ys.contains z)) na9), (r, lo (e1.rs ++ e2.rs) nr9)]), p.1 ≠ W := by
          unfold PT.obj at hX1 ⊢
          walk_at "nn"
        have n2 : ∀ p ∈ (nps.map PT.obj ++ [PT.obj ⟨T, t11, tN, (e1.vs.filter (keepV fun z => e2.ys.contains z)).length, (es0 ++ nw).length⟩]) ++ (RS.leds w nw ++ [(x, instObj 76 d), (d, dictOf (ent w s1 s2 s3 s4 (.ref a) (.ref r) .none .none) n9), (a, lo (e1.vs.filter (keepV fun z => e2.ys.contains z)) na9), (r, lo (e1.rs ++ e2.rs) nr9)]), p.1 ≠ R := by
          unfold PT.obj at hX2 ⊢
          walk_at "nn"
        exact ⟨n1 p hp, n2 p hp⟩
      · try dsimp only
        rw [sdown_len]
        simp
        (first | walk_at "om" | lia | omega)
    · have hi3' : i = 3 := by
        have := of_decide_eq_false hb
        rw [List.length_map] at this
        (first | walk_at "om" | lia | omega)
      subst hi3'
      have hl7 : (es0 ++ nw).length = 7 := hpool
      repeat walk_at "v"
      have KB6 := S6.kb gk
      walk_at "x"; refine next h6 _ nR1 nw (F.next KB6 (St.re S6 (kn' := [(Str.ofString "records", .ref R)]) (kn_sub (by walk_at "kn"))).ns (fun d hd => by
        simp only [List.mem_cons, List.not_mem_nil, or_false] at hd
        rcases hd with rfl | rfl
        · exact gW0
        · exact gR0) (fun i' h1 h4' hm' => by
        simp only [List.mem_cons, List.not_mem_nil, or_false] at hm'
        rcases hm' with e | e
        · exact absurd e.symm (off_seq F hW rfl i' h4')
        · exact absurd e.symm (off_seq F hR rfl i' h4'))) KB6 (S6.mem (.tail _ (.head _))) (by simp [h4] at hl7; (first | walk_at "om" | lia | omega)) (by rw [← hrun]) (fun p hp => ?_) (fun e he => ?_)
      · have hmem : p ∈ (W, lo (pts.map fun p => Value.ref p.t) nW1) :: (R, lo (RS.refs (es0 ++ nw)) nR1) :: (nps.map PT.obj ++ RS.leds w nw) := .tail _ (.tail _ (List.mem_append_right _ hp))
        exact ⟨S6.mem hmem, hY2 p hp, S6.fresh gk hmem (by
          have z := hoff p (List.mem_append_right _ hp)
          simp only [List.mem_cons, List.not_mem_nil, or_false, not_or]
          exact ⟨(S6.nw _ hmem).2.2, z.1, z.2⟩)⟩
      · have z := heok e (List.mem_append_right _ he)
        rw [hl7] at z
        exact z
end
section
set_option maxRecDepth 100000
set_option maxHeartbeats 0
noncomputable def dRec (ys : List Str) (zs : List Int) : PyData := .tuple [.list (ys.map .str), .list (zs.map .int)]
noncomputable abbrev InMenu (ys : List Str) : Prop := ∀ y ∈ ys, y ∈ menu8
theorem menu_ok : ∀ y ∈ menu8, PyData.strOk y = true := by decide +kernel
theorem canLay_strs : ∀ ys : List Str, InMenu ys → PyData.canLayAll0 (ys.map PyData.str) = true
  | [], _ => rfl
  | y :: r, h => by simp [PyData.canLayAll0, PyData.canLay0, canLay_strs r fun y hy => h y (.tail _ hy), menu_ok y (h y (.head _))]
theorem depth_strs : ∀ ys : List Str, PyData.depthAll (ys.map PyData.str) = 0
  | [] => rfl
  | _ :: r => by simp [PyData.depthAll, PyData.depth, depth_strs r]
theorem shaped_rec (ys : List Str) (zs : List Int) (hm : InMenu ys) : SeqAt.shaped (dRec ys zs) = true := by
  simp [SeqAt.shaped, dRec, PyData.canLay0, PyData.canLayAll0, PyData.depth, PyData.depthAll, canLay_strs ys hm, depth_strs, ke_canLayAll0, ke_depthAll]
theorem shaped_recs (ds : List (List Str × List Int)) (hm : ∀ d ∈ ds, InMenu d.1) : SeqAt.shaped (.list (ds.map fun d => dRec d.1 d.2)) = true := by
  have h1 : ∀ ds : List (List Str × List Int), (∀ d ∈ ds, InMenu d.1) → PyData.canLayAll0 (ds.map fun d => dRec d.1 d.2) = true := by
    intro ds
    induction ds with
    | nil => intro _; rfl
    | cons d r ih =>
      intro h
      have z := ih fun d hd => h d (.tail _ hd)
      have y := canLay_strs d.1 (h d (.head _))
      simp [PyData.canLayAll0, dRec, PyData.canLay0, y, ke_canLayAll0] at z ⊢
      exact z
  have h2 : ∀ ds : List (List Str × List Int), PyData.depthAll (ds.map fun d => dRec d.1 d.2) ≤ 3 := by
    intro ds
    induction ds with
    | nil => simp [PyData.depthAll]
    | cons d r ih => simp [PyData.depthAll, dRec, PyData.depth, depth_strs, ke_depthAll] at ih ⊢; (first | walk_at "om" | omega)
  have := h2 ds
  simp [SeqAt.shaped, PyData.canLay0, PyData.depth, h1 ds hm]
  (first | walk_at "om" | omega)
theorem reads_rec {h : Heap} {T al rl : Addr} {av rv : List Value} {na nr : Nat} {ys : List Str} {zs : List Int} (hT : h.get? T = some (tu [.ref al, .ref rl])) (ha : h.get? al = some (lo av na)) (hr : h.get? rl = some (lo rv nr)) (sa : StrsAre av ys) (ia : IntsAre rv zs) :
    ∃ as, Reads h (.ref T) (dRec ys zs) as := ⟨_, .tuple hT rfl rfl (.cons (.list ha rfl rfl (sa.reads h)) (.cons (.list hr rfl rfl (ia.reads h)) .nil))⟩
theorem ne_same {prog : Program} {w : World} {A : Around} {E : Value → Shared → Prop} {s : Shared} {a b : Value} {d : PyData} {Q : Value → Shared → Prop} (ra : ∃ as, Reads s.heap a d as) (rb : ∃ as, Reads s.heap b d as) (hs : SeqAt.shaped d = true) (hu : A.units + 64 < cLine) (h : Q (.bool false) s) :
    wpAny (model prog w) A (compareOp .NotEq a b) Q E s := by
  obtain ⟨as, ra⟩ := ra
  obtain ⟨bs, rb⟩ := rb
  refine ne_dataH ra rb hs hs hu ?_
  rw [eqv_refl d (SeqAt.canLay_of_shaped hs)]
  exact h
set_option genInjectivity false in
set_option genSizeOf false in
structure TR where
  t : Addr
  al : Addr
  rl : Addr
noncomputable def TR.obj (q : TR) : Addr × Obj := (q.t, tu [.ref q.al, .ref q.rl])
end
section
set_option maxRecDepth 100000
set_option maxHeartbeats 0
theorem seg7 (w : World) : LawAt w fun body scope qual => ∀ s0, body[7]? = some s0 → ∀ {prog A g0 hp G D tk o L fa cd k R nR} {es : List RS} {e : RS} {rest : List Stmt} {Q : Flow → Shared → Prop},
    Fz w A (k + 8) g0 L hp [(Str.ofString "records", .ref R)] → hp.get? R = some (lo (RS.refs (es ++ [e])) nR) →
    (∀ (hp' : Heap) (tk' : Nat), Fz w A (k + 8) g0 L hp' [(Str.ofString "records", .ref R)] → KB [L, L + 2] hp hp' → hp'.IsCell (L + 2) (some (.ref e.x)) → wpAny (model prog w) A (execs rest (envOfC qual scope L fa cd)) Q NoE ⟨hp', G, D, tk', o⟩) →
    wpAny (model prog w) A (execs (s0 :: rest) (envOfC qual scope L fa cd)) Q NoE ⟨hp, G, D, tk, o⟩ := by
  refine' LawAt.intro ?ho ?_
  case ho => k_is
  intro s0 i0
  cases i0
  intro prog A g0 hp G D tk o L fa cd k R nR es e rest Q F hR next
  obtain ⟨oC, vC, eC, hC⟩ := F.cellObj (i := 2) (by (first | walk_at "om" | omega)) (by (first | walk_at "om" | omega))
  obtain ⟨g, C, gL, S, gk, gh, gn, gg⟩ := F.start [L + 2] [(L + 2, oC)] (fun d hd => by rw [List.mem_singleton.mp hd]; exact F.n0 2 (by (first | walk_at "om" | omega))) (fun p hp => by rw [List.mem_singleton.mp hp]; exact ⟨eC, .head _, (Nat.ne_of_gt (Nat.lt_add_of_pos_right (by decide)))⟩)
  have oR := off_seq F hR rfl
  have gR := gk _ _ hR (by simp only [List.mem_cons, List.not_mem_nil, or_false, not_or]; exact ⟨oR.l, oR 2 (by (first | walk_at "om" | omega))⟩)
  repeat walk_at "v"
  refine r_itemlast (vs := RS.refs es) (v := .ref e.x) (n := nR) (by rw [← RS.refs_snoc]; exact S.keep _ _ gR) ?_
  refine r_cellstore (c := L + 2) (oc := oC) (led := []) S (by simp) hC (fun h6 oA' cA S6 => ?_) rfl rfl rfl
  have K := S6.kb gk
  have cA' : h6.IsCell (L + 2) (some (.ref e.x)) := ⟨oA', S6.mem (.head _), cA⟩
  walk_at "x"; refine next h6 _ (F.next K S6.ns (fun d hd => by rw [List.mem_singleton.mp hd]; exact F.n0 2 (by (first | walk_at "om" | omega))) (fun i _ _ hm => ?_)) K cA'
  rw [List.mem_singleton.mp hm]; exact ⟨_, cA'⟩
theorem seg8 (w : World) : LawAt w fun body scope qual => ∀ s0, body[8]? = some s0 → ∀ {prog A g0 hp G D tk o L fa cd k R B n} {e0 e1 e2 e3 : AL} {rest : List Stmt} {Q : Flow → Shared → Prop},
    Fz w A (k + 8) g0 L hp [(Str.ofString "records", .ref R)] → hp.IsCell (L + 1) (some (.ref B)) → hp.get? B = some (lo (([e0, e1, e2, e3] : List AL).map fun e => .ref e.a) n) → (∀ e ∈ [e0, e1, e2, e3], e.ok hp) →
    (∀ (hp' : Heap) (tk' : Nat) (T : Addr), Fz w A (k + 8) g0 L hp' [(Str.ofString "due", .ref T), (Str.ofString "records", .ref R)] → KB [L] hp hp' → PlainPost hp (plainS0 e0.ys e1.ys e2.ys e3.ys) (.ref T) hp' → wpAny (model prog w) A (execs rest (envOfC qual scope L fa cd)) Q NoE ⟨hp', G, D, tk', o⟩) →
    wpAny (model prog w) A (execs (s0 :: rest) (envOfC qual scope L fa cd)) Q NoE ⟨hp, G, D, tk, o⟩ := by
  refine' LawAt.intro ?ho ?_
  case ho => k_is
  intro s0 i0
  cases i0
  intro prog A g0 hp G D tk o L fa cd k R B n e0 e1 e2 e3 rest Q F hcA hB hal next
  obtain ⟨g, C, gL, S, gk, gh, gn, gg⟩ := F.start [] [] (by simp) (by simp)
  obtain ⟨oA, eA, cA⟩ := hcA
  have gA : g.get? (L + 1) = some oA := gk _ _ eA (by simp)
  repeat walk_at "v"
  refine r_call C S (plain_fn hB hal) (by (first | walk_at "om" | omega)) (by simp) (fun v h4 tk4 K hp4 => ?_)
  obtain ⟨T, al, rl, av, na, rv, nr, ys, zs, rfl, p1, p2, p3, p4, p5, p6, f1, f2, f3, p7, p8⟩ := hp4
  have S4 := S.call0 K
  obtain ⟨S5, _, _⟩ := S.call_new K p1 f1
  obtain ⟨S6, _, _⟩ := S.call_new K p2 f2
  obtain ⟨S7, _, _⟩ := S.call_new K p3 f3
  have S8 : St g L h4 _ [(T, tu [.ref al, .ref rl]), (al, lo av na), (rl, lo rv nr)] := (((S4.add p3 (S7.nw _ (.head _)).2.1 (S7.nw _ (.head _)).2.2).add p2 (S6.nw _ (.head _)).2.1 (S6.nw _ (.head _)).2.2).add p1 (S5.nw _ (.head _)).2.1 (S5.nw _ (.head _)).2.2)
  repeat walk_at "v"
  rename_i h9 tk9 S9
  have K9 := S9.kb gk
  walk_at "x"; refine next h9 _ T (F.next K9 S9.ns (by simp) (fun _ _ _ h => by simp at h)) K9 ⟨T, al, rl, av, na, rv, nr, ys, zs, rfl, S9.mem (.head _), S9.mem (.tail _ (.head _)), S9.mem (.tail _ (.tail _ (.head _))), p4, p5, p6, f1, f2, f3, p7, p8⟩
theorem seg9 (w : World) : LawAt w fun body scope qual => ∀ s0, body[9]? = some s0 → ∀ {prog A g0 hp G D tk o L fa cd k R T al rl na nr av rv} {e : RS} {rest : List Stmt} {Q : Flow → Shared → Prop},
    Fz w A (k + 8) g0 L hp [(Str.ofString "due", .ref T), (Str.ofString "records", .ref R)] → hp.IsCell (L + 2) (some (.ref e.x)) → (∀ p ∈ e.led w, hp.get? p.1 = some p.2 ∧ p.1 ≠ L) → hp.get? T = some (tu [.ref al, .ref rl]) → hp.get? al = some (lo av na) → hp.get? rl = some (lo rv nr) → StrsAre av e.ys → IntsAre rv e.zs → StrsAre e.vs e.ys → IntsAre e.rs e.zs → InMenu e.ys →
    (∀ (hp' : Heap) (tk' : Nat), Fz w A (k + 8) g0 L hp' [(Str.ofString "due", .ref T), (Str.ofString "records", .ref R)] → KB [L] hp hp' → wpAny (model prog w) A (execs rest (envOfC qual scope L fa cd)) Q NoE ⟨hp', G, D, tk', o⟩) →
    wpAny (model prog w) A (execs (s0 :: rest) (envOfC qual scope L fa cd)) Q NoE ⟨hp, G, D, tk, o⟩ := by
  have hs24 : sizeLine = 16777216 := rfl
  refine' LawAt.intro ?ho ?_
  case ho => k_is
  intro s0 i0
  cases i0
  intro prog A g0 hp G D tk o L fa cd k R T al rl na nr av rv e rest Q F hcA he hT hal hrl sa1 ia1 sa2 ia2 hmenu next
  obtain ⟨g, C, gL, S, gk, gh, gn, gg⟩ := F.start [] [] (by simp) (by simp)
  have gka : ∀ b o, hp.get? b = some o → b ≠ L → g.get? b = some o := fun b o e n => gk b o e (by simpa using n)
  obtain ⟨oA, eA, cA⟩ := hcA
  have gA : g.get? (L + 2) = some oA := gka _ _ eA (Nat.ne_of_gt (Nat.lt_add_of_pos_right (by decide)))
  have gT := gka _ _ hT (off_seq F hT rfl).l
  have gal := gka _ _ hal (off_seq F hal rfl).l
  have grl := gka _ _ hrl (off_seq F hrl rfl).l
  have gx := gka _ _ (he _ (.head _)).1 (he _ (.head _)).2
  have gd := gka _ _ (he _ (.tail _ (.head _))).1 (he _ (.tail _ (.head _))).2
  have gp := gka _ _ (he _ (.tail _ (.tail _ (.head _)))).1 (he _ (.tail _ (.tail _ (.head _)))).2
  have gr := gka _ _ (he _ (.tail _ (.tail _ (.tail _ (.head _))))).1 (he _ (.tail _ (.tail _ (.tail _ (.head _))))).2
  dsimp only at gx gd gp gr
  repeat walk_at "v"
  refine wpAny_If ?_
  repeat walk_at "v"
  walk_at "get"
  repeat walk_at "v"
  walk_at "get"
  repeat walk_at "v"
  refine r_newTuple S (by simp [hs24]) (fun T2 h5 S5 b1 b2 b3 => ?_)
  repeat walk_at "v"
  refine ne_same (s := ⟨h5, G, D, _, o⟩) (reads_rec (S5.mem (.head _)) (S5.keep _ _ gp) (S5.keep _ _ gr) sa2 ia2) (reads_rec (S5.keep _ _ gT) (S5.keep _ _ gal) (S5.keep _ _ grl) sa1 ia1) (shaped_rec _ _ hmenu) (by have := C.hu; (first | walk_at "om" | omega)) ?_
  repeat walk_at "v"
  have K9 := S5.kb gk
  walk_at "x"; exact next h5 _ (F.next K9 S5.ns (by simp) (fun _ _ _ h => by simp at h)) K9
end
section
set_option maxRecDepth 100000
set_option maxHeartbeats 0
noncomputable def star : Str := Str.ofString "*"
noncomputable def lows6 : List Str := [Str.ofString "a", Str.ofString "b", Str.ofString "ab", Str.ofString "ba", Str.ofString "", Str.ofString "a/"]
noncomputable def pt (k : Str) : Str := patText k.cps.toList
noncomputable def nextLayer (l : List Str) : List Str := l.flatMap fun n => [n ++ Str.ofString "/", n ++ Str.ofString "B", n ++ Str.ofString "a"]
noncomputable def layer0 : List Str := [Str.ofString ""]
noncomputable def layer1 : List Str := nextLayer layer0
noncomputable def layer2 : List Str := nextLayer layer1
noncomputable def layer3 : List Str := nextLayer layer2
noncomputable def names40 : List Str := layer0 ++ layer1 ++ layer2 ++ layer3
noncomputable def headL (n : Str) : Str := Txt.lower (Txt.slice n none (some (Txt.find (n ++ Str.ofString "/") (Str.ofString "/"))))
theorem low_menu : ∀ y ∈ menu8, (y != star) = true → Txt.lower y ∈ lows6 := by decide +kernel
theorem low_form : ∀ k ∈ lows6, Str.ofString "*" ++ k ++ Str.ofString "*" = ⟨(42 :: (k.cps.toList ++ [42])).toArray⟩ := by decide +kernel
theorem low_codes : ∀ k ∈ lows6, (∀ c ∈ k.cps.toList, c = 97 ∨ c = 98 ∨ c = 47) ∧ k.length ≤ 2 := by decide +kernel
theorem low_text : ∀ k ∈ lows6, Txt.slice (pt k) none (some 4) ++ Txt.slice (pt k) (some (-3)) none = Str.ofString "(?s:)\\Z" := by decide +kernel
theorem low_size : ∀ k ∈ lows6, (pt k).length ≤ 100 ∧ ∀ r ∈ runsOf (pt k), r.2.length ≤ 100 := by decide +kernel
theorem names_size : ∀ n ∈ names40, n.length ≤ 3 := by decide +kernel
theorem names_head : ∀ n ∈ names40, headOf n = headL n := by decide +kernel
theorem takes_all : ∀ n ∈ names40, ∀ k ∈ lows6, takesGo (headL n) (runsOf (pt k)) 0 = Txt.contains (headL n) k := by decide +kernel
theorem names_len : names40.length = 40 := by decide +kernel
theorem names_nodup : names40.Nodup := by decide +kernel
end
section
set_option maxRecDepth 100000
set_option maxHeartbeats 0
noncomputable def als4 (a0 a1 a2 a3 : Addr) (c : S4) : List AL := [⟨a0, c.1.av, c.1.na, c.1.ys⟩, ⟨a1, c.2.1.av, c.2.1.na, c.2.1.ys⟩, ⟨a2, c.2.2.1.av, c.2.2.1.na, c.2.2.1.ys⟩, ⟨a3, c.2.2.2.av, c.2.2.2.na, c.2.2.2.ys⟩]
end
section
set_option maxRecDepth 100000
set_option maxHeartbeats 0
theorem seg10 (w : World) : LawAt w fun body scope qual => ∀ s0, body[10]? = some s0 → ∀ {prog A g0 hp G D tk o L fa cd k R T B nR a0 a1 a2 a3} {c : S4} {es0 nw : List RS} {rest : List Stmt} {Q : Flow → Shared → Prop},
    Fz w A (k + 8) g0 L hp [(Str.ofString "due", .ref T), (Str.ofString "records", .ref R)] → hp.IsCell (L + 1) (some (.ref B)) → hp.get? B = some (lo [.ref a0, .ref a1, .ref a2, .ref a3] 0) → (∀ p ∈ led4 a0 a1 a2 a3 c, hp.get? p.1 = some p.2) → (∀ e ∈ cs4 c, e.good 12) →
    hp.get? R = some (lo (RS.refs (es0 ++ nw)) nR) → nw.length ≤ 10 → (∀ p ∈ RS.leds w es0, hp.get? p.1 = some p.2 ∧ p.1 ≠ L) → es0.length = 4 → (∀ j e, es0[j]? = some e → e.ok 1 ∧ e.ys = ((cs4 c).getD j slD).ys ∧ e.zs = [(j : Int)]) →
    (∀ (hp' : Heap) (tk' : Nat), Fz w A (k + 8) g0 L hp' [(Str.ofString "due", .ref T)] → KB [L] hp hp' → wpAny (model prog w) A (execs rest (envOfC qual scope L fa cd)) Q NoE ⟨hp', G, D, tk', o⟩) →
    wpAny (model prog w) A (execs (s0 :: rest) (envOfC qual scope L fa cd)) Q NoE ⟨hp, G, D, tk, o⟩ := by
  have hs24 : sizeLine = 16777216 := rfl
  refine' LawAt.intro ?ho ?_
  case ho => k_is
  intro s0 i0
  cases i0
  intro prog A g0 hp G D tk o L fa cd k R T B nR a0 a1 a2 a3 c es0 nw rest Q F hcA hB ha hgd hR hnw hes h4 heok next
  obtain ⟨g, C, gL, S, gk, gh, gn, gg⟩ := F.start [] [] (by simp) (by simp)
  have gka : ∀ b o, hp.get? b = some o → b ≠ L → g.get? b = some o := fun b o e n => gk b o e (by simpa using n)
  obtain ⟨oA, eA, cA⟩ := hcA
  have gA : g.get? (L + 1) = some oA := gka _ _ eA (Nat.succ_ne_self L)
  have gB := gka _ _ hB (off_seq F hB rfl).l
  have gR := gka _ _ hR (off_seq F hR rfl).l
  have ges : ∀ p ∈ RS.leds w es0, g.get? p.1 = some p.2 := fun p hp => gka _ _ (hes p hp).1 (hes p hp).2
  have hac : ∀ e ∈ als4 a0 a1 a2 a3 c, g.get? e.a = some (lo e.av e.na) := by
    intro e he
    simp only [als4, List.mem_cons, List.not_mem_nil, or_false] at he
    rcases he with rfl | rfl | rfl | rfl
    · have e := ha (a0, _) (.head _); exact gka _ _ e (off_seq F e rfl).l
    · have e := ha (a1, _) (.tail _ (.head _)); exact gka _ _ e (off_seq F e rfl).l
    · have e := ha (a2, _) (.tail _ (.tail _ (.head _))); exact gka _ _ e (off_seq F e rfl).l
    · have e := ha (a3, _) (.tail _ (.tail _ (.tail _ (.head _)))); exact gka _ _ e (off_seq F e rfl).l
  repeat walk_at "v"
  refine wpAny_If ?_
  repeat walk_at "v"
  refine r_lslice ?_ (fun _ _ => rfl)
  repeat walk_at "v"
  refine r_sliceL (g := g) (L := L) none (some 4) (RS.refs es0) (vs := RS.refs (es0 ++ nw)) S (isList_of (S.keep _ _ gR)) (by simp [RS.refs]; (first | walk_at "om" | omega)) .none (.int _ _) (by
    have := slicePick_uptoAny (RS.refs (es0 ++ nw)).toArray 4
    refine this.trans ?_
    congr 1
    simp [RS.refs, h4]) (fun Ds h5 S5 l1 l2 => ?_)
  refine' r_compL C.hh S5 gL (S5.mem (.head _)) (.inr ⟨_, .head _⟩) (by simp [RS.refs]; (first | walk_at "om" | omega)) (fun i us nl => ∃ ts : List TR, us = ts.map (fun q => .ref q.t) ∧ nl = ts.map TR.obj ∧ ts.length = i ∧ ∀ (j : Nat) q, ts[j]? = some q → ∃ e, es0[j]? = some e ∧ q.al = e.p ∧ q.rl = e.r) ⟨[], rfl, rfl, rfl, by simp⟩ ?_ ?_ ?hcell ?hkind ?hx
  walk_at "cs"
  · rintro Dl K i us nl v h6 t6 n6 own hv ⟨ts, rfl, rfl, hts, hq⟩ hnl hlD gK S6
    have hi := (List.getElem?_eq_some_iff.mp hv).1
    obtain ⟨e, he, rfl⟩ : ∃ e, es0[i]? = some e ∧ Value.ref e.x = v := by
      have : (RS.refs es0)[i]? = (es0[i]?).map fun e => .ref e.x := by unfold RS.refs; rw [List.getElem?_map]
      rw [this] at hv
      obtain ⟨e, he, rfl⟩ := Option.map_eq_some_iff.mp hv
      exact ⟨e, he, rfl⟩
    have hem := List.mem_of_getElem? he
    have gx := ges _ (RS.mem hem (.head _))
    have gd := ges _ (RS.mem hem (.tail _ (.head _)))
    dsimp only at gx gd
    repeat walk_at "v"
    walk_at "get"
    repeat walk_at "v"
    walk_at "get"
    repeat walk_at "v"
    refine r_newTuple S6 (by simp [hs24]) (fun T2 h7 S7 d1 d2 d3 => ?_)
    walk_at "z"; refine CY.intro (ts.map TR.obj ++ [TR.obj ⟨T2, e.p, e.r⟩]) (S7.cy [(T2, _)] (fun p hp => ?_)) ⟨ts ++ [⟨T2, e.p, e.r⟩], by simp, by simp, by simp [hts], fun j q hj => ?_⟩ (fun p hp => ?_)
    · rcases List.mem_append.mp hp with hp | hp
      · exact .inl hp
      · exact .inr hp
    · rcases Nat.lt_or_ge j ts.length with hlt | hge
      · rw [List.getElem?_append_left hlt] at hj
        exact hq j q hj
      · have hj1 := (List.getElem?_eq_some_iff.mp hj).1
        have hji : j = i := by simp at hj1; (first | walk_at "om" | omega)
        subst hji
        rw [List.getElem?_append_right hge, hts] at hj
        simp at hj
        subst hj
        exact ⟨e, he, rfl, rfl⟩
    · rcases List.mem_append.mp hp with hp | hp
      · exact hnl p hp
      · rw [List.mem_singleton.mp hp]; exact d1 _ (.head _)
  · rintro Dl us nl n6 t6 ⟨ts, rfl, rfl, hts, hq⟩ hnl hlD hLD gD
    refine CDone.val (fun h6 S6 => ?_)
    repeat walk_at "v"
    refine r_range S6 (fun r h7 t1 t2 tk7 S7 l7 => ?_)
    refine' r_compR (N := 4) C.hh S7 gL (S7.mem (.head _)) (by decide) (fun i us nl => ∃ ps : List PE, ps.length = i ∧ us = PE.refs ps ∧ nl = PE.leds ps ∧ ∀ j p, ps[j]? = some p → ∃ e t rl u, (als4 a0 a1 a2 a3 c)[j]? = some e ∧ p = initPE e j t rl u) ⟨[], rfl, rfl, rfl, by simp⟩ ?_ ?_ ?hcell ?hkind ?hx (by decide) (by decide)
    walk_at "cs"
    · rintro Dm K i us nl u h8 t8 n8 own hi ⟨ps, p1, rfl, rfl, p2⟩ hnl2 hlD2 gK S8
      obtain ⟨al, hal⟩ : ∃ al, (als4 a0 a1 a2 a3 c)[i]? = some al := ⟨_, List.getElem?_eq_getElem (by simpa [als4] using hi)⟩
      have hBi : ([.ref a0, .ref a1, .ref a2, .ref a3] : List Value)[((i : Nat) : Int).toNat]? = some (.ref al.a) := by
        have h4 : i = 0 ∨ i = 1 ∨ i = 2 ∨ i = 3 := by (first | walk_at "om" | omega)
        rcases h4 with rfl | rfl | rfl | rfl <;> cases hal <;> rfl
      repeat walk_at "v"
      refine r_item (v := .ref al.a) (S8.keep _ _ gB) (by (first | walk_at "om" | omega)) (by (first | walk_at "om" | omega)) hBi ?_
      repeat walk_at "v"
      refine r_newList S8 (by simp [hs24]) (fun a1' h9 S9 b1 b2 b3 => ?_)
      repeat walk_at "v"
      refine r_newTuple S9 (by simp [hs24]) (fun a2' h10 S10 d1 d2 d3 => ?_)
      have q1 : Dm < a1' := b1 _ (.head _)
      have q2 : a1' < a2' := d1 _ (.head _)
      walk_at "z"; refine CY.intro (PE.leds ps ++ (initPE al i a2' a1' u).led) (S10.cy [(a2', _), (a1', _)] (fun p hp => ?_)) ⟨ps ++ [initPE al i a2' a1' u], by simp [p1], by simp [PE.refs, initPE], by rw [PE.leds_snoc], fun j p hj => ?_⟩ (fun p hp => ?_)
      · rcases List.mem_append.mp hp with hp | hp
        · exact .inl hp
        · exact .inr (by simpa [PE.led, initPE] using hp)
      · rcases Nat.lt_or_ge j ps.length with hlt | hge
        · rw [List.getElem?_append_left hlt] at hj
          exact p2 j p hj
        · have hj1 := (List.getElem?_eq_some_iff.mp hj).1
          have hji : j = i := by simp at hj1; (first | walk_at "om" | omega)
          subst hji
          rw [List.getElem?_append_right hge, p1] at hj
          have e : initPE al j a2' a1' u = p := by simpa using hj
          exact ⟨al, a2', a1', u, hal, e.symm⟩
      · rcases List.mem_append.mp hp with hp | hp
        · exact hnl2 p hp
        · have : p = (a2', tu [.ref al.a, .ref a1']) ∨ p = (a1', lo [.int (i : Nat) u] 0) := by simpa [PE.led, initPE] using hp
          rcases this with rfl | rfl
          · exact Nat.lt_trans q1 q2
          · exact q1
    · rintro Dm us nl n8 t8 ⟨ps, p1, rfl, rfl, p2⟩ hnl2 hlD2 hLD2 gD2
      refine CDone.val (fun h8 S8 => ?_)
      repeat walk_at "v"
      obtain ⟨pa, pb, pc, pd, rfl⟩ := four_of p1
      have hts4 : ts.length = 4 := by rw [hts]; simp [RS.refs, h4]
      obtain ⟨ta, tb, tc, td, rfl⟩ := four_of hts4
      obtain ⟨_, u1, v1, x1, ea, rfl⟩ := p2 0 pa rfl
      obtain ⟨_, u2, v2, x2, eb, rfl⟩ := p2 1 pb rfl
      obtain ⟨_, u3, v3, x3, ec, rfl⟩ := p2 2 pc rfl
      obtain ⟨_, u4, v4, x4, ed, rfl⟩ := p2 3 pd rfl
      cases ea; cases eb; cases ec; cases ed
      have hlead : ∀ (j : Nat) q, [ta, tb, tc, td][j]? = some q → ∃ as, Reads h8 (.ref q.t) (dRec ((cs4 c).getD j slD).ys [(j : Int)]) as := fun j q hj => by
        obtain ⟨e, he, e1, e2⟩ := hq j q hj
        have hem := List.mem_of_getElem? he
        obtain ⟨z, ey, ez⟩ := heok j e he
        rw [← ey, ← ez]
        have hqm : q.obj ∈ [ta, tb, tc, td].map TR.obj := List.mem_map_of_mem (List.mem_of_getElem? hj)
        have ht := S8.mem ((by walk_at "ss" : ∀ p ∈ [ta, tb, tc, td].map TR.obj, p ∈ _) _ hqm)
        unfold TR.obj at ht
        rw [e1, e2] at ht
        exact reads_rec ht (S8.keep _ _ (ges _ (RS.mem hem (.tail _ (.tail _ (.head _)))))) (S8.keep _ _ (ges _ (RS.mem hem (.tail _ (.tail _ (.tail _ (.head _))))))) z.sa z.ia
      have hright : ∀ (j : Nat) (al : AL) t rl u, (initPE al j t rl u) ∈ [initPE _ 0 u1 v1 x1, initPE _ 1 u2 v2 x2, initPE _ 2 u3 v3 x3, initPE _ 3 u4 v4 x4] → al ∈ als4 a0 a1 a2 a3 c → StrsAre al.av al.ys → ∃ as, Reads h8 (.ref t) (dRec al.ys [(j : Int)]) as := fun j al t rl u hm hal hsa => by
        have h1 := S8.mem ((by walk_at "ss" : ∀ p ∈ PE.leds _, p ∈ _) _ (PE.mem hm (.head _)))
        have h2 := S8.mem ((by walk_at "ss" : ∀ p ∈ PE.leds _, p ∈ _) _ (PE.mem hm (.tail _ (.head _))))
        exact reads_rec h1 (S8.keep _ _ (hac al hal)) h2 hsa (.cons _ _ .nil)
      have gA0 := hgd c.1 (by simp [cs4])
      have gA1 := hgd c.2.1 (by simp [cs4])
      have gA2 := hgd c.2.2.1 (by simp [cs4])
      have gA3 := hgd c.2.2.2 (by simp [cs4])
      obtain ⟨_, la⟩ := hlead 0 ta rfl
      obtain ⟨_, lb⟩ := hlead 1 tb rfl
      obtain ⟨_, lc⟩ := hlead 2 tc rfl
      obtain ⟨_, ld⟩ := hlead 3 td rfl
      obtain ⟨_, ra⟩ := hright 0 ⟨a0, c.1.av, c.1.na, c.1.ys⟩ u1 v1 x1 (.head _) (.head _) gA0.sa
      obtain ⟨_, rb⟩ := hright 1 ⟨a1, c.2.1.av, c.2.1.na, c.2.1.ys⟩ u2 v2 x2 (.tail _ (.head _)) (.tail _ (.head _)) gA1.sa
      obtain ⟨_, rc⟩ := hright 2 ⟨a2, c.2.2.1.av, c.2.2.1.na, c.2.2.1.ys⟩ u3 v3 x3 (.tail _ (.tail _ (.head _))) (.tail _ (.tail _ (.head _))) gA2.sa
      obtain ⟨_, rd⟩ := hright 3 ⟨a3, c.2.2.2.av, c.2.2.2.na, c.2.2.2.ys⟩ u4 v4 x4 (.tail _ (.tail _ (.tail _ (.head _)))) (.tail _ (.tail _ (.tail _ (.head _)))) gA3.sa
      refine ne_same (s := ⟨h8, G, D, _, o⟩) (d := .list (([(c.1.ys, [0]), (c.2.1.ys, [1]), (c.2.2.1.ys, [2]), (c.2.2.2.ys, [3])] : List (List Str × List Int)).map fun (d : List Str × List Int) => dRec d.1 d.2))
        ⟨_, .list (S8.mem (a := Dl) (by walk_at "mm")) rfl rfl (.cons la (.cons lb (.cons lc (.cons ld .nil))))⟩ ⟨_, .list (S8.mem (.head _)) rfl rfl (.cons ra (.cons rb (.cons rc (.cons rd .nil))))⟩ (shaped_recs _ (fun d hd => ?_)) (by have := C.hu; (first | walk_at "om" | omega)) ?_
      · simp only [List.mem_cons, List.not_mem_nil, or_false] at hd
        rcases hd with rfl | rfl | rfl | rfl
        · exact gA0.menu
        · exact gA1.menu
        · exact gA2.menu
        · exact gA3.menu
      repeat walk_at "v"
      have K9 := S8.kb gk
      walk_at "x"; exact next h8 _ (F.next K9 (St.re S8 (kn' := [(Str.ofString "due", .ref T)]) (kn_sub (by walk_at "kn"))).ns (by simp) (fun _ _ _ h => by simp at h)) K9
end
section
set_option maxRecDepth 100000
set_option maxHeartbeats 0
noncomputable def knownStep (ks : List Str) (y : Str) : List Str := if ((y != star) && !(ks.any (· == Txt.lower y))) = true then ks ++ [Txt.lower y] else ks
noncomputable def knownOf (ys : List Str) : List Str := ys.foldl knownStep []
theorem known_low : ∀ (ys ks : List Str), (∀ y ∈ ys, y ∈ menu8) → (∀ k ∈ ks, k ∈ lows6) → ∀ k ∈ ys.foldl knownStep ks, k ∈ lows6
  | [], _, _, h => h
  | y :: r, ks, hm, h => by
    refine known_low r (knownStep ks y) (fun z hz => hm z (.tail _ hz)) ?_
    unfold knownStep
    split
    · rename_i hc
      rw [Bool.and_eq_true] at hc
      intro k hk
      rcases List.mem_append.mp hk with hk | hk
      · exact h k hk
      · rw [List.mem_singleton.mp hk]; exact low_menu y (hm y (.head _)) hc.1
    · exact h
theorem menu_size : ∀ y ∈ menu8, y.length ≤ 2 := by decide +kernel
end
section
set_option maxRecDepth 100000
set_option maxHeartbeats 0
theorem seg1112 (w : World) : LawAt w fun body scope qual => ∀ s0 s1, body[11]? = some s0 → body[12]? = some s1 → ∀ {prog A g0 hp G D tk o L fa cd k T al rl na av} {ys : List Str} {rest : List Stmt} {Q : Flow → Shared → Prop},
    Fz w A (k + 8) g0 L hp [(Str.ofString "due", .ref T)] → hp.get? T = some (tu [.ref al, .ref rl]) → hp.get? al = some (lo av na) → StrsAre av ys → InMenu ys → av.length ≤ 1000 →
    (∀ (hp' : Heap) (tk' : Nat) (Kl : Addr) (kv : List Value) (nk : Nat), Fz w A (k + 8) g0 L hp' [(Str.ofString "known", .ref Kl), (Str.ofString "due", .ref T)] → KB [L] hp hp' → hp'.get? Kl = some (lo kv nk) → StrsAre kv (knownOf ys) → kv.length ≤ 1000 → wpAny (model prog w) A (execs rest (envOfC qual scope L fa cd)) Q NoE ⟨hp', G, D, tk', o⟩) →
    wpAny (model prog w) A (execs (s0 :: s1 :: rest) (envOfC qual scope L fa cd)) Q NoE ⟨hp, G, D, tk, o⟩ := by
  have hs24 : sizeLine = 16777216 := rfl
  refine' LawAt.intro ?ho ?_
  case ho => k_is
  intro s0 s1 i0 i1
  cases i0; cases i1
  intro prog A g0 hp G D tk o L fa cd k T al rl na av ys rest Q F hT hal sa hm hlen next
  obtain ⟨g, C, gL, S, gk, gh, gn, gg⟩ := F.start [] [] (by simp) (by simp)
  have gka : ∀ b o, hp.get? b = some o → b ≠ L → g.get? b = some o := fun b o e n => gk b o e (by simpa using n)
  have gT := gka _ _ hT (off_seq F hT rfl).l
  have gal := gka _ _ hal (off_seq F hal rfl).l
  repeat walk_at "v"
  refine r_newList S (by simp [hs24]) (fun Kl h1 S1 b1 b2 b3 => ?_)
  repeat walk_at "v"
  refine r_titem (v := .ref al) (St.keep (by assumption) _ _ gT) (by decide) (by decide) rfl ?_
  refine r_forList (σ := List Value × Nat × List Str) C.hh (by assumption) gL (St.keep (by assumption) _ _ gal) (fun _ _ => [(Str.ofString "known", .ref Kl), (Str.ofString "due", .ref T)]) (fun _ c => [(Kl, lo c.1 c.2.1)]) (fun i c => StrsAre c.1 c.2.2 ∧ c.2.2 = (ys.take i).foldl knownStep [] ∧ c.1.length ≤ i) ([], 0, []) (by walk_at "kn") rfl ⟨.nil, rfl, by simp⟩ (.inl ⟨_, gal⟩) (by simp) ?_ ?_ rfl rfl rfl
  · rintro i ⟨kv, nk, ks⟩ v h5 t5 I oI hv ⟨p1, p2, p3⟩ S5 hoff hIc
    try dsimp only at p1 p2 p3 S5 ⊢
    obtain ⟨y, ty, rfl, hy⟩ := sa.item i v hv
    have hym := hm y (List.mem_of_getElem? hy)
    have hyl := menu_size y hym
    have hi := (List.getElem?_eq_some_iff.mp hv).1
    have htk : (ys.take (i + 1)).foldl knownStep [] = knownStep ks y := by
      rw [List.take_add_one, hy, p2]; simp
    have hKI : Kl ≠ I := hoff _ (.head _)
    have stay : knownStep ks y = ks → ForEnd G D o g L (fun _ _ => [(Str.ofString "known", .ref Kl), (Str.ofString "due", .ref T)]) (fun _ (c : List Value × Nat × List Str) => [(Kl, lo c.1 c.2.1)]) (fun i c => StrsAre c.1 c.2.2 ∧ c.2.2 = (ys.take i).foldl knownStep [] ∧ c.1.length ≤ i) [(I, oI)] i ⟨h5, G, D, t5, o⟩ → True := fun _ _ => trivial
    repeat walk_at "v"
    refine wpAny_If ?_
    refine wpAny_mono (Q := fun b s => b = ((y != star) && !(ks.any (· == Txt.lower y))) ∧ ∃ t, s = ⟨h5, G, D, t, o⟩) ?_ ?_ (fun _ _ (e : False) => e.elim)
    · repeat walk_at "v"
      with_reducible refine ifs (fun hb => ?_) (fun hb => ?_)
      · repeat walk_at "v"
        refine r_strlower (by (first | walk_at "om" | omega)) (fun t6 tk6 => ?_)
        repeat walk_at "v"
        refine notin_list_strs (isList_of (S5.mem (by walk_at "mm"))) p1 ?_
        repeat walk_at "v"
        have hb' : (y != star) = true := hb
        with_reducible refine ifs (fun hc => ?_) (fun hc => ?_)
        · refine isTrue_and_nil ?_
          exact ⟨by rw [hb', hc]; rfl, _, rfl⟩
        · exact ⟨by rw [hb', hc]; rfl, _, rfl⟩
      · have hb' : (y != star) = false := hb
        exact ⟨by rw [hb']; rfl, _, rfl⟩
    · rintro bb s ⟨hbb, t6, rfl⟩
      with_reducible refine ifs (fun hb => ?_) (fun hb => ?_)
      · have hstep : knownStep ks y = ks ++ [Txt.lower y] := by unfold knownStep; rw [← hbb, if_pos hb]
        repeat walk_at "v"
        refine r_lmeth PySem.F.slot_list_append PySem.F.type_list_append (S5.mem (by walk_at "mm")) ?_
        repeat walk_at "v"
        refine r_strlower (by (first | walk_at "om" | omega)) (fun t7 tk7 => ?_)
        repeat walk_at "v"
        refine r_append (l := Kl) (vs := kv) (n := nk) (led := [(I, oI)]) S5 (by walk_at "nn") (by (first | walk_at "om" | omega)) (fun h8 S8 => ⟨rfl, ?_⟩)
        try dsimp only
        repeat walk_at "v"
        walk_at "x"; exact ForEnd.intro (kv ++ [.str (Txt.lower y) t7], nk + 1, ks ++ [Txt.lower y]) (St.fit _ _ S8 (by walk_at "kn") (by walk_at "sub")) ⟨p1.append' (.cons _ _ .nil), (htk.trans hstep).symm, by simp; (first | walk_at "om" | omega)⟩
      · have hstep : knownStep ks y = ks := by unfold knownStep; rw [← hbb, if_neg (by rw [hb]; decide)]
        repeat walk_at "v"
        walk_at "x"; exact ForEnd.intro (kv, nk, ks) (St.fit _ _ S5 (by walk_at "kn") (by walk_at "sub")) ⟨p1, (htk.trans hstep).symm, Nat.le_succ_of_le p3⟩
  · rintro ⟨kv, nk, ks⟩ h5 t5 ⟨p1, p2, p3⟩ S5
    try dsimp only at p1 p2 p3 S5 ⊢
    have K := S5.kb gk
    rw [sa.length, List.take_length] at p2
    walk_at "x"; refine next h5 t5 Kl kv nk (F.next K S5.ns (by simp) (fun _ _ _ h => by simp at h)) K (S5.mem (.head _)) (by rw [← show ks = knownOf ys from p2]; exact p1) (by (first | walk_at "om" | omega))
end
section
set_option maxRecDepth 100000
set_option maxHeartbeats 0
section
variable {prog : Program} {w : World} {M : Model} {A : Around} {E : Value → Shared → Prop} {hp g : Heap} {G : Array GenState} {D : Drawn} {tk : Nat} {o : OsState} {L : Addr} {kn : Kns} {led : Led} {env : Env} {k : Nat} {x y : Str} {v : Value} {pos : Pos} {c : Addr} {oc : Obj}
/-- what is wanted behind a turn -/
noncomputable def CY2 (G : Array GenState) (D : Drawn) (o : OsState) (g : Heap) (C : Addr) (led : Led) (PP : Nat → List Value → Led → Prop) (own : Led) (Dl : Addr) (n : Nat) (i : Nat) (us : List Value) (us' : List Value) (s : Shared) : Prop :=
  ∃ nl' kn' h' t', s = ⟨h', G, D, t', o⟩ ∧ PP (i + 1) us' nl' ∧ (∀ p ∈ nl', p.1 ≠ Dl ∧ ∀ q ∈ own, p.1 ≠ q.1) ∧ St g C h' kn' ((Dl, lo us n) :: ((nl' ++ led) ++ own))
theorem CY2.intro {led : Led} {PP : Nat → List Value → Led → Prop} {own : Led} {Dl C : Addr} {n i : Nat} {us us' : List Value} {h' : Heap} {t' : Nat} {kn' : Kns} (nl' : Led) (S : St g C h' kn' ((Dl, lo us n) :: ((nl' ++ led) ++ own))) (hP : PP (i + 1) us' nl') (hn : ∀ p ∈ nl', p.1 ≠ Dl ∧ ∀ q ∈ own, p.1 ≠ q.1) :
    CY2 G D o g C led PP own Dl n i us us' ⟨h', G, D, t', o⟩ := ⟨nl', kn', h', t', rfl, hP, hn, S⟩

theorem r_comp2 {elt iter : Expr} {px : Pos} {ifs : List Expr} {scope : Scope} {cl : List (Str × Addr)} {use : Option (Value → Sem Unit)} {Q : Value → Shared → Prop} {N : Nat} {I : Addr} {fp wr : List Addr} {P : Nat → Value → Prop} {Sti : Nat → Heap → Prop}
    (W : Walks prog w A I fp wr N P Sti) {clsI : Value} (hcls : ∀ i h, Sti i h → ∃ o, h.get? I = some o ∧ o.cls = clsI) (hwr : ∀ b ∈ wr, b = I) (hN : N ≤ sizeLine)
    (S : St g L hp kn led) (hgL : g.get? L = none) (hgI : g.get? I = none) (hIL : I ≠ L) (hIl : ∀ p ∈ led, p.1 ≠ I) (hst : Sti 0 hp)
    (hfp : ∀ b ∈ fp, b = I ∨ (∃ o, g.get? b = some o) ∨ ∃ o, (b, o) ∈ led)
    (PP : Nat → List Value → Led → Prop) (h0 : PP 0 [] [])
    (hcell : ∀ y ∈ scope.names, y.2 ≠ .cell) (hkind : scope.kind = .function) (hx : scope.names.lookup x = some .local)
    (turn : ∀ Dl C i us nl v h t n own, i < N → P i v → PP i us nl → (∀ p ∈ nl, p.1 ≠ Dl ∧ ∀ q ∈ own, p.1 ≠ q.1) → Dl = hp.objs.size → L < Dl → g.get? C = none → St g C h ((x, v) :: []) ((Dl, lo us n) :: ((nl ++ led) ++ own)) →
      wpAny (model prog w) A (compTests ifs (compEnvC scope cl C env)) (fun ok s₃ => if ok = true then wpAny (model prog w) A (eval elt (compEnvC scope cl C env)) (fun y s₄ => CY2 G D o g C led PP own Dl n i us (us ++ [y]) s₄) NoE s₃
        else CY2 G D o g C led PP own Dl n i us us s₃) NoE ⟨h, G, D, t, o⟩)
    (done : ∀ Dl us nl n t, PP N us nl → (∀ p ∈ led, p.1 < Dl) → L < Dl → g.get? Dl = none →
      match use with
      | none => ∀ h', St g L h' kn ((Dl, lo us n) :: (nl ++ led)) → Q (.ref Dl) ⟨h', G, D, t, o⟩
      | some u => ∀ h' C oC, (∀ p ∈ (Dl, lo us n) :: (nl ++ led), p.1 ≠ C) → St g L h' kn ((C, oC) :: (Dl, lo us n) :: (nl ++ led)) → wpAny (model prog w) A (u (.ref Dl)) (fun _ s'' => ∃ h'' t'' kn' led'', s'' = ⟨h'', G, D, t'', o⟩ ∧ St g L h'' kn' ((C, oC) :: led'') ∧ (∀ p ∈ led'', p.1 ≠ C) ∧ ∀ h3, St g L h3 kn' led'' → Q .none ⟨h3, G, D, t'', o⟩) E ⟨h', G, D, t, o⟩) :
    CompGo (model prog w) A elt iter x px ifs scope pos cl env use Q E (.ref I) ⟨hp, G, D, tk, o⟩ := by
  have hIlt : I < hp.objs.size := by obtain ⟨oI, e, _⟩ := hcls 0 hp hst; exact Heap.lt_size e
  have hLlt := S.ltL
  refine comp_block (σ := Cst) (L := L) (kn := kn) (led := led) (RR := fun acc C => compPost (model prog w) A E use Q acc C) W hcls hwr (fun _ c => c.2 ++ led) (fun _ c => c.1) (fun i c => PP i c.1 c.2 ∧ (∀ p ∈ c.2, p.1 ≠ hp.objs.size ∧ p.1 ≠ I ∧ p.1 ≠ L) ∧ c.1.length ≤ i ∧ i ≤ N) ([], []) S hgL hgI hIL rfl rfl ⟨h0, by simp, by simp, Nat.zero_le _⟩ hst
    (fun b hb => (hfp b hb).elim .inl fun h => .inr (h.elim .inl fun ⟨o, hm⟩ => .inr ⟨o, fun i c _ => List.mem_append_right _ hm⟩))
    (fun i c hP p hp' => ?_) (fun i c hP => by have := hP.2.2.1; have := hP.2.2.2; (first | walk_at "om" | omega)) (fun i c hP p hp' => ?_) (fun i c hP p hp' => ?_) hcell hkind hx ?_ ?_
  · rcases List.mem_append.mp hp' with h | h
    · exact (hP.2.1 p h).2.1
    · exact hIl p h
  · rcases List.mem_append.mp hp' with h | h
    · exact (hP.2.1 p h).1
    · exact Nat.ne_of_lt (S.lt p h)
  · rcases List.mem_append.mp hp' with h | h
    · exact (hP.2.1 p h).2.2
    · exact (S.nw p h).2.2
  · rintro Dl C pc i ⟨us, nl⟩ v h t n oI hi hv ⟨hP, hnl, hlen, _⟩ _ hpc rfl hgC S' _
    subst hpc
    refine wpAny_mono (turn _ C i us nl v h t n [pc, (I, oI)] hi hv hP (fun p hp => ⟨(hnl p hp).1, fun q hq => by
      simp only [List.mem_cons, List.not_mem_nil, or_false] at hq
      rcases hq with rfl | rfl
      · exact (hnl p hp).2.2
      · exact (hnl p hp).2.1⟩) rfl hLlt hgC S') (fun ok s₃ h₃ => ?_) fun _ _ e => e.elim
    cases ok with
    | true =>
      simp only [if_true] at h₃ ⊢
      refine wpAny_mono h₃ (fun y s₄ hy => ?_) fun _ _ e => e.elim
      obtain ⟨nl', kn', h', t', rfl, hP', hnl', S₃⟩ := hy
      exact ⟨(us ++ [y], nl'), kn', h', t', rfl, ⟨hP', fun p hp => ⟨(hnl' p hp).1, (hnl' p hp).2 (I, oI) (.tail _ (.head _)), (hnl' p hp).2 pc (.head _)⟩, by simpa using Nat.succ_le_succ hlen, hi⟩, rfl, S₃⟩
    | false =>
      simp only [Bool.false_eq_true, if_false] at h₃ ⊢
      obtain ⟨nl', kn', h', t', rfl, hP', hnl', S₃⟩ := h₃
      exact ⟨(us, nl'), kn', h', t', rfl, ⟨hP', fun p hp => ⟨(hnl' p hp).1, (hnl' p hp).2 (I, oI) (.tail _ (.head _)), (hnl' p hp).2 pc (.head _)⟩, Nat.le_succ_of_le hlen, hi⟩, rfl, S₃⟩
  · rintro Dl C ⟨us, nl⟩ h t n ⟨hP, hnl, _⟩ rfl gC hCL hoff hns back
    dsimp only at hP hnl hoff back
    have gD : g.get? hp.objs.size = none := S.none_of_le (Nat.le_refl _)
    have z := done _ us nl n t hP S.lt hLlt gD
    refine compPost_done gC hCL hns back hoff ?_
    cases use with
    | none => exact z
    | some u => exact fun h' oC S' => z h' C oC hoff S'
theorem r_compL2 {elt iter : Expr} {px : Pos} {ifs : List Expr} {scope : Scope} {cl : List (Str × Addr)} {use : Option (Value → Sem Unit)} {Q : Value → Shared → Prop} {l : Addr} {vs : List Value} {n : Nat} (hh : A.handled = none)
    (S : St g L hp kn led) (hgL : g.get? L = none) (hl : hp.get? l = some (lo vs n)) (hsrc : (∃ o, g.get? l = some o) ∨ ∃ o, (l, o) ∈ led) (hz : vs.length ≤ sizeLine)
    (PP : Nat → List Value → Led → Prop) (h0 : PP 0 [] [])
    (turn : ∀ Dl C i us nl v h t n own, vs[i]? = some v → PP i us nl → (∀ p ∈ nl, p.1 ≠ Dl ∧ ∀ q ∈ own, p.1 ≠ q.1) → (∀ p ∈ led, p.1 < Dl) → g.get? C = none → St g C h ((x, v) :: []) ((Dl, lo us n) :: ((nl ++ led) ++ own)) →
      wpAny (model prog w) A (compTests ifs (compEnvC scope cl C env)) (fun ok s₃ => if ok = true then wpAny (model prog w) A (eval elt (compEnvC scope cl C env)) (fun y s₄ => CY2 G D o g C led PP own Dl n i us (us ++ [y]) s₄) NoE s₃
        else CY2 G D o g C led PP own Dl n i us us s₃) NoE ⟨h, G, D, t, o⟩)
    (done : ∀ Dl us nl n t, PP vs.length us nl → (∀ p ∈ led, p.1 < Dl) → L < Dl → g.get? Dl = none → CDone (model prog w) A E G D o g L kn use Q Dl ((Dl, lo us n) :: (nl ++ led)) t)
    (hcell : ∀ y ∈ scope.names, y.2 ≠ .cell) (hkind : scope.kind = .function) (hx : scope.names.lookup x = some .local) :
    wpAny (model prog w) A (pyIter (.ref l)) (fun it s₂ => CompGo (model prog w) A elt iter x px ifs scope pos cl env use Q E it s₂) E ⟨hp, G, D, tk, o⟩ := by
  refine wpAny_pyIter_list (isList_of hl) ?_
  have hlt := Heap.lt_size hl
  have W := Walks.list (prog := prog) (w := w) hh hp.objs.size l (Nat.ne_of_lt hlt) vs.toArray
  have hsz : vs.toArray.size = vs.length := by simp
  rw [hsz] at W
  have up : ∀ b ob, hp.get? b = some ob → (hp.push { cls := .type "list_iterator", data := .fields #[.ref l, .int 0 0] }).get? b = some ob := fun b ob e => Heap.get?_push_of_some _ e
  have S1 := S.keeps up
  have below : ∀ p ∈ led, p.1 < (hp.push { cls := .type "list_iterator", data := .fields #[.ref l, .int 0 0] }).objs.size := fun p hp => by rw [Heap.size_push]; exact Nat.lt_succ_of_lt (S.lt p hp)
  refine r_comp2 (g := g) (L := L) W (clsI := .type "list_iterator") (fun i h st => by obtain ⟨oo, a, b, c⟩ := st.1; exact ⟨oo, a, b⟩) (fun b hb => by simpa using hb) hz S1 hgL (S.none_of_le (Nat.le_refl _)) (Nat.ne_of_gt S.ltL) (fun p hp => Nat.ne_of_lt (S.lt p hp))
    ⟨⟨_, Heap.get?_push_size _ rfl, rfl, rfl⟩, (isList_of hl).at fun ob e => up _ _ e⟩ (fun b hb => ?_) PP h0 hcell hkind hx (fun Dl C i us nl v h t n own hi hv hP hnl hD _ hgC S' => ?_) (fun Dl us nl n t hP hled hLD gD => ?_)
  · rcases List.mem_cons.mp hb with rfl | hb
    · exact .inl rfl
    · rw [List.mem_singleton.mp hb]; exact .inr hsrc
  · exact turn Dl C i us nl v h t n own (by simpa using hv) hP hnl (fun p hp => hD ▸ below p hp) hgC S'
  · have z := done Dl us nl n t hP hled hLD gD
    cases use <;> exact z

end
end
section
set_option maxRecDepth 100000
set_option maxHeartbeats 0
-- lists of runs, as made
set_option genInjectivity false in
set_option genSizeOf false in
structure RL where
  l : Addr
  n : Nat
  rs : List Run
noncomputable def RL.led (q : RL) : Led := (q.l, lo (Run.refs q.rs) q.n) :: Run.led q.rs
noncomputable def RL.leds (qs : List RL) : Led := qs.flatMap RL.led
theorem RL.leds_snoc (qs : List RL) (q : RL) : RL.leds (qs ++ [q]) = RL.leds qs ++ q.led := by simp [RL.leds]
end
section
set_option maxRecDepth 100000
set_option maxHeartbeats 0
theorem seg13 (w : World) : LawAt w fun body scope qual => ∀ s0, body[13]? = some s0 → ∀ {prog A g0 hp G D tk o L fa cd k T Kl nk kv} {ks : List Str} {rest : List Stmt} {Q : Flow → Shared → Prop},
    Fz w A (k + 8) g0 L hp [(Str.ofString "known", .ref Kl), (Str.ofString "due", .ref T)] → hp.get? Kl = some (lo kv nk) → StrsAre kv ks → (∀ y ∈ ks, y ∈ lows6) → kv.length ≤ 1000 →
    (∀ (hp' : Heap) (tk' : Nat) (Tx : Addr) (tv : List Value) (nt : Nat), Fz w A (k + 8) g0 L hp' [(Str.ofString "texts", .ref Tx), (Str.ofString "due", .ref T)] → KB [L] hp hp' → hp'.get? Tx = some (lo tv nt) → StrsAre tv (ks.map pt) → tv.length ≤ 1000 → wpAny (model prog w) A (execs rest (envOfC qual scope L fa cd)) Q NoE ⟨hp', G, D, tk', o⟩) →
    wpAny (model prog w) A (execs (s0 :: rest) (envOfC qual scope L fa cd)) Q NoE ⟨hp, G, D, tk, o⟩ := by
  have hs24 : sizeLine = 16777216 := rfl
  refine' LawAt.intro ?ho ?_
  case ho => k_is
  intro s0 i0
  cases i0
  intro prog A g0 hp G D tk o L fa cd k T Kl nk kv ks rest Q F hK sa hlow hlen next
  obtain ⟨g, C, gL, S, gk, gh, gn, gg⟩ := F.start [] [] (by simp) (by simp)
  have gK := gk _ _ hK (by simpa using (off_seq F hK rfl).l)
  repeat walk_at "v"
  refine' r_compL C.hh S gL (S.keep _ _ gK) (.inl ⟨_, gK⟩) (by (first | walk_at "om" | omega)) (fun i us nl => nl = [] ∧ StrsAre us ((ks.take i).map pt)) ⟨rfl, .nil⟩ ?_ ?_ ?hcell ?hkind ?hx
  walk_at "cs"
  · rintro Dl K i us nl v h3 t3 n3 own hv ⟨rfl, hus⟩ hnl hlD gK' S3
    obtain ⟨y, ty, rfl, hy⟩ := sa.item i v hv
    have hyl := hlow y (List.mem_of_getElem? hy)
    have hsz := (low_codes y hyl).2
    have z1 : (Str.ofString "*").length = 1 := rfl
    repeat walk_at "v"
    refine r_stradd (by (first | walk_at "om" | omega)) (fun t4 tk4 => ?_)
    repeat walk_at "v"
    refine r_stradd (by rw [Str.length_append]; (first | walk_at "om" | omega)) (fun t5 tk5 => ?_)
    repeat walk_at "v"
    rw [low_form y hyl]
    refine r_call C S3 (translate_fn (low_codes y hyl).1 (by have : y.cps.toList.length = y.length := by simp [Str.length]
                                                             (first | walk_at "om" | omega))) (by (first | walk_at "om" | omega)) (by simp) (fun v h6 tk6 K6 hp6 => ?_)
    obtain ⟨t7, rfl⟩ := hp6
    have S6 := S3.call0 K6
    walk_at "z"; refine CY.intro [] (S6.cy [] (fun p hp => .inl hp)) ⟨rfl, ?_⟩ (by simp)
    rw [List.take_add_one, hy, List.map_append]
    exact hus.append' (.cons _ _ .nil)
  · rintro Dl us nl n3 t3 ⟨rfl, hus⟩ hnl hlD hLD gD
    refine CDone.name gL (fun h3 tk3 S3 => ?_) rfl rfl rfl
    rw [sa.length, List.take_length] at hus
    repeat walk_at "v"
    have K := S3.kb gk
    walk_at "x"; refine next h3 tk3 Dl us n3 (F.next K (St.re S3 (kn' := [(Str.ofString "texts", .ref Dl), (Str.ofString "due", .ref T)]) (kn_sub (by walk_at "kn"))).ns (by simp) (fun _ _ _ h => by simp at h)) K (S3.mem (.head _)) hus (by have := hus.length; have := sa.length; simp at *; (first | walk_at "om" | omega))
theorem seg14 (w : World) : LawAt w fun body scope qual => ∀ s0, body[14]? = some s0 → ∀ {prog A g0 hp G D tk o L fa cd k T Tx nt tv} {ks : List Str} {rest : List Stmt} {Q : Flow → Shared → Prop},
    Fz w A (k + 8) g0 L hp [(Str.ofString "texts", .ref Tx), (Str.ofString "due", .ref T)] → hp.get? Tx = some (lo tv nt) → StrsAre tv (ks.map pt) → (∀ y ∈ ks, y ∈ lows6) → tv.length ≤ 1000 →
    (∀ (hp' : Heap) (tk' : Nat), Fz w A (k + 8) g0 L hp' [(Str.ofString "texts", .ref Tx), (Str.ofString "due", .ref T)] → KB [L] hp hp' → wpAny (model prog w) A (execs rest (envOfC qual scope L fa cd)) Q NoE ⟨hp', G, D, tk', o⟩) →
    wpAny (model prog w) A (execs (s0 :: rest) (envOfC qual scope L fa cd)) Q NoE ⟨hp, G, D, tk, o⟩ := by
  have hs24 : sizeLine = 16777216 := rfl
  refine' LawAt.intro ?ho ?_
  case ho => k_is
  intro s0 i0
  cases i0
  intro prog A g0 hp G D tk o L fa cd k T Tx nt tv ks rest Q F hK sa hlow hlen next
  obtain ⟨g, C, gL, S, gk, gh, gn, gg⟩ := F.start [] [] (by simp) (by simp)
  have gK := gk _ _ hK (by simpa using (off_seq F hK rfl).l)
  repeat walk_at "v"
  refine wpAny_If ?_
  repeat walk_at "v"
  refine' r_compL C.hh S gL (S.keep _ _ gK) (.inl ⟨_, gK⟩) (by (first | walk_at "om" | omega)) (fun i us nl => nl = [] ∧ us = []) ⟨rfl, rfl⟩ ?_ ?_ ?hcell ?hkind ?hx
  walk_at "cs"
  · rintro Dl K i us nl v h3 t3 n3 own hv ⟨rfl, rfl⟩ hnl hlD gK' S3
    obtain ⟨x, ty, rfl, hx⟩ := sa.item i v hv
    obtain ⟨y, hy, rfl⟩ : ∃ y, y ∈ ks ∧ pt y = x := List.mem_map.mp (List.mem_of_getElem? hx)
    have hyl := hlow y hy
    have hsz := (low_size y hyl).1
    have htx := low_text y hyl
    have hl1 := Txt.slice_le (pt y) none (some 4)
    have hl2 := Txt.slice_le (pt y) (some (-3)) none
    repeat walk_at "v"
    refine wpAny_Subscript_str_slice ?_ (fun _ _ => rfl)
    repeat walk_at "v"
    refine r_sliced (g := g) (L := K) none (some (4, _)) S3 rfl rfl (by (first | walk_at "om" | omega)) (fun h4 t4 tk4 S4 => ?_)
    repeat walk_at "v"
    refine wpAny_Subscript_str_slice ?_ (fun _ _ => rfl)
    repeat walk_at "v"
    refine r_sliced (g := g) (L := K) (some (-3, _)) none S4 rfl rfl (by (first | walk_at "om" | omega)) (fun h5 t5 tk5 S5 => ?_)
    refine r_stradd (by dsimp only [Option.map]; (first | walk_at "om" | omega)) (fun t6 tk6 => ?_)
    repeat walk_at "v"
    with_reducible refine ifs (fun hb => ?_) (fun hb => ?_)
    · have hb' : (Txt.slice (pt y) none (some 4) ++ Txt.slice (pt y) (some (-3)) none != Str.ofString "(?s:)\\Z") = true := hb
      rw [htx] at hb'
      exact absurd hb' (by decide)
    · walk_at "z"; exact CY.intro [] (S5.cy [] (fun p hp => .inl hp)) ⟨rfl, rfl⟩ (by simp)
  · rintro Dl us nl n3 t3 ⟨rfl, rfl⟩ hnl hlD hLD gD
    refine CDone.val (fun h3 S3 => ?_)
    repeat walk_at "v"
    refine r_newList S3 (by simp [hs24]) (fun D2 h4 S4 b1 b2 b3 => ?_)
    refine RcNeAt.lists (e := fun _ => true) (isList_of (S4.mem (a := Dl) (by walk_at "mm"))) (isList_of (S4.mem (.head _))) rfl (by have := C.hu; (first | walk_at "om" | omega)) (fun j h1 _ => by simp at h1) _ _ _ _ ?_
    repeat walk_at "v"
    with_reducible refine ifs (fun hb => by simp at hb) (fun _ => ?_)
    repeat walk_at "v"
    have K := S4.kb gk
    walk_at "x"; exact next h4 _ (F.next K S4.ns (by simp) (fun _ _ _ h => by simp at h)) K
theorem seg15 (w : World) : LawAt w fun body scope qual => ∀ s0, body[15]? = some s0 → ∀ {prog A g0 hp G D tk o L fa cd k T Tx nt tv} {ks : List Str} {rest : List Stmt} {Q : Flow → Shared → Prop},
    Fz w A (k + 8) g0 L hp [(Str.ofString "texts", .ref Tx), (Str.ofString "due", .ref T)] → hp.get? Tx = some (lo tv nt) → StrsAre tv (ks.map pt) → (∀ y ∈ ks, y ∈ lows6) → tv.length ≤ 1000 →
    (∀ (hp' : Heap) (tk' : Nat) (Rd : Addr) (nr : Nat) (qs : List RL), Fz w A (k + 8) g0 L hp' [(Str.ofString "readers", .ref Rd), (Str.ofString "due", .ref T)] → KB [L] hp hp' → hp'.get? Rd = some (lo (qs.map fun q => .ref q.l) nr) → (∀ p ∈ RL.leds qs, hp'.get? p.1 = some p.2 ∧ hp.get? p.1 = none) → qs.map (fun q => Run.says q.rs) = ks.map (fun y => runsOf (pt y)) → wpAny (model prog w) A (execs rest (envOfC qual scope L fa cd)) Q NoE ⟨hp', G, D, tk', o⟩) →
    wpAny (model prog w) A (execs (s0 :: rest) (envOfC qual scope L fa cd)) Q NoE ⟨hp, G, D, tk, o⟩ := by
  have hs24 : sizeLine = 16777216 := rfl
  refine' LawAt.intro ?ho ?_
  case ho => k_is
  intro s0 i0
  cases i0
  intro prog A g0 hp G D tk o L fa cd k T Tx nt tv ks rest Q F hK sa hlow hlen next
  obtain ⟨g, C, gL, S, gk, gh, gn, gg⟩ := F.start [] [] (by simp) (by simp)
  have gK := gk _ _ hK (by simpa using (off_seq F hK rfl).l)
  repeat walk_at "v"
  refine' r_compL2 C.hh S gL (S.keep _ _ gK) (.inl ⟨_, gK⟩) (by (first | walk_at "om" | omega)) (fun i us nl => ∃ qs : List RL, us = qs.map (fun q => .ref q.l) ∧ nl = RL.leds qs ∧ qs.map (fun q => Run.says q.rs) = (ks.take i).map (fun y => runsOf (pt y))) ⟨[], rfl, rfl, rfl⟩ ?_ ?_ ?hcell ?hkind ?hx
  walk_at "cs"
  · rintro Dl K i us nl v h3 t3 n3 own hv ⟨qs, rfl, rfl, hqs⟩ hnl hlD gK' S3
    obtain ⟨x, ty, rfl, hx⟩ := sa.item i v hv
    obtain ⟨y, hy, rfl⟩ : ∃ y, ks[i]? = some y ∧ pt y = x := by
      rw [List.getElem?_map] at hx
      exact Option.map_eq_some_iff.mp hx
    have hyl := hlow y (List.mem_of_getElem? hy)
    have hsz := (low_size y hyl).1
    repeat walk_at "v"
    refine r_call C S3 (runs_fn (by (first | walk_at "om" | omega))) (by (first | walk_at "om" | omega)) (by simp) (fun v h6 tk6 K6 hp6 => ?_)
    obtain ⟨l, rs, n, rfl, e1, e2, e3, e4, e5⟩ := hp6
    have S6 := S3.call0 K6
    have gnone : ∀ b, h3.get? b = none → g.get? b = none ∧ b ≠ K := fun b hb => by
      constructor
      · cases q : g.get? b with
        | none => rfl
        | some o' => rw [S3.keep _ _ q] at hb; cases hb
      · rintro rfl
        obtain ⟨mm, ⟨o', es', ep', q, _⟩, _⟩ := S3.ns
        rw [q] at hb; cases hb
    have hnew : ∀ p ∈ RL.led ⟨l, n, rs⟩, h6.get? p.1 = some p.2 ∧ h3.get? p.1 = none := fun p hp => by
      rcases List.mem_cons.mp hp with rfl | hp
      · exact ⟨e1, e4⟩
      · refine ⟨e2 p hp, ?_⟩
        obtain ⟨r, hr, rfl⟩ := List.mem_map.mp hp
        exact e5 r hr
    have S7 : St g K h6 [(Str.ofString "text", .str (pt y) ty)] (RL.led ⟨l, n, rs⟩ ++ ((Dl, lo (qs.map fun q => .ref q.l) n3) :: ((RL.leds qs ++ []) ++ own))) := ⟨S6.keep, S6.ns, fun p hp => by
      rcases List.mem_append.mp hp with hp | hp
      · exact ⟨(hnew p hp).1, gnone _ (hnew p hp).2⟩
      · exact S6.nw p hp⟩
    refine CY2.intro (RL.leds qs ++ RL.led ⟨l, n, rs⟩) (S7.cy (RL.led ⟨l, n, rs⟩) (fun p hp => List.mem_append.mp hp)) ⟨qs ++ [⟨l, n, rs⟩], by simp, by rw [RL.leds_snoc], ?_⟩ (fun p hp => ?_)
    · rw [List.take_add_one, hy, List.map_append, List.map_append, hqs]
      simp [e3]
    · have ne : ∀ q ∈ (Dl, lo (qs.map fun q => Value.ref q.l) n3) :: ((RL.leds qs ++ []) ++ own), ∀ p ∈ RL.led ⟨l, n, rs⟩, p.1 ≠ q.1 := fun q hq p hp e => by
        have h1 := (hnew p hp).2
        rw [e, S3.mem hq] at h1; cases h1
      rcases List.mem_append.mp hp with hp | hp
      · exact hnl p hp
      · exact ⟨ne _ (.head _) p hp, fun q hq => ne q (.tail _ (List.mem_append_right _ hq)) p hp⟩
  · rintro Dl us nl n3 t3 ⟨qs, rfl, rfl, hqs⟩ hlD hLD gD
    refine CDone.name gL (fun h3 tk3 S3 => ?_) rfl rfl rfl
    have hkl : ks.length = tv.length := by have := sa.length; simp at this; (first | walk_at "om" | omega)
    rw [← hkl, List.take_length] at hqs
    repeat walk_at "v"
    have K := S3.kb gk
    walk_at "x"; refine next h3 tk3 Dl n3 qs (F.next K (St.re S3 (kn' := [(Str.ofString "readers", .ref Dl), (Str.ofString "due", .ref T)]) (kn_sub (by walk_at "kn"))).ns (by simp) (fun _ _ _ h => by simp at h)) K (S3.mem (.head _)) (fun p hp => ?_) hqs
    have hm : p ∈ (Dl, lo (qs.map fun q => Value.ref q.l) n3) :: (RL.leds qs ++ []) := .tail _ (List.mem_append_left _ hp)
    exact ⟨S3.mem hm, S3.fresh gk hm (by simpa using (S3.nw _ hm).2.2)⟩
end
section
set_option maxRecDepth 100000
set_option maxHeartbeats 0
section
variable {prog : Program} {w : World} {M : Model} {A : Around} {E : Value → Shared → Prop} {hp g : Heap} {G : Array GenState} {D : Drawn} {tk : Nat} {o : OsState} {L : Addr} {kn : Kns} {led : Led} {env : Env} {k : Nat} {x y : Str} {v : Value} {pos : Pos} {c : Addr} {oc : Obj}
noncomputable abbrev comp2 (elt : Expr) (x1 : Str) (p1 : Pos) (iter1 : Expr) (x2 : Str) (p2 : Pos) (iter2 : Expr) (scope : Scope) (pos : Pos) : Expr := .ListComp elt [⟨.Name x1 p1, iter1, [], 0⟩, ⟨.Name x2 p2, iter2, [], 0⟩] scope pos
section
variable {elt iter1 iter2 : Expr} {x1 x2 : Str} {p1 p2 : Pos} {scope : Scope} {it acc : Value} {R : Result → Shared → Prop} {s : Shared}
theorem compTurn_in : compTurn (comp2 elt x1 p1 iter1 x2 p2 iter2 scope pos) 1 it acc env = (do
      standAt iter2.pos
      match ← pyNext it with
      | none => pure (.done .next)
      | some v =>
        letOwnedTupleGo (.Name x2 p2) it v
        assign (.Name x2 p2) env v
        (do let _ ← call (.builtin "list.append") [acc, ← eval elt env])
        again (.compLoop (comp2 elt x1 p1 iter1 x2 p2 iter2 scope pos) 1 it acc env)) := by rfl
theorem compTurn_out : compTurn (comp2 elt x1 p1 iter1 x2 p2 iter2 scope pos) 0 it acc env = (do
      standAt iter1.pos
      match ← pyNext it with
      | none => pure (.done .next)
      | some v =>
        letOwnedTupleGo (.Name x1 p1) it v
        assign (.Name x1 p1) env v
        let z ← eval iter2 env
        standAt iter2.pos
        let z ← foldedSetIterable iter2 env z
        let _ ← runOwn (.compStart (comp2 elt x1 p1 iter1 x2 p2 iter2 scope pos) 1 (← holding [z] (pyIter z)) acc env) env
        again (.compLoop (comp2 elt x1 p1 iter1 x2 p2 iter2 scope pos) 0 it acc env)) := by rfl
theorem codeAny_loop_in (I : Nat → Shared → Prop)
    (turn : ∀ n s, I n s → wpAny (model prog w) A (pyNext it) (fun r s₁ => match r with
      | none => R (.ok .next) s₁
      | some v => wpAny (model prog w) A (assign (.Name x2 p2) env v) (fun _ s₂ => wpAny (model prog w) A (eval elt env) (fun x s₃ =>
          wpAny (model prog w) A (call (.builtin "list.append") [acc, x]) (fun _ s₄ => ∃ m, m < n ∧ I m s₄) (notedBy (model prog w) A env fun e s' => R (.error e) s') s₃)
          (notedBy (model prog w) A env fun e s' => R (.error e) s') s₂) (notedBy (model prog w) A env fun e s' => R (.error e) s') s₁) (notedBy (model prog w) A env fun e s' => R (.error e) s') s)
    (n : Nat) (h : I n s) : codeAny (model prog w) A (.compLoop (comp2 elt x1 p1 iter1 x2 p2 iter2 scope pos) 1 it acc env) R s := by
  refine codeAny_loop rfl I (fun n s hI => ?_) n h
  show wpAny _ _ ((compTurn (comp2 elt x1 p1 iter1 x2 p2 iter2 scope pos) 1 it acc env).onRaise (fun x => do noteFrame x env; theTreesLotGoes x)) _ _ s
  refine wpAny_noted ?_
  rw [compTurn_in]
  refine wpAny_bind (wpAny_standAt (wpAny_bind (wpAny_mono (turn n s hI) (fun r s₁ h₁ => ?_) fun _ _ h' => h')))
  cases r with
  | none => exact wpAny_pure h₁
  | some v =>
    refine wpAny_bind (wpAny_of_eq (a := ()) rfl ?_)
    exact wpAny_bind (wpAny_mono h₁ (fun _ s₂ h₂ => wpAny_bind (wpAny_bind (wpAny_mono h₂ (fun x s₃ h₃ => wpAny_bind (wpAny_mono h₃
      (fun _ s₄ h₄ => wpAny_pure (wpAny_pure ⟨rfl, h₄⟩)) fun _ _ h' => h')) fun _ _ h' => h'))) fun _ _ h' => h')
theorem codeAny_start_in
    (h0 : codeAny (model prog w) A (.compLoop (comp2 elt x1 p1 iter1 x2 p2 iter2 scope pos) 1 it acc env) R s)
    (h : wpAny (model prog w) A (pyIter it) (fun it' s' => codeAny (model prog w) A (.compLoop (comp2 elt x1 p1 iter1 x2 p2 iter2 scope pos) 1 it' acc env) R s')
      (notedBy (model prog w) A env fun x s' => R (.error x) s') s) :
    codeAny (model prog w) A (.compStart (comp2 elt x1 p1 iter1 x2 p2 iter2 scope pos) 1 it acc env) R s := by
  refine codeAny_of_tree ?_
  show wpAny _ _ ((compStart (comp2 elt x1 p1 iter1 x2 p2 iter2 scope pos) 1 it acc env).onRaise (fun x => do noteFrame x env; standAt theWindowsPlace)) _ _ s
  refine wpAny_notedAt ?_
  unfold compStart
  show wpAny _ _ (ask >>= _) _ _ s
  refine wpAny_bind (wpAny_askSetting (wpAny_ite ?_))
  split
  · first
      | exact wpAny_bind (wpAny_pure (wpAny_pure (And.intro rfl h0)))
      | exact wpAny_pure (And.intro rfl h0)
  · first
      | exact wpAny_bind (wpAny_rule (wpAny_bind (wpAny_standAt (wpAny_bind (wpAny_mono h (fun it' s' h' => wpAny_pure (And.intro rfl h')) fun _ _ x => x)))))
      | (refine wpAny_bind (wpAny_rule ?_); show wpAny _ _ (standAt iter2.pos >>= _) _ _ s; exact wpAny_bind (wpAny_standAt (wpAny_bind (wpAny_mono h (fun it' s' h' => wpAny_pure (And.intro rfl h')) fun _ _ x => x))))
theorem codeAny_loop_out (hf : ∀ z, foldedSetIterable iter2 env z = pure z) (I : Nat → Shared → Prop)
    (turn : ∀ n s, I n s → wpAny (model prog w) A (pyNext it) (fun r s₁ => match r with
      | none => R (.ok .next) s₁
      | some v => wpAny (model prog w) A (assign (.Name x1 p1) env v) (fun _ s₂ => wpAny (model prog w) A (eval iter2 env) (fun z s₃ => wpAny (model prog w) A (pyIter z) (fun jt s₄ =>
          codeAny (model prog w) A (.compStart (comp2 elt x1 p1 iter1 x2 p2 iter2 scope pos) 1 jt acc env) (fun r s' => r = .ok .next ∧ ∃ m, m < n ∧ I m s') s₄) NoE s₃) NoE s₂) NoE s₁) NoE s)
    (n : Nat) (h : I n s) : codeAny (model prog w) A (.compLoop (comp2 elt x1 p1 iter1 x2 p2 iter2 scope pos) 0 it acc env) R s := by
  refine codeAny_loop rfl I (fun n s hI => ?_) n h
  show wpAny _ _ ((compTurn (comp2 elt x1 p1 iter1 x2 p2 iter2 scope pos) 0 it acc env).onRaise (fun x => do noteFrame x env; theTreesLotGoes x)) _ _ s
  refine wpAny_noted ?_
  rw [compTurn_out]
  refine wpAny_bind (wpAny_standAt (wpAny_bind (wpAny_mono (turn n s hI) (fun r s₁ h₁ => ?_) fun _ _ h' => h'.elim)))
  cases r with
  | none => exact wpAny_pure h₁
  | some v =>
    refine wpAny_bind (wpAny_of_eq (a := ()) rfl ?_)
    refine wpAny_bind (wpAny_mono h₁ (fun _ s₂ h₂ => wpAny_bind (wpAny_mono h₂ (fun z s₃ h₃ => wpAny_bind (wpAny_standAt (wpAny_bind (wpAny_of_eq (hf z) (wpAny_bind (wpAny_holding (wpAny_mono h₃ (fun jt s₄ h₄ => ?_) fun _ _ h' => h'.elim))))))) fun _ _ h' => h'.elim)) fun _ _ h' => h'.elim)
    refine wpAny_bind (wpAny_runOwn (codeAny_mono h₄ fun r s' hr => ?_))
    obtain ⟨rfl, m, hm, hI'⟩ := hr
    exact wpAny_pure ⟨rfl, m, hm, hI'⟩
end

section
variable {elt iter1 iter2 : Expr} {x1 x2 : Str} {p1 p2 : Pos} {scope : Scope} {cenv : Env} {C Dl : Addr} {v1 : Value} {sg : Str} {LL : Led}
theorem r_in2 {J : Addr} {Stj : Nat → Heap → Prop} {us0 : List Value} {n0 : Nat} {R : Result → Shared → Prop} (W : Walks prog w A J [J] [J] sg.cps.size (SignAt sg) Stj) (hcls : ∀ j h, Stj j h → ∃ ob, h.get? J = some ob) (S : St g C hp [(x1, v1)] ((Dl, lo us0 n0) :: LL)) (hgC : g.get? C = none) (hgJ : g.get? J = none) (hJC : J ≠ C) (hJL : ∀ p ∈ LL, p.1 ≠ J) (hDJ : Dl ≠ J) (hDL : ∀ p ∈ LL, p.1 ≠ Dl)
    (PPi : Nat → List Value → Prop) (h0 : PPi 0 us0) (hst : Stj 0 hp) (hz : ∀ j us, PPi j us → us.length ≤ sizeLine) (hL : cenv.locals = C) (hk : cenv.scope.kind = .function) (hx : cenv.kindOf x2 = some .local)
    (turn : ∀ j us ch u h t n oJ, sg.cps[j]? = some ch → PPi j us → St g C h [(x2, .str ⟨#[ch]⟩ u), (x1, v1)] ((Dl, lo us n) :: (LL ++ [(J, oJ)])) →
      wpAny (model prog w) A (eval elt cenv) (fun y s => ∃ h' t' kn', s = ⟨h', G, D, t', o⟩ ∧ PPi (j + 1) (us ++ [y]) ∧ KnAll kn' [(x1, v1)] ∧ St g C h' kn' ((Dl, lo us n) :: (LL ++ [(J, oJ)]))) NoE ⟨h, G, D, t, o⟩)
    (done : ∀ us h t n, PPi sg.cps.size us → St g C h [(x1, v1)] ((Dl, lo us n) :: LL) → R (.ok .next) ⟨h, G, D, t, o⟩) :
    codeAny (model prog w) A (.compLoop (comp2 elt x1 p1 iter1 x2 p2 iter2 scope pos) 1 (.ref J) (.ref Dl) cenv) R ⟨hp, G, D, tk, o⟩ := by
  refine codeAny_loop_in (fun m s' => ∃ j us h t n, s' = ⟨h, G, D, t, o⟩ ∧ j ≤ sg.cps.size ∧ m = sg.cps.size - j ∧ PPi j us ∧ Stj j h ∧ St g C h [(x1, v1)] ((Dl, lo us n) :: LL)) ?_ sg.cps.size ⟨0, us0, hp, tk, n0, rfl, Nat.zero_le _, by (first | walk_at "om" | omega), h0, hst, S⟩
  rintro m s' ⟨j, us, h, t, n, rfl, hj, rfl, hP, hi, S⟩
  have offJ : ∀ p ∈ (Dl, lo us n) :: LL, p.1 ≠ J := fun p hp => by
    rcases List.mem_cons.mp hp with rfl | hp
    · exact hDJ
    · exact hJL p hp
  have after : ∀ h' : Heap, (∀ b ob, b ∉ [J] → h.get? b = some ob → h'.get? b = some ob) → St g C h' [(x1, v1)] ((Dl, lo us n) :: LL) := by
    intro h' hk
    refine ⟨fun b ob e => hk b ob (fun hb => by rw [List.mem_singleton.mp hb, hgJ] at e; cases e) (S.keep b ob e), ?_, fun p hp => ⟨hk _ _ (fun hb => offJ p hp (List.mem_singleton.mp hb)) (S.nw p hp).1, (S.nw p hp).2⟩⟩
    obtain ⟨mm, ⟨ol, es, ep, a, r⟩, b⟩ := S.ns
    exact ⟨mm, ⟨ol, es, ep, hk C ol (fun hb => hJC (List.mem_singleton.mp hb).symm) a, r⟩, b⟩
  rcases Nat.lt_or_ge j sg.cps.size with hlt | hge
  · refine W.item j _ _ _ hlt hi (fun v h' tk' hv hst' hk' => ?_)
    have S' := after h' hk'
    obtain ⟨ch, u, hch, rfl⟩ := hv
    obtain ⟨oJ, eJ⟩ := hcls _ _ hst'
    have S'' : St g C h' [(x1, v1)] ((Dl, lo us n) :: (LL ++ [(J, oJ)])) := ⟨S'.keep, S'.ns, fun p hp => by
      simp only [List.mem_cons, List.mem_append, List.not_mem_nil, or_false] at hp
      rcases hp with h | h | h
      · exact S'.nw p (by rw [h]; exact .head _)
      · exact S'.nw p (.tail _ h)
      · rw [h]; exact ⟨eJ, hgJ, hJC⟩⟩
    refine wpAny_assign_Name (r_store S'' hgC (fun h2 tk2 S2 => ?_) hL hk hx)
    refine wpAny_mono (turn j us ch u h2 tk2 n oJ hch hP S2) (fun y s₃ hy => ?_) fun _ _ e => e.elim
    obtain ⟨h3, t3, kn3, rfl, hP', hkn, S3⟩ := hy
    refine r_append S3 (fun p hp => ?_) (hz j us hP) (fun h5 S5 => ?_)
    · rcases List.mem_append.mp hp with hp | hp
      · exact hDL p hp
      · rw [List.mem_singleton.mp hp]; exact Ne.symm hDJ
    · refine ⟨sg.cps.size - (j + 1), by (first | walk_at "om" | omega), j + 1, us ++ [y], h5, t3, n + 1, rfl, hlt, rfl, hP', W.frame (j + 1) h' h5 hst' (fun b hb ob e => ?_), (S5.re (kn_sub hkn)).drop fun p hp => ?_⟩
      · rw [List.mem_singleton.mp hb] at e ⊢
        rw [eJ] at e; cases e
        exact S5.mem (.tail _ (List.mem_append_right _ (.head _)))
      · rcases List.mem_cons.mp hp with h | h
        · rw [h]; exact .head _
        · exact .tail _ (List.mem_append_left _ h)
  · have : j = sg.cps.size := by (first | walk_at "om" | omega)
    subst this
    exact W.done _ _ _ hi (fun h' tk' hk' => done us h' tk' n hP (after h' hk'))

theorem r_out2 {N : Nat} {I : Addr} {fp wr : List Addr} {P : Nat → Value → Prop} {Sti : Nat → Heap → Prop} {R : Result → Shared → Prop} {LO : Led} {us0 : List Value} {n0 : Nat} {kd : Nat} {ps : Pos} (hh : A.handled = none)
    (W : Walks prog w A I fp wr N P Sti) (hcls : ∀ i h, Sti i h → ∃ o, h.get? I = some o) (hwr : ∀ b ∈ wr, b = I) (S : St g C hp kn ((Dl, lo us0 n0) :: LO)) (hgC : g.get? C = none) (hgI : g.get? I = none) (hIC : I ≠ C) (hIL : ∀ p ∈ LO, p.1 ≠ I) (hDI : Dl ≠ I) (hDL : ∀ p ∈ LO, p.1 ≠ Dl)
    (hfp : ∀ b ∈ fp, b = I ∨ (∃ o, g.get? b = some o) ∨ ∃ o, (b, o) ∈ LO)
    (PPo : Nat → List Value → Prop) (PPi : Nat → Value → Nat → List Value → Prop) (h0 : PPo 0 us0) (hst : Sti 0 hp) (h01 : ∀ i v us, P i v → PPo i us → PPi i v 0 us) (h10 : ∀ i v us, PPi i v sg.cps.size us → PPo (i + 1) us) (hz : ∀ i v j us, PPi i v j us → us.length ≤ sizeLine)
    (ha : sg.cps.all (· < 128) = true) (hit : iter2 = .Constant (.str sg) kd ps) (hf : ∀ z, foldedSetIterable iter2 cenv z = pure z) (hL : cenv.locals = C) (hk : cenv.scope.kind = .function) (hx1 : cenv.kindOf x1 = some .local) (hx2 : cenv.kindOf x2 = some .local)
    (turn : ∀ i v j us ch u h t n own, P i v → sg.cps[j]? = some ch → PPi i v j us → St g C h [(x2, .str ⟨#[ch]⟩ u), (x1, v)] ((Dl, lo us n) :: (LO ++ own)) →
      wpAny (model prog w) A (eval elt cenv) (fun y s => ∃ h' t' kn', s = ⟨h', G, D, t', o⟩ ∧ PPi i v (j + 1) (us ++ [y]) ∧ KnAll kn' [(x1, v)] ∧ St g C h' kn' ((Dl, lo us n) :: (LO ++ own))) NoE ⟨h, G, D, t, o⟩)
    (done : ∀ us h t n kn', PPo N us → St g C h kn' ((Dl, lo us n) :: LO) → R (.ok .next) ⟨h, G, D, t, o⟩) :
    codeAny (model prog w) A (.compLoop (comp2 elt x1 p1 iter1 x2 p2 iter2 scope pos) 0 (.ref I) (.ref Dl) cenv) R ⟨hp, G, D, tk, o⟩ := by
  refine codeAny_loop_out hf (fun m s' => ∃ i us h t n kn', s' = ⟨h, G, D, t, o⟩ ∧ i ≤ N ∧ m = N - i ∧ PPo i us ∧ Sti i h ∧ St g C h kn' ((Dl, lo us n) :: LO)) ?_ N ⟨0, us0, hp, tk, n0, kn, rfl, Nat.zero_le _, by (first | walk_at "om" | omega), h0, hst, S⟩
  rintro m s' ⟨i, us, h, t, n, kn', rfl, hin, rfl, hP, hi, S⟩
  have offI : ∀ p ∈ (Dl, lo us n) :: LO, p.1 ≠ I := fun p hp => by
    rcases List.mem_cons.mp hp with rfl | hp
    · exact hDI
    · exact hIL p hp
  have after : ∀ h' : Heap, (∀ b ob, b ∉ wr → h.get? b = some ob → h'.get? b = some ob) → St g C h' kn' ((Dl, lo us n) :: LO) := by
    intro h' hk
    refine ⟨fun b ob e => hk b ob (fun hb => by rw [hwr b hb, hgI] at e; cases e) (S.keep b ob e), ?_, fun p hp => ⟨hk _ _ (fun hb => offI p hp (hwr _ hb)) (S.nw p hp).1, (S.nw p hp).2⟩⟩
    obtain ⟨mm, ⟨ol, es, ep, a, r⟩, b⟩ := S.ns
    exact ⟨mm, ⟨ol, es, ep, hk C ol (fun hb => hIC (hwr _ hb).symm) a, r⟩, b⟩
  rcases Nat.lt_or_ge i N with hlt | hge
  · refine W.item i _ _ _ hlt hi (fun v h' tk' hv hst' hk' => ?_)
    have S' := after h' hk'
    obtain ⟨oI, eI⟩ := hcls _ _ hst'
    have S'' : St g C h' kn' ((Dl, lo us n) :: (LO ++ [(I, oI)])) := ⟨S'.keep, S'.ns, fun p hp => by
      simp only [List.mem_cons, List.mem_append, List.not_mem_nil, or_false] at hp
      rcases hp with h | h | h
      · exact S'.nw p (by rw [h]; exact .head _)
      · exact S'.nw p (.tail _ h)
      · rw [h]; exact ⟨eI, hgI, hIC⟩⟩
    refine wpAny_assign_Name (r_store S'' hgC (fun h2 tk2 S2 => ?_) hL hk hx1)
    have S3 : St g C h2 [(x1, v)] ((Dl, lo us n) :: (LO ++ [(I, oI)])) := S2.re (kn_sub ⟨by simp, trivial⟩)
    rw [hit]
    refine r_str (fun t4 tk4 => ?_)
    refine wpAny_pyIter_ascii ha ?_
    try dsimp only
    generalize hob : ({ cls := .type "str_ascii_iterator", data := .fields #[.str sg t4, .int 0 0] } : Obj) = ob4
    have hfree : ob4.isFreed = false := by rw [← hob]; rfl
    obtain ⟨hJ, hJe⟩ : ∃ hJ, hJ = h2.push ob4 := ⟨_, rfl⟩
    rw [← hJe]
    have S5 : St g C hJ [(x1, v)] ((Dl, lo us n) :: (LO ++ [(I, oI)])) := by
      rw [hJe]; exact S3.keeps fun b ob e => Heap.get?_push_of_some _ e
    have WJ := Walks.strAscii (prog := prog) (w := w) hh h2.objs.size sg t4
    have hstJ : hJ.IsStrIter h2.objs.size "str_ascii_iterator" sg t4 0 := by
      refine ⟨ob4, ?_, by rw [← hob], by rw [← hob]; rfl⟩
      rw [hJe]; exact Heap.get?_push_size _ hfree
    have ltJ : ∀ p ∈ (Dl, lo us n) :: (LO ++ [(I, oI)]), p.1 ≠ h2.objs.size := fun p hp => Nat.ne_of_lt (S3.lt p hp)
    have loop : codeAny (model prog w) A (.compLoop (comp2 elt x1 p1 iter1 x2 p2 (.Constant (.str sg) kd ps) scope pos) 1 (.ref h2.objs.size) (.ref Dl) cenv)
        (fun r s' => r = .ok .next ∧ ∃ m, m < N - i ∧ ∃ i us h t n kn', s' = ⟨h, G, D, t, o⟩ ∧ i ≤ N ∧ m = N - i ∧ PPo i us ∧ Sti i h ∧ St g C h kn' ((Dl, lo us n) :: LO)) ⟨hJ, G, D, tk4, o⟩ := by
      refine r_in2 (J := h2.objs.size) (LL := LO ++ [(I, oI)]) WJ (fun j h st => ⟨st.choose, st.choose_spec.1⟩) S5 hgC (S3.none_of_le (Nat.le_refl _)) (Nat.ne_of_gt S3.ltL) (fun p hp => ltJ p (.tail _ hp)) (ltJ _ (.head _)) (fun p hp => ?_) (PPi i v) (h01 i v us hv hP) hstJ (hz i v) hL hk hx2
        (fun j us' ch u h t n oJ hch hP' S6 => ?_) (fun us' h t n hP' S6 => ?_)
      · rcases List.mem_append.mp hp with hp | hp
        · exact hDL p hp
        · rw [List.mem_singleton.mp hp]; exact Ne.symm hDI
      · rw [List.append_assoc] at S6 ⊢
        exact turn i v j us' ch u h t n _ hv hch hP' S6
      · refine ⟨rfl, N - (i + 1), by (first | walk_at "om" | omega), i + 1, us', h, t, n, [(x1, v)], rfl, hlt, rfl, h10 i v us' hP', W.frame (i + 1) h' h hst' (fun b hb ob e => ?_), S6.drop fun p hp => ?_⟩
        · rcases hfp b hb with rfl | ⟨ob', eg⟩ | ⟨ob', el⟩
          · rw [eI] at e; cases e
            exact S6.mem (.tail _ (List.mem_append_right _ (.head _)))
          · have := S'.keep b ob' eg
            rw [this] at e; cases e
            exact S6.keep b _ eg
          · have := S'.mem (.tail _ el)
            rw [this] at e; cases e
            exact S6.mem (.tail _ (List.mem_append_left _ el))
        · rcases List.mem_cons.mp hp with h | h
          · rw [h]; exact .head _
          · exact .tail _ (List.mem_append_left _ h)
    exact codeAny_start_in loop (WJ.self 0 _ _ _ hstJ loop)
  · have : i = N := by (first | walk_at "om" | omega)
    subst this
    exact W.done _ _ _ hi (fun h' tk' hk' => done us h' tk' n kn' hP (after h' hk'))

/-- a comprehension of two clauses over a list and a written text, laid under a name -/
theorem r_layer {iter1 : Expr} {cl : List (Str × Addr)} {y : Str} {py spos : Pos} {l : Addr} {vs : List Value} {nl kd : Nat} {ps : Pos} {Q : Flow → Shared → Prop} (hh : A.handled = none) (S : St g L hp kn led) (hgL : g.get? L = none) (hl : hp.get? l = some (lo vs nl)) (hsrc : (∃ o, g.get? l = some o) ∨ ∃ o, (l, o) ∈ led)
    (PPo : Nat → List Value → Prop) (PPi : Nat → Value → Nat → List Value → Prop) (h0 : PPo 0 []) (h01 : ∀ i v us, vs[i]? = some v → PPo i us → PPi i v 0 us) (h10 : ∀ i v us, PPi i v sg.cps.size us → PPo (i + 1) us) (hz : ∀ i v j us, PPi i v j us → us.length ≤ sizeLine)
    (turn : ∀ C i v j us ch u h t n Dl own, g.get? C = none → vs[i]? = some v → sg.cps[j]? = some ch → PPi i v j us → St g C h [(x2, .str ⟨#[ch]⟩ u), (x1, v)] ((Dl, lo us n) :: ((led ++ own))) →
      wpAny (model prog w) A (eval elt (compEnvC scope cl C env)) (fun y s => ∃ h' t' kn', s = ⟨h', G, D, t', o⟩ ∧ PPi i v (j + 1) (us ++ [y]) ∧ KnAll kn' [(x1, v)] ∧ St g C h' kn' ((Dl, lo us n) :: (led ++ own))) NoE ⟨h, G, D, t, o⟩)
    (done : ∀ Dl us n h t, PPo vs.length us → (∀ p ∈ led, p.1 < Dl) → L < Dl → St g L h ((y, .ref Dl) :: kn) ((Dl, lo us n) :: led) → Q .next ⟨h, G, D, t, o⟩)
    (ha : sg.cps.all (· < 128) = true) (hev : wpAny (model prog w) A (eval iter1 env) (fun x s => x = .ref l ∧ s = ⟨hp, G, D, tk, o⟩) NoE ⟨hp, G, D, tk, o⟩)
    (hsw : swapsWith (comp2 elt x1 p1 iter1 x2 p2 (.Constant (.str sg) kd ps) scope pos) (some (.Name y py)) spos.line env = pure true) (hclos : closureFor scope env = pure cl) (hs : ∀ x, foldedSetIterable iter1 env x = pure x) (hf : ∀ C z, foldedSetIterable (.Constant (.str sg) kd ps) (compEnvC scope cl C env) z = pure z) (hkind : scope.kind = .function) (hnames : ∀ z ∈ scope.names, z.2 = .local → scope.names.lookup z.1 = some .local)
    (hcell : ∀ y ∈ scope.names, y.2 ≠ .cell) (hx1 : scope.names.lookup x1 = some .local) (hx2 : scope.names.lookup x2 = some .local) (hL : env.locals = L) (hk : env.scope.kind = .function) (hy : env.kindOf y = some .local) :
    wpAny (model prog w) A (exec (.Assign [.Name y py] (comp2 elt x1 p1 iter1 x2 p2 (.Constant (.str sg) kd ps) scope pos) spos) env) Q NoE ⟨hp, G, D, tk, o⟩ := by
  rw [exec_Assign_Name_used _ _ _ _ hsw]
  refine wpAny_bind (wpAny_standAt (wpAny_bind ?_))
  show wpAny _ A (do let _ ← comprehension (comp2 elt x1 p1 iter1 x2 p2 (.Constant (.str sg) kd ps) scope pos) scope env _ (newList []) false (eval iter1 env) (some (assign (.Name y py) env))) _ _ _
  refine wpAny_bind (wpAny_mono (wpAny_comprehension_free (use := some (assign (.Name y py) env)) (Q := fun _ s' => Q .next s') (E := NoE) rfl hs hclos hkind hnames (wpAny_mono hev (fun xv s₁ h₁ => ?_) fun _ _ e => e)) (fun _ s' hq => wpAny_pure (wpAny_pure hq)) fun _ _ e => e)
  obtain ⟨rfl, rfl⟩ := h₁
  refine wpAny_pyIter_list (isList_of hl) ?_
  have hlt := Heap.lt_size hl
  have W := Walks.list (prog := prog) (w := w) hh hp.objs.size l (Nat.ne_of_lt hlt) vs.toArray
  have hsz : vs.toArray.size = vs.length := by simp
  rw [hsz] at W
  have up : ∀ b ob, hp.get? b = some ob → (hp.push { cls := .type "list_iterator", data := .fields #[.ref l, .int 0 0] }).get? b = some ob := fun b ob e => Heap.get?_push_of_some _ e
  have S1 := S.keeps up
  have hst : (hp.push { cls := .type "list_iterator", data := .fields #[.ref l, .int 0 0] }).IsListIter hp.objs.size l 0 ∧ (hp.push { cls := .type "list_iterator", data := .fields #[.ref l, .int 0 0] }).IsList l vs.toArray := ⟨⟨_, Heap.get?_push_size _ rfl, rfl, rfl⟩, (isList_of hl).at fun ob e => up _ _ e⟩
  have hIL : ∀ p ∈ led, p.1 ≠ hp.objs.size := fun p hp => Nat.ne_of_lt (S.lt p hp)
  have gI : g.get? hp.objs.size = none := S.none_of_le (Nat.le_refl _)
  have hIneL : hp.objs.size ≠ L := Nat.ne_of_gt S.ltL
  try dsimp only
  generalize hq : hp.push { cls := .type "list_iterator", data := .fields #[.ref l, .int 0 0] } = hq1 at S1 hst ⊢
  have hqs : hq1.objs.size = hp.objs.size + 1 := by rw [← hq, Heap.size_push]
  refine wpAny_newObj_type (wpAny_newFunctionEnv hcell (by intro y hy; simp at hy) (fun h₁ hns₁ hsb₁ => ?_) hkind)
  try dsimp only at hns₁ hsb₁ ⊢
  have SD := (S1.new (ob := lo [] 0) rfl).1
  generalize hH2 : hq1.push { cls := .type "list", dict := none, data := .seq ([] : List Value).toArray } = H2 at hns₁ hsb₁ ⊢
  have hC : H2.objs.size = hq1.objs.size + 1 := by rw [← hH2, Heap.size_push]
  replace SD : St g L H2 kn ((hq1.objs.size, lo [] 0) :: led) := by rw [← hH2]; exact SD
  have old : ∀ b ob, H2.get? b = some ob → h₁.get? b = some ob := fun b ob e => hsb₁.extBut b ob (Nat.ne_of_lt (Heap.lt_size e)) (Heap.get?_push_of_some _ e)
  have S2 := SD.keeps old
  have hDC : hq1.objs.size ≠ H2.objs.size := by rw [hC]; exact Nat.ne_of_lt (Nat.lt_succ_self _)
  have gC : g.get? H2.objs.size = none := S.none_of_le (by rw [hC, hqs]; exact Nat.le_succ_of_le (Nat.le_succ _))
  have gD : g.get? hq1.objs.size = none := S.none_of_le (by rw [hqs]; exact Nat.le_succ _)
  have hLlt := S1.ltL
  have hIlt : hp.objs.size < hq1.objs.size := by rw [hqs]; exact Nat.lt_succ_self _
  have hCL : H2.objs.size ≠ L := Nat.ne_of_gt (by rw [hC]; exact Nat.lt_succ_of_lt hLlt)
  obtain ⟨oL, eL⟩ : ∃ oL, h₁.get? L = some oL := by obtain ⟨m, ⟨ol, es, ep, a, _⟩, _⟩ := S2.ns; exact ⟨ol, a⟩
  have below : ∀ q ∈ (hq1.objs.size, lo [] 0) :: led, q.1 ≠ H2.objs.size := fun q hq => Nat.ne_of_lt (SD.lt q hq)
  have SC : St g H2.objs.size h₁ [] ((hq1.objs.size, lo [] 0) :: (led ++ [(L, oL)])) := by
    refine ⟨S2.keep, ⟨_, hns₁, fun x v e => by cases e⟩, fun p hp' => ?_⟩
    rcases List.mem_cons.mp hp' with h | h
    · have z := S2.nw p (by rw [h]; exact .head _)
      exact ⟨z.1, z.2.1, below p (by rw [h]; exact .head _)⟩
    · rcases List.mem_append.mp h with h | h
      · have z := S2.nw p (.tail _ h)
        exact ⟨z.1, z.2.1, below p (.tail _ h)⟩
      · rw [List.mem_singleton.mp h]
        exact ⟨eL, hgL, Ne.symm hCL⟩
  have hst₁ : h₁.IsListIter hp.objs.size l 0 ∧ h₁.IsList l vs.toArray := W.frame 0 hq1 h₁ hst fun b hb ob e => old b ob (by rw [← hH2]; exact Heap.get?_push_of_some _ e)
  have fin : ∀ us h t n kn', PPo vs.length us → St g H2.objs.size h kn' ((hq1.objs.size, lo us n) :: (led ++ [(L, oL)])) →
      compPost (model prog w) A NoE (some (assign (.Name y py) env)) (fun _ s' => Q .next s') (.ref hq1.objs.size) H2.objs.size (.ok .next) ⟨h, G, D, t, o⟩ := fun us h t n kn' hP S3 => by
    have hoff : ∀ p ∈ (hq1.objs.size, lo us n) :: led, p.1 ≠ H2.objs.size := fun p hp' => (S3.nw p (by
      rcases List.mem_cons.mp hp' with h | h
      · rw [h]; exact .head _
      · exact .tail _ (List.mem_append_left _ h))).2.2
    refine compPost_done (L := L) (kn := kn) gC hCL (let ⟨m, a, _⟩ := S3.ns; ⟨m, a⟩) (fun h' hs => ?_) hoff ?_
    · have off : ∀ b ob, h.get? b = some ob → b ≠ H2.objs.size → h'.get? b = some ob := fun b ob e n => (hs.2 b n).trans e
      have zL := S3.nw (L, oL) (.tail _ (List.mem_append_right _ (.head _)))
      refine ⟨fun b ob e => off b ob (S3.keep b ob e) (fun q => by rw [q, gC] at e; cases e), ?_, fun p hp' => ?_⟩
      · obtain ⟨m, ⟨ol, es, ep, a, r⟩, b⟩ := S2.ns
        rw [eL] at a; cases a
        exact ⟨m, ⟨oL, es, ep, off _ _ zL.1 zL.2.2, r⟩, b⟩
      · have hq : p ∈ (hq1.objs.size, lo us n) :: (led ++ [(L, oL)]) := by
          rcases List.mem_cons.mp hp' with h | h
          · rw [h]; exact .head _
          · exact .tail _ (List.mem_append_left _ h)
        have z := S3.nw p hq
        refine ⟨off _ _ z.1 z.2.2, z.2.1, ?_⟩
        rcases List.mem_cons.mp hp' with h | h
        · rw [h]; exact Nat.ne_of_gt hLlt
        · exact (S.nw p h).2.2
    · exact fun h' oC S' => comp_store (Q := fun _ s' => Q .next s') hgL hL hk hy hoff S' fun h3 t3 S4 => done hq1.objs.size us n h3 t3 hP (fun p hp => by rw [hqs]; exact Nat.lt_succ_of_lt (S.lt p hp)) hLlt S4
  have loop : codeAny (model prog w) A (.compLoop (comp2 elt x1 p1 iter1 x2 p2 (.Constant (.str sg) kd ps) scope pos) 0 (.ref hp.objs.size) (.ref hq1.objs.size) (compEnvC scope cl H2.objs.size env)) (compPost (model prog w) A NoE (some (assign (.Name y py) env)) (fun _ s' => Q .next s') (.ref hq1.objs.size) H2.objs.size)
      ⟨h₁, G, D, tk + ([] : List (Str × Value)).length, o⟩ := by
    refine r_out2 (LO := led ++ [(L, oL)]) (us0 := []) (n0 := 0) (kd := kd) (ps := ps) hh W (fun i h st => by obtain ⟨oo, a, b, c⟩ := st.1; exact ⟨oo, a⟩) (fun b hb => by simpa using hb) SC gC gI (Nat.ne_of_lt (by rw [hC]; exact Nat.lt_succ_of_lt hIlt)) (fun p hp' => ?_) (Nat.ne_of_gt hIlt) (fun p hp' => ?_) (fun b hb => ?_)
      PPo PPi h0 hst₁ (fun i v us hv => h01 i v us (by simpa using hv)) h10 hz ha rfl (hf _) rfl hkind (lookup_relabel_local hx1) (lookup_relabel_local hx2) (fun i v j us ch u h t n own hv hch hP S3 => ?_) fin
    · rcases List.mem_append.mp hp' with h | h
      · exact hIL p h
      · rw [List.mem_singleton.mp h]; exact Ne.symm hIneL
    · rcases List.mem_append.mp hp' with h | h
      · exact Nat.ne_of_lt (S1.lt p h)
      · rw [List.mem_singleton.mp h]; exact Nat.ne_of_lt hLlt
    · rcases List.mem_cons.mp hb with rfl | hb
      · exact .inl rfl
      · rw [List.mem_singleton.mp hb]
        exact hsrc.elim (fun e => .inr (.inl e)) fun ⟨ob, hm⟩ => .inr (.inr ⟨ob, List.mem_append_left _ hm⟩)
    · have S4 : St g H2.objs.size h [(x2, .str ⟨#[ch]⟩ u), (x1, v)] ((hq1.objs.size, lo us n) :: (led ++ ([(L, oL)] ++ own))) := by rw [← List.append_assoc]; exact S3
      refine wpAny_mono (turn H2.objs.size i v j us ch u h t n hq1.objs.size ([(L, oL)] ++ own) gC (by simpa using hv) hch hP S4) (fun y' s₃ hy' => ?_) fun _ _ e => e
      obtain ⟨h', t', kn', rfl, hP', hkn, S5⟩ := hy'
      rw [← List.append_assoc] at S5
      exact ⟨h', t', kn', rfl, hP', hkn, S5⟩
  exact codeAny_compStart_list loop (W.self 0 _ _ _ hst₁ loop)
end
end
end
section
set_option maxRecDepth 100000
set_option maxHeartbeats 0
noncomputable def fan (n : Str) : List Str := [n ++ Str.ofString "/", n ++ Str.ofString "B", n ++ Str.ofString "a"]
noncomputable def layerN : Nat → List Str
  | 0 => layer0
  | i + 1 => nextLayer (layerN i)
noncomputable def namesN : Nat → List Str
  | 0 => layer0
  | i + 1 => namesN i ++ layerN (i + 1)
theorem layer_size : ∀ i, i ≤ 3 → (layerN i).length ≤ 27 ∧ (namesN i).length ≤ 40 ∧ ∀ n ∈ layerN i, n.length ≤ 3 := by
  intro i hi
  have h : i = 0 ∨ i = 1 ∨ i = 2 ∨ i = 3 := by (first | walk_at "om" | omega)
  rcases h with rfl | rfl | rfl | rfl <;> decide +kernel
theorem fan_at (nm : Str) : ∀ j ch, (Str.ofString "/Ba").cps[j]? = some ch → (fan nm)[j]? = some (nm ++ ⟨#[ch]⟩) ∧ j < 3 := by
  intro j ch h
  have hj : j < (Str.ofString "/Ba").cps.size := (Array.getElem?_eq_some_iff.mp h).1
  have hj3 : j < 3 := hj
  have h3 : j = 0 ∨ j = 1 ∨ j = 2 := by (first | walk_at "om" | omega)
  rcases h3 with rfl | rfl | rfl
  · have : ch = 47 := (Option.some.inj (h.symm.trans (show (Str.ofString "/Ba").cps[0]? = some 47 from rfl)))
    subst this; exact ⟨rfl, hj3⟩
  · have : ch = 66 := (Option.some.inj (h.symm.trans (show (Str.ofString "/Ba").cps[1]? = some 66 from rfl)))
    subst this; exact ⟨rfl, hj3⟩
  · have : ch = 97 := (Option.some.inj (h.symm.trans (show (Str.ofString "/Ba").cps[2]? = some 97 from rfl)))
    subst this; exact ⟨rfl, hj3⟩
end
section
set_option maxRecDepth 100000
set_option maxHeartbeats 0
theorem seg1618 (w : World) : LawAt w fun body scope qual => ∀ s0 s1 s2, body[16]? = some s0 → body[17]? = some s1 → body[18]? = some s2 → ∀ {prog A g0 hp G D tk o L fa cd k T Rd} {rest : List Stmt} {Q : Flow → Shared → Prop},
    Fz w A (k + 8) g0 L hp [(Str.ofString "readers", .ref Rd), (Str.ofString "due", .ref T)] →
    (∀ (hp' : Heap) (tk' : Nat) (Ly Nm : Addr) (lv nv : List Value) (nl nn : Nat), Fz w A (k + 8) g0 L hp' [(Str.ofString "layer", .ref Ly), (Str.ofString "names", .ref Nm), (Str.ofString "readers", .ref Rd), (Str.ofString "due", .ref T)] → KB [L] hp hp' → hp'.get? Ly = some (lo lv nl) → hp'.get? Nm = some (lo nv nn) → StrsAre lv layer3 → StrsAre nv names40 → wpAny (model prog w) A (execs rest (envOfC qual scope L fa cd)) Q NoE ⟨hp', G, D, tk', o⟩) →
    wpAny (model prog w) A (execs (s0 :: s1 :: s2 :: rest) (envOfC qual scope L fa cd)) Q NoE ⟨hp, G, D, tk, o⟩ := by
  have hs24 : sizeLine = 16777216 := rfl
  refine' LawAt.intro ?ho ?_
  case ho => k_is
  intro s0 s1 s2 i0 i1 i2
  cases i0; cases i1; cases i2
  intro prog A g0 hp G D tk o L fa cd k T Rd rest Q F next
  obtain ⟨g, C, gL, S, gk, gh, gn, gg⟩ := F.start [] [] (by simp) (by simp)
  repeat walk_at "v"
  refine r_newList S (by simp [hs24]) (fun Nm h1 S1 b1 b2 b3 => ?_)
  repeat walk_at "v"
  refine r_newList (by assumption) (by simp [hs24]) (fun Ly h2 S2 c1 c2 c3 => ?_)
  have hNL : Nm < Ly := c1 _ (.head _)
  repeat walk_at "v"
  refine r_range (by assumption) (fun r h3 u1 u2 tk3 S3 l3 => ?_)
  refine r_iterRange S3 (S3.mem (.head _)) (by decide) (fun I h4 tk4 S4 gI IL lI it => ?_)
  have S4' := St.sub [(Ly, lo [.str (Str.ofString "") _] 0), (Nm, lo [.str (Str.ofString "") _] 0)] S4 (by walk_at "sub")
  refine r_forRI (σ := List Value × Addr × Nat × List Value × Nat) (g := g) (L := L) (n := 3) C.hh S4' gL it gI IL (fun _ c => [(Str.ofString "layer", .ref c.2.1), (Str.ofString "names", .ref Nm), (Str.ofString "readers", .ref Rd), (Str.ofString "due", .ref T)]) (fun _ c => [(c.2.1, lo c.1 c.2.2.1), (Nm, lo c.2.2.2.1 c.2.2.2.2)])
    (fun i c => StrsAre c.1 (layerN i) ∧ StrsAre c.2.2.2.1 (namesN i) ∧ Nm < c.2.1) ([.str (Str.ofString "") _], Ly, 0, [.str (Str.ofString "") _], 0) (by walk_at "kn") rfl ⟨.cons _ _ .nil, .cons _ _ .nil, hNL⟩ (by simp) ?_ ?_ rfl rfl rfl
  · rintro i ⟨lv, ll, nll, nv, nn⟩ h5 t5 u I' oI hi ⟨p1, p2, p3⟩ S5 hoff hIc
    try dsimp only at p1 p2 p3 S5 ⊢
    obtain ⟨z1, z2, z3⟩ := layer_size i (by (first | walk_at "om" | omega))
    obtain ⟨y1, y2, y3⟩ := layer_size (i + 1) (by (first | walk_at "om" | omega))
    have hvl := p1.length
    have hnl := p2.length
    have hIN : Nm ≠ I' := hoff (Nm, lo nv nn) (.tail _ (.head _))
    refine GenP.intro (fun TL hTL => ?_)
    refine r_cons (fun T1 hT1 => ?_)
    refine r_layer (l := ll) (vs := lv) (nl := nll) (cl := []) C.hh S5 gL (S5.mem (.head _)) (.inr ⟨_, .head _⟩) (fun i' us => StrsAre us (((layerN i).take i').flatMap fan) ∧ us.length ≤ 3 * i')
      (fun i' v j us => ∃ nm t, v = .str nm t ∧ (layerN i)[i']? = some nm ∧ StrsAre us (((layerN i).take i').flatMap fan ++ (fan nm).take j) ∧ us.length ≤ 3 * i' + j ∧ j ≤ 3) ⟨.nil, by simp⟩ (fun i' v us hv hP => ?_) (fun i' v us hP => ?_) (fun i' v j us hP => ?_) (fun K i' v j us ch u' h t n Dl own gK hv hch hP S6 => ?_) (fun Dl us n h t hP hlD hLD S6 => ?_) (by decide +kernel) ?_ rfl rfl (fun _ => rfl) (fun _ _ => rfl) rfl (by decide) (by decide) rfl rfl rfl rfl rfl
    · obtain ⟨nm, t, rfl, hn⟩ := p1.item i' v hv
      exact ⟨nm, t, rfl, hn, by simpa using hP.1, by have := hP.2; (first | walk_at "om" | omega), by (first | walk_at "om" | omega)⟩
    · obtain ⟨nm, t, rfl, hn, hs, hl, _⟩ := hP
      have e3 : (Str.ofString "/Ba").cps.size = 3 := rfl
      rw [e3] at hs hl
      refine ⟨?_, by (first | walk_at "om" | omega)⟩
      rw [List.take_add_one, hn, List.flatMap_append]
      simpa [fan] using hs
    · obtain ⟨nm, t, rfl, hn, hs, hl, hj⟩ := hP
      have := (List.getElem?_eq_some_iff.mp hn).1
      (first | walk_at "om" | omega)
    · obtain ⟨nm, t', rfl, hn, hs, hl, hj⟩ := hP
      obtain ⟨hf, hj3⟩ := fan_at nm j ch hch
      have hnl3 := z3 nm (List.mem_of_getElem? hn)
      have zc : ({ cps := #[ch] } : Str).length = 1 := rfl
      repeat walk_at "v"
      refine r_stradd (by (first | walk_at "om" | omega)) (fun t7 tk7 => ?_)
      refine ⟨h, tk7, _, rfl, ⟨nm, t', rfl, hn, ?_, by simp; (first | walk_at "om" | omega), by (first | walk_at "om" | omega)⟩, ?_, S6⟩
      · rw [List.take_add_one, hf, ← List.append_assoc]
        exact hs.append' (.cons _ _ .nil)
      · exact ⟨rfl, trivial⟩
    · try dsimp only
      rw [hvl, List.take_length] at hP
      have hNl : Nm ≠ ll := ne_lt p3
      repeat walk_at "v"
      refine r_lmeth (l := Nm) (vs := nv) (n := nn) PySem.F.slot_list_extend PySem.F.type_list_extend (S6.mem (by walk_at "mm")) ?_
      repeat walk_at "v"
      have hNDl : Nm < Dl := hlD (Nm, lo nv nn) (by walk_at "mm")
      have hul := hP.1.length
      have hul2 : us.length ≤ 81 := by have := hP.2; (first | walk_at "om" | omega)
      refine r_extend (l := Nm) (b := Dl) (vs := nv) (ws := us) (n := nn) (m := n) (led := [(Dl, lo us n), (I', oI)]) (S6.sub _ (by walk_at "sub")) (by walk_at "nn") (S6.mem (.head _)) (by (first | walk_at "om" | omega)) (fun h8 n8 S8 => ⟨rfl, ?_⟩)
      try dsimp only
      repeat walk_at "v"
      walk_at "x"; exact ForEnd.intro (us, Dl, n, nv ++ us, n8) (St.fit _ _ S8 (by walk_at "kn") (by walk_at "sub")) ⟨hP.1, p2.append' hP.1, hNDl⟩
    · refine r_name (g := g) (L := L) S5 (by rfl) ⟨rfl, rfl⟩ rfl rfl rfl (by decide)
  · rintro ⟨lv, ll, nll, nv, nn⟩ h5 t5 ⟨p1, p2, p3⟩ S5
    try dsimp only at p1 p2 p3 S5 ⊢
    have K := S5.kb gk
    walk_at "x"; exact next h5 t5 ll Nm lv nv nll nn (F.next K S5.ns (by simp) (fun _ _ _ h => by simp at h)) K (S5.mem (.head _)) (S5.mem (.tail _ (.head _))) p1 p2
end
section
set_option maxRecDepth 100000
section
variable {prog : Program} {w : World} {M : Model} {A : Around} {E : Value → Shared → Prop} {hp g : Heap} {G : Array GenState} {D : Drawn} {tk : Nat} {o : OsState} {L : Addr} {kn : Kns} {led : Led} {env : Env} {k : Nat} {x : Str} {v : Value} {pos : Pos}
theorem r_forD {σ : Type} {target : Expr} {body : List Stmt} {Q : Flow → Shared → Prop} {n : Nat} {I : Addr} {fp wr : List Addr} {P : Nat → Value → Prop} {Sti : Nat → Heap → Prop} (W : Walks prog w A I fp wr n P Sti) (clsI : Value)
    (hcls : ∀ i h, Sti i h → ∃ o, h.get? I = some o ∧ o.cls = clsI ∧ ∀ v, o.data ≠ .cell v) (hwr : ∀ b ∈ wr, b = I) (kns : Nat → σ → Kns) (leds : Nat → σ → Led) (PP : Nat → σ → Prop) (c₀ : σ)
    (S : St g L hp (kns 0 c₀) (leds 0 c₀)) (hgI : g.get? I = none) (hLI : I ≠ L) (h0 : PP 0 c₀) (hst : Sti 0 hp)
    (hfp : ∀ b ∈ fp, b = I ∨ (∃ o, g.get? b = some o) ∨ ∃ o, ∀ i c, PP i c → (b, o) ∈ leds i c) (hoff : ∀ i c, PP i c → ∀ p ∈ leds i c, p.2.cls ≠ clsI ∨ ∃ v, p.2.data = .cell v)
    (turn : ∀ i c v h t oI, i < n → P i v → PP i c → St g L h (kns i c) (leds i c ++ [(I, oI)]) → (∀ p ∈ leds i c, p.1 ≠ I) → oI.cls = clsI →
      wpAny (model prog w) A (letOwnedTupleGo target (.ref I) v) (fun _ s₁ => wpAny (model prog w) A (assign target env v) (fun _ s₂ => wpAny (model prog w) A (execs body env) (ForPost G D o g L kns leds PP [(I, oI)] Q i) NoE s₂) NoE s₁) NoE ⟨h, G, D, t, o⟩)
    (done : ∀ c h t, PP n c → St g L h (kns n c) (leds n c) → Q .next ⟨h, G, D, t, o⟩) :
    codeAny (model prog w) A (.forLoop target (.ref I) body [] env) (fun r s' => match r with | .ok f => Q f s' | .error e => cameBackBy (model prog w) A env NoE e s') ⟨hp, G, D, tk, o⟩ :=
  r_forG (good := fun o => ∀ v, o.data ≠ .cell v) W clsI hcls hwr kns leds PP c₀ S hgI hLI h0 hst hfp (fun i c hP p hp hg => (hoff i c hP p hp).elim id fun e => absurd e.choose_spec (hg _)) turn done

/-- a for over a list's items -/
theorem r_forListD {σ : Type} {xt : Str} {px : Pos} {body : List Stmt} {Q : Flow → Shared → Prop} {l : Addr} {vs : List Value} {n : Nat} (hh : A.handled = none) (S : St g L hp kn led) (hgL : g.get? L = none) (hl : hp.get? l = some (lo vs n)) (kns : Nat → σ → Kns) (leds : Nat → σ → Led) (PP : Nat → σ → Prop) (c₀ : σ)
    (S0 : KnAll kn (kns 0 c₀)) (hled : leds 0 c₀ = led) (h0 : PP 0 c₀)
    (hfp : (∃ o, g.get? l = some o) ∨ ∀ i c, PP i c → (l, lo vs n) ∈ leds i c) (hoff : ∀ i c, PP i c → ∀ p ∈ leds i c, p.2.cls ≠ .type "list_iterator" ∨ ∃ v, p.2.data = .cell v)
    (turn : ∀ i c v h t I oI, vs[i]? = some v → PP i c → St g L h ((xt, v) :: kns i c) (leds i c ++ [(I, oI)]) → (∀ p ∈ leds i c, p.1 ≠ I) → oI.cls = .type "list_iterator" →
      GenP (ForPost G D o g L kns leds PP [(I, oI)] Q i) fun T => wpAny (model prog w) A (execs body env) T NoE ⟨h, G, D, t, o⟩)
    (done : ∀ c h t, PP vs.length c → St g L h (kns vs.length c) (leds vs.length c) → Q .next ⟨h, G, D, t, o⟩) (hL : env.locals = L) (hk : env.scope.kind = .function) (hx : env.kindOf xt = some .local) :
    wpAny (model prog w) A (pyIter (.ref l)) (fun it s₂ => codeAny (model prog w) A (.forLoop (.Name xt px) it body [] env) (fun r s' => match r with | .ok f => Q f s' | .error e => cameBackBy (model prog w) A env NoE e s') s₂) NoE ⟨hp, G, D, tk, o⟩ := by
  refine wpAny_pyIter_list (isList_of hl) ?_
  have hlt := Heap.lt_size hl
  have up : ∀ b ob, hp.get? b = some ob → (hp.push { cls := .type "list_iterator", data := .fields #[.ref l, .int 0 0] }).get? b = some ob := fun b ob e => Heap.get?_push_of_some _ e
  have W := Walks.list (prog := prog) (w := w) hh hp.objs.size l (Nat.ne_of_lt hlt) vs.toArray
  have hz : vs.toArray.size = vs.length := by simp
  rw [hz] at W
  refine r_forD (g := g) (L := L) W (.type "list_iterator") (fun i h st => by obtain ⟨oo, a, b, c⟩ := st.1; exact ⟨oo, a, b, fun v e => by rw [c] at e; cases e⟩) (fun b hb => by simpa using hb) kns leds PP c₀ ((S.keeps up).is S0 hled) (S.none_of_le (Nat.le_refl _)) (Nat.ne_of_gt S.ltL) h0
    ⟨⟨_, Heap.get?_push_size _ rfl, rfl, rfl⟩, (isList_of hl).at fun ob e => up _ _ e⟩ (fun b hb => ?_) hoff (fun i c v h t oI hi hv hP S' off hcl => ?_) done
  · rcases List.mem_cons.mp hb with rfl | hb
    · exact .inl rfl
    · rw [List.mem_singleton.mp hb]
      exact hfp.elim (fun e => .inr (.inl e)) fun e => .inr (.inr ⟨_, e⟩)
  · exact r_forName S' hgL (fun h' tk' S'' => (turn i c v h' tk' _ oI (by simpa using hv) hP S'' off hcl).use) hL hk hx
end
end
section
set_option maxRecDepth 100000
set_option maxHeartbeats 0
noncomputable def told (ks : List Str) (n : Str) : Bool := ks.any fun k => Txt.contains (headL n) k
theorem head_size : ∀ n ∈ names40, (headL n).length ≤ 3 := by decide +kernel
theorem told_eq {qs : List RL} {ks : List Str} (hsay : qs.map (fun q => Run.says q.rs) = ks.map (fun y => runsOf (pt y))) (hlow : ∀ y ∈ ks, y ∈ lows6) {n : Str} (hn : n ∈ names40) : (qs.any fun q => takesGo (headL n) (Run.says q.rs) 0) = told ks n := by
  have e1 : (qs.any fun q => takesGo (headL n) (Run.says q.rs) 0) = (qs.map fun q => Run.says q.rs).any fun s => takesGo (headL n) s 0 := by rw [List.any_map]; rfl
  rw [e1, hsay, List.any_map]
  unfold told
  clear hsay e1
  induction ks with
  | nil => rfl
  | cons k r ih =>
    rw [List.any_cons, List.any_cons, ih fun y hy => hlow y (.tail _ hy)]
    congr 1
    exact takes_all n hn k (hlow k (.head _))
noncomputable def valB : Value → Bool
  | .bool b => b
  | _ => false
theorem valueAt_none {kvs : List (Str × Value)} {k : Str} (h : ∀ p ∈ kvs, p.1 ≠ k) : valueAt kvs k = none := by
  induction kvs with
  | nil => rfl
  | cons p r ih =>
    have h1 := h p (.head _)
    unfold valueAt at ih ⊢
    simp [h1, ih fun q hq => h q (.tail _ hq)]
theorem valueAt_mem {f : Str → Value} : ∀ {ns : List Str} {k : Str}, k ∈ ns → valueAt (ns.map fun n => (n, f n)) k = some (f k)
  | n :: r, k, h => by
    by_cases e : n = k
    · subst e; simp [valueAt]
    · have hk : k ∈ r := (List.mem_cons.mp h).resolve_left fun q => e q.symm
      have ih := valueAt_mem (f := f) hk
      unfold valueAt at ih ⊢
      simp [e] at ih ⊢
      exact ih
theorem isDict_cls {prog : Program} {w : World} {ob : Obj} {kvs : List (Str × Value)} (h : ob.IsDictOf (PySem.strKind prog w) kvs) : ob.cls = .type "dict" := by
  obtain ⟨es, ep, hx, _⟩ := h
  exact hx.1
theorem newDict_is (prog : Program) (w : World) (h : Heap) : Obj.IsDictOf (PySem.strKind prog w) { cls := .type "dict", data := .dict #[] } [] := by
  obtain ⟨o, e, d⟩ := Heap.dictOf_iff.mp (Heap.DictOf.new (knd := PySem.strKind prog w) h)
  rw [Heap.get?_push_size _ rfl] at e
  cases e; exact d
section
variable {prog : Program} {w : World} {M : Model} {A : Around} {E : Value → Shared → Prop} {hp g : Heap} {G : Array GenState} {D : Drawn} {tk : Nat} {o : OsState} {L : Addr} {kn : Kns} {led : Led} {env : Env} {pos : Pos}
theorem r_newDict {Q : Value → Shared → Prop} (S : St g L hp kn led) (h : ∀ d h', St g L h' kn ((d, { cls := .type "dict", data := .dict #[] }) :: led) → (∀ p ∈ led, p.1 < d) → L < d → g.get? d = none → hp.get? d = none → Q (.ref d) ⟨h', G, D, tk, o⟩) :
    wpAny M A (eval (.Dict [] [] pos) env) Q E ⟨hp, G, D, tk, o⟩ := by
  obtain ⟨a, b, c, d⟩ := S.new (ob := { cls := .type "dict", data := .dict #[] }) rfl
  refine wpAny_Dict_empty (h _ _ a b c d ?_)
  cases e : hp.get? hp.objs.size with
  | none => rfl
  | some o' => exact absurd (Heap.lt_size e) (Nat.lt_irrefl _)
theorem r_setdict {d : Addr} {ob : Obj} {kvs : List (Str × Value)} {x : Str} {t : Tok} {v : Value} {Q : Unit → Shared → Prop} (S : St g L hp kn ((d, ob) :: led)) (hne : ∀ p ∈ led, p.1 ≠ d) (hd : ob.IsDictOf (PySem.strKind prog w) kvs) (hz : kvs.length ≤ 1000)
    (h : ∀ h' ob' tk', ob'.IsDictOf (PySem.strKind prog w) (stored kvs x v) → St g L h' kn ((d, ob') :: led) → Q () ⟨h', G, D, tk', o⟩) : wpAny (model prog w) A (setItem (.ref d) (.str x t) v) Q E ⟨hp, G, D, tk, o⟩ := by
  have hs24 : sizeLine = 16777216 := rfl
  refine wpAny_setItem_pairs (knd := PySem.strKind prog w) (k := x) (by show Value.isStrOf x (.str x t) = true; simp [Value.isStrOf]) (Heap.dictOf_iff.mpr ⟨ob, S.mem (.head _), hd⟩) (fun h' hm hs => ?_) (by (first | walk_at "om" | omega))
  obtain ⟨ob', e, hd'⟩ := Heap.dictOf_iff.mp hm
  exact h h' ob' _ hd' (S.set hs e hne)
end
end
section
set_option maxRecDepth 100000
set_option maxHeartbeats 0
theorem seg1920 (w : World) : LawAt w fun body scope qual => ∀ s0 s1, body[19]? = some s0 → body[20]? = some s1 → ∀ {prog A g0 hp G D tk o L fa cd k T Rd Ly Nm nr nn} {nv : List Value} {qs : List RL} {ks : List Str} {rest : List Stmt} {Q : Flow → Shared → Prop},
    Fz w A (k + 8) g0 L hp [(Str.ofString "layer", .ref Ly), (Str.ofString "names", .ref Nm), (Str.ofString "readers", .ref Rd), (Str.ofString "due", .ref T)] → hp.get? Nm = some (lo nv nn) → StrsAre nv names40 → hp.get? Rd = some (lo (qs.map fun q => .ref q.l) nr) → (∀ p ∈ RL.leds qs, hp.get? p.1 = some p.2) → qs.map (fun q => Run.says q.rs) = ks.map (fun y => runsOf (pt y)) → (∀ y ∈ ks, y ∈ lows6) → qs.length ≤ 1000 →
    (∀ (hp' : Heap) (tk' : Nat) (Td : Addr) (ob : Obj), Fz w A (k + 8) g0 L hp' [(Str.ofString "layer", .ref Ly), (Str.ofString "names", .ref Nm), (Str.ofString "due", .ref T)] → KB [L, L + 3, L + 4] hp hp' → hp'.IsCell (L + 3) (some (.ref Td)) → hp'.get? Td = some ob → hp.get? Td = none → ob.IsDictOf (PySem.strKind prog w) (names40.map fun n => (n, Value.bool (told ks n))) → wpAny (model prog w) A (execs rest (envOfC qual scope L fa cd)) Q NoE ⟨hp', G, D, tk', o⟩) →
    wpAny (model prog w) A (execs (s0 :: s1 :: rest) (envOfC qual scope L fa cd)) Q NoE ⟨hp, G, D, tk, o⟩ := by
  have hs24 : sizeLine = 16777216 := rfl
  refine' LawAt.intro ?ho ?_
  case ho => k_is
  intro s0 s1 i0 i1
  cases i0; cases i1
  intro prog A g0 hp G D tk o L fa cd k T Rd Ly Nm nr nn nv qs ks rest Q F hNm sa hRd hqs hsay hlow hql next
  obtain ⟨oC, vC, eC, hC⟩ := F.cellObj (i := 3) (by (first | walk_at "om" | omega)) (by (first | walk_at "om" | omega))
  obtain ⟨oH, vH, eH, hH⟩ := F.cellObj (i := 4) (by (first | walk_at "om" | omega)) (by (first | walk_at "om" | omega))
  have l3 : L + 3 ≠ L := Nat.ne_of_gt (Nat.lt_add_of_pos_right (by decide))
  have l4 : L + 4 ≠ L := Nat.ne_of_gt (Nat.lt_add_of_pos_right (by decide))
  have l34 : L + 3 ≠ L + 4 := Nat.ne_of_lt (Nat.lt_succ_self _)
  obtain ⟨g, C, gL, S, gk, gh, gn, gg⟩ := F.start [L + 3, L + 4] [(L + 3, oC), (L + 4, oH)] (fun d hd => by
    simp only [List.mem_cons, List.not_mem_nil, or_false] at hd
    rcases hd with rfl | rfl
    · exact F.n0 3 (by (first | walk_at "om" | omega))
    · exact F.n0 4 (by (first | walk_at "om" | omega))) (fun p hp => by
    simp only [List.mem_cons, List.not_mem_nil, or_false] at hp
    rcases hp with rfl | rfl
    · exact ⟨eC, by simp, l3⟩
    · exact ⟨eH, by simp, l4⟩)
  have gko : ∀ b ob vs n, hp.get? b = some ob → ob.data = .seq vs n → g.get? b = some ob := fun b ob vs n e hd => gk b ob e (by
    have z := off_seq F e hd
    simp only [List.mem_cons, List.not_mem_nil, or_false, not_or]
    exact ⟨z.l, z 3 (by (first | walk_at "om" | omega)), z 4 (by (first | walk_at "om" | omega))⟩)
  have gNm := gko _ _ _ _ hNm rfl
  have gRd := gko _ _ _ _ hRd rfl
  have gqs : ∀ p ∈ RL.leds qs, g.get? p.1 = some p.2 := fun p hp => by
    have e := hqs p hp
    obtain ⟨q, hq, hp⟩ := List.mem_flatMap.mp hp
    rcases List.mem_cons.mp hp with rfl | hp
    · exact gko _ _ _ _ e rfl
    · obtain ⟨r, hr, rfl⟩ := List.mem_map.mp hp
      exact gko _ _ _ _ e rfl
  repeat walk_at "v"
  refine r_newDict S (fun Td h1 S1 b1 b2 b3 hTd => ?_)
  have q3 : L + 3 < Td := b1 (L + 3, oC) (.head _)
  have q4 : L + 4 < Td := b1 (L + 4, oH) (.tail _ (.head _))
  have hd0 := newDict_is prog w h1
  generalize ({ cls := .type "dict", data := .dict #[] } : Obj) = ob0 at S1 hd0
  refine r_cellstore (c := L + 3) (oc := oC) (led := [(Td, ob0), (L + 4, oH)]) (S1.sub _ (by walk_at "sub")) (by have := Ne.symm l34; walk_at "nn") hC (fun h2 oC' cC S2 => ?_) rfl rfl rfl
  try dsimp only
  repeat walk_at "v"
  have hnl := sa.length
  refine r_forListD (σ := Obj × Obj) C.hh S2 gL (S2.keep _ _ gNm) (fun _ _ => [(Str.ofString "layer", .ref Ly), (Str.ofString "names", .ref Nm), (Str.ofString "readers", .ref Rd), (Str.ofString "due", .ref T)]) (fun _ c => [(L + 3, oC'), (Td, c.1), (L + 4, c.2)]) (fun i c => c.1.IsDictOf (PySem.strKind prog w) ((names40.take i).map fun n => (n, Value.bool (told ks n))) ∧ (∃ v, c.2.data = .cell v)) (ob0, oH) (by walk_at "kn") rfl ⟨hd0, ⟨_, hH⟩⟩ (.inl ⟨_, gNm⟩) ?_ ?_ ?_ rfl rfl rfl
  · rintro i ⟨ob, oh⟩ ⟨p1, ⟨v, p2⟩⟩ p hp
    simp only [List.mem_cons, List.not_mem_nil, or_false] at hp
    rcases hp with rfl | rfl | rfl
    · exact .inr ⟨_, cC⟩
    · exact .inl (by rw [isDict_cls p1]; simp)
    · exact .inr ⟨_, p2⟩
  · rintro i ⟨ob, oh⟩ v h3 t3 I oI hv ⟨p1, ⟨vh, p2⟩⟩ S3 hoff hIc
    try dsimp only at p1 p2 S3 ⊢
    obtain ⟨n, tn, rfl, hn⟩ := sa.item i v hv
    have hnm := List.mem_of_getElem? hn
    have hsz := names_size n hnm
    have z1 : (Str.ofString "/").length = 1 := rfl
    have qT : Td ≠ I := hoff (Td, ob) (.tail _ (.head _))
    have q3I : L + 3 ≠ I := hoff (L + 3, oC') (.head _)
    have q4I : L + 4 ≠ I := hoff (L + 4, oh) (.tail _ (.tail _ (.head _)))
    repeat walk_at "v"
    refine wpAny_Subscript_str_slice ?_ (fun _ _ => rfl)
    repeat walk_at "v"
    refine r_stradd (by (first | walk_at "om" | omega)) (fun t4 tk4 => ?_)
    repeat walk_at "v"
    refine r_strfind (fun tf tkf => ?_)
    refine r_sliced (g := g) (L := L) none (some (Txt.find (n ++ Str.ofString "/") (Str.ofString "/"), _)) S3 rfl rfl (by (first | walk_at "om" | omega)) (fun h5 t5 tk5 S5 => ?_)
    repeat walk_at "v"
    have hl1 := Txt.slice_le n none (some (Txt.find (n ++ Str.ofString "/") (Str.ofString "/")))
    refine r_strlower (by dsimp only [Option.map]; (first | walk_at "om" | omega)) (fun t6 tk6 => ?_)
    have ehead : Txt.lower (Txt.slice n ((none : Option (Int × Tok)).map (·.1)) ((some (Txt.find (n ++ Str.ofString "/") (Str.ofString "/"), tf)).map (·.1))) = headL n := rfl
    refine r_cellstore (c := L + 4) (oc := oh) (led := [(L + 3, oC'), (Td, ob), (I, oI)]) (S5.sub _ (by walk_at "sub")) (by walk_at "nn") p2 (fun h7 oh' cH S7 => ?_) rfl rfl rfl
    replace cH : oh'.data = .cell (some (.str (headL n) t6)) := cH
    try dsimp only
    repeat walk_at "v"
    refine' r_compL C.hh S7 gL (S7.keep _ _ gRd) (.inl ⟨_, gRd⟩) (by simp; (first | walk_at "om" | omega)) (fun i us nl => nl = [] ∧ us = (qs.take i).map fun q => Value.bool (takesGo (headL n) (Run.says q.rs) 0)) ⟨rfl, rfl⟩ ?_ ?_ ?hcell ?hkind ?hx
    walk_at "cs"
    · rintro Dl K i' us nl v h8 t8 n8 own hv' ⟨rfl, rfl⟩ hnl2 hlD gK S8
      rw [List.getElem?_map] at hv'
      obtain ⟨q, hq, rfl⟩ := Option.map_eq_some_iff.mp hv'
      have hqm := List.mem_of_getElem? hq
      have hin : ∀ p ∈ q.led, g.get? p.1 = some p.2 := fun p hp => gqs p (List.mem_flatMap.mpr ⟨q, hqm, hp⟩)
      have hsz2 : ∀ r ∈ q.rs, r.sg.length ≤ 2000 := fun r hr => by
        have h1 : Run.says q.rs ∈ ks.map (fun y => runsOf (pt y)) := hsay ▸ List.mem_map_of_mem (f := fun q : RL => Run.says q.rs) hqm
        obtain ⟨y, hy, e⟩ := List.mem_map.mp h1
        have h2 : (r.kd, r.sg) ∈ runsOf (pt y) := by rw [e]; exact List.mem_map_of_mem hr
        have := (low_size y (hlow y hy)).2 _ h2
        dsimp only at this
        (first | walk_at "om" | omega)
      have hhs := head_size n hnm
      repeat walk_at "v"
      refine r_call C S8 (takes_fn (S8.keep _ _ (hin _ (.head _))) (fun p hp => S8.keep _ _ (hin p (.tail _ hp))) hsz2 (by (first | walk_at "om" | omega))) (by (first | walk_at "om" | omega)) (by simp) (fun v h9 tk9 K9 hp9 => ?_)
      subst hp9
      have S9 := S8.call0 K9
      walk_at "z"; refine CY.intro [] (S9.cy [] (fun p hp => .inl hp)) ⟨rfl, ?_⟩ (by simp)
      rw [List.take_add_one, hq]; simp
    · rintro Dl us nl n8 t8 ⟨rfl, rfl⟩ hnl2 hlD hLD gD
      refine CDone.val (fun h8 S8 => ?_)
      rw [List.length_map, List.take_length] at S8
      refine in_listAt (s := ⟨h8, G, D, t8, o⟩) valB (isList_of (S8.mem (.head _))) (fun y hy => ?_) ?_
      · have hy' : y ∈ qs.map fun q => Value.bool (takesGo (headL n) (Run.says q.rs) 0) := by simpa using hy
        obtain ⟨q, hq, rfl⟩ := List.mem_map.mp hy'
        have := EqAt.bool_bool (A := A.in1) (s := ⟨h8, G, D, t8, o⟩) (takesGo (headL n) (Run.says q.rs) 0) true
        simpa [valB] using this
      · have e1 : ((qs.map fun q => Value.bool (takesGo (headL n) (Run.says q.rs) 0)).toArray.any valB) = told ks n := by
          rw [← told_eq hsay hlow hnm, ← Array.any_toList]
          show (qs.map _).any valB = _
          rw [List.any_map]; rfl
        rw [e1]
        repeat walk_at "v"
        have hab : ∀ p ∈ (names40.take i).map fun n => (n, Value.bool (told ks n)), p.1 ≠ n := fun p hp e => by
          obtain ⟨m, hm, rfl⟩ := List.mem_map.mp hp
          have hnd := names_nodup
          obtain ⟨j, hj, e2⟩ := List.getElem_of_mem hm
          rw [List.length_take] at hj
          rw [List.getElem_take] at e2
          have hi := (List.getElem?_eq_some_iff.mp hn)
          have e3 : names40[j] = names40[i]'hi.1 := by rw [e2, hi.2]; exact e
          have := (List.getElem_inj hnd).mp e3
          (first | walk_at "om" | omega)
        have hlen40 : ((names40.take i).map fun n => (n, Value.bool (told ks n))).length ≤ 1000 := by rw [List.length_map, List.length_take]; have := names_len; (first | walk_at "om" | omega)
        refine r_setdict (d := Td) (ob := ob) (led := [(L + 4, oh'), (L + 3, oC'), (I, oI)]) (S8.sub _ (by walk_at "sub")) (by walk_at "nn") p1 hlen40 (fun h9 ob' tk9 hd9 S9 => ?_)
        rw [stored_absent (valueAt_none hab)] at hd9
        try dsimp only
        repeat walk_at "v"
        walk_at "x"; refine ForEnd.intro (ob', oh') (St.fit _ _ S9 (by walk_at "kn") (by walk_at "sub")) ⟨?_, ⟨_, cH⟩⟩
        rw [List.take_add_one, hn, List.map_append]
        exact hd9
  · rintro ⟨ob, oh⟩ h3 t3 ⟨p1, ⟨vh, p2⟩⟩ S3
    try dsimp only at p1 p2 S3 ⊢
    have K := S3.kb gk
    rw [hnl, List.take_length] at p1
    have c3 : h3.IsCell (L + 3) (some (.ref Td)) := ⟨oC', S3.mem (.head _), cC⟩
    walk_at "x"; refine next h3 t3 Td ob (F.next K (St.re S3 (kn' := [(Str.ofString "layer", .ref Ly), (Str.ofString "names", .ref Nm), (Str.ofString "due", .ref T)]) (kn_sub (by walk_at "kn"))).ns (fun d hd => ?_) (fun i h1 h4 hm => ?_)) K c3 (S3.mem (.tail _ (.head _))) hTd p1
    · simp only [List.mem_cons, List.not_mem_nil, or_false] at hd
      rcases hd with rfl | rfl
      · exact F.n0 3 (by (first | walk_at "om" | omega))
      · exact F.n0 4 (by (first | walk_at "om" | omega))
    · simp only [List.mem_cons, List.not_mem_nil, or_false] at hm
      rcases hm with e | e
      · rw [e]; exact ⟨_, c3⟩
      · rw [e]; exact ⟨_, oh, S3.mem (.tail _ (.tail _ (.head _))), p2⟩
end
section
set_option maxRecDepth 100000
set_option maxHeartbeats 0
noncomputable def nmAt (i : Nat) : Str := names40.getD i (Str.ofString "")
noncomputable def szAt (i : Nat) : Nat := if i = 0 then 0 else if i < 4 then 1 else if i < 13 then 2 else 3
noncomputable def ltN (a b : Nat) : Bool := decide (a < b)
noncomputable def push1 (w : List Nat) (x : Nat) : List Nat := sdown ltN 0 (w ++ [x]) w.length
noncomputable def sstep (f : Nat → Bool) (st : List Nat × List Nat) : List Nat × List Nat := match st.1.getLast? with
  | none => st
  | some last =>
    let r := hpop ltN st.1.dropLast last
    if f r.1 then (r.2, st.2 ++ [r.1]) else if r.1 < 13 then (push1 (push1 (push1 r.2 (3 * r.1 + 3)) (3 * r.1 + 2)) (3 * r.1 + 1), st.2) else (r.2, st.2)
noncomputable def siter (f : Nat → Bool) : Nat → List Nat × List Nat
  | 0 => ([0], [])
  | n + 1 => sstep f (siter f n)
theorem siter_stop {f : Nat → Bool} {n : Nat} (h : (siter f n).1 = []) : ∀ m, siter f (n + m) = siter f n
  | 0 => rfl
  | m + 1 => by
    show sstep f (siter f (n + m)) = _
    rw [siter_stop h m]
    unfold sstep
    rw [h]; rfl
theorem nm_len : ∀ i, i < 40 → (nmAt i).length = szAt i := by decide +kernel
theorem nm_idx : ∀ i, i < 40 → names40.idxOf (nmAt i) = i := by decide +kernel
theorem nm_kids : ∀ i, i < 13 → nmAt i ++ Str.ofString "a" = nmAt (3 * i + 3) ∧ nmAt i ++ Str.ofString "B" = nmAt (3 * i + 2) ∧ nmAt i ++ Str.ofString "/" = nmAt (3 * i + 1) ∧ szAt (3 * i + 3) = szAt i + 1 ∧ szAt (3 * i + 2) = szAt i + 1 ∧ szAt (3 * i + 1) = szAt i + 1 := by decide +kernel
theorem nm_lt : ∀ i, i < 40 → ∀ j, j < 40 → (if ((szAt i : Int) == (szAt j : Int)) then (if (nmAt i == nmAt j) then false else decide ((nmAt i).cps.toList < (nmAt j).cps.toList)) else decide ((szAt i : Int) < (szAt j : Int))) = decide (i < j) := by decide +kernel
theorem sz_lt : ∀ i, i < 40 → (szAt i < 3 ↔ i < 13) := by decide +kernel
/-- which of the six agents a name's head bears, as bits -/
noncomputable def masksL : List Nat := [16, 16, 18, 17, 16, 16, 16, 18, 18, 27, 17, 23, 17, 16, 16, 16, 16, 16, 16, 16, 16, 16, 18, 18, 18, 18, 18, 27, 27, 31, 27, 17, 17, 17, 23, 23, 31, 17, 23, 17]
theorem mk_ok : ∀ i, i < 40 → masksL.getD i 0 < 64 ∧ Txt.contains (headL (nmAt i)) (Str.ofString "a") = (masksL.getD i 0).testBit 0 ∧ Txt.contains (headL (nmAt i)) (Str.ofString "b") = (masksL.getD i 0).testBit 1 ∧ Txt.contains (headL (nmAt i)) (Str.ofString "ab") = (masksL.getD i 0).testBit 2 ∧
    Txt.contains (headL (nmAt i)) (Str.ofString "ba") = (masksL.getD i 0).testBit 3 ∧ Txt.contains (headL (nmAt i)) (Str.ofString "") = (masksL.getD i 0).testBit 4 ∧ Txt.contains (headL (nmAt i)) (Str.ofString "a/") = (masksL.getD i 0).testBit 5 := by decide +kernel
noncomputable def fM (b i : Nat) : Bool := (masksL.getD i 0 &&& b) != 0
noncomputable def expS (f : Nat → Bool) : List Nat := (List.range 40).filter fun i => f i && (i == 0 || !f ((i - 1) / 3))
/-- only the lower four bits and the fifth tell two tables apart -/
noncomputable def redB (b : Nat) : Nat := if b.testBit 4 then 16 else b % 16
theorem red_ok : ∀ b, b < 64 → redB b < 17 ∧ ∀ i, i < 40 → fM b i = fM (redB b) i := by decide +kernel
theorem fM_red {b : Nat} (h : b < 64) : fM b = fM (redB b) := by
  funext i
  by_cases hi : i < 40
  · exact (red_ok b h).2 i hi
  · have e : masksL.getD i 0 = 0 := by
      rw [List.getD_eq_getElem?_getD, List.getElem?_eq_none (by have : masksL.length = 40 := rfl; (first | walk_at "om" | lia | omega))]
      rfl
    unfold fM
    rw [e, Nat.zero_and, Nat.zero_and]
theorem search_17 : ∀ b, b < 17 → (siter (fM b) 40).1 = [] ∧ (siter (fM b) 40).2 = expS (fM b) ∧ ((expS (fM b)).map fun i => 3 ^ (3 - szAt i)).sum = ((List.range' 13 27).filter (fM b)).length := by decide +kernel
theorem search_all : ∀ b, b < 64 → (siter (fM b) 40).1 = [] ∧ (siter (fM b) 40).2 = expS (fM b) ∧ ((expS (fM b)).map fun i => 3 ^ (3 - szAt i)).sum = ((List.range' 13 27).filter (fM b)).length := fun b h => by
  rw [fM_red h]
  exact search_17 _ (red_ok b h).1
noncomputable def bitsOf (a b c d e f : Bool) : Nat := a.toNat + 2 * b.toNat + 4 * c.toNat + 8 * d.toNat + 16 * e.toNat + 32 * f.toNat
theorem bits_ok : ∀ a b c d e f, bitsOf a b c d e f < 64 ∧ ∀ m, m < 64 → ((a && m.testBit 0) || ((b && m.testBit 1) || ((c && m.testBit 2) || ((d && m.testBit 3) || ((e && m.testBit 4) || (f && m.testBit 5)))))) = ((m &&& bitsOf a b c d e f) != 0) := by decide +kernel
end
section
set_option maxRecDepth 100000
set_option maxHeartbeats 0
theorem mem_known {k : Str} : ∀ (ys ks : List Str), k ∈ ys.foldl knownStep ks ↔ k ∈ ks ∨ ∃ y ∈ ys, (y != star) = true ∧ k = Txt.lower y
  | [], ks => by simp
  | y :: r, ks => by
    show k ∈ r.foldl knownStep (knownStep ks y) ↔ _
    rw [mem_known r (knownStep ks y)]
    have h : k ∈ knownStep ks y ↔ k ∈ ks ∨ ((y != star) = true ∧ k = Txt.lower y) := by
      unfold knownStep
      by_cases h1 : (y != star) = true
      · by_cases h2 : ks.any (· == Txt.lower y) = true
        · rw [h1, h2]
          simp only [Bool.not_true, Bool.and_false, Bool.false_eq_true, if_false]
          refine ⟨.inl, fun h => h.elim id fun ⟨_, e⟩ => ?_⟩
          obtain ⟨z, hz, e2⟩ := List.any_eq_true.mp h2
          rw [e, ← eq_of_beq e2]; exact hz
        · have h2' : ks.any (· == Txt.lower y) = false := Bool.eq_false_iff.mpr h2
          rw [h1, h2']
          simp
      · have h1' : (y != star) = false := by simpa using h1
        rw [h1']
        simp
    rw [h]
    constructor
    · rintro ((h' | h') | ⟨z, hz, h'⟩)
      · exact .inl h'
      · exact .inr ⟨y, .head _, h'⟩
      · exact .inr ⟨z, .tail _ hz, h'⟩
    · rintro (h' | ⟨z, hz, h'⟩)
      · exact .inl (.inl h')
      · rcases List.mem_cons.mp hz with rfl | hz
        · exact .inl (.inr h')
        · exact .inr ⟨z, hz, h'⟩
theorem appl_told {ys : List Str} {n : Str} (hn : n ∈ names40) : appl ys n = told (knownOf ys) n := by
  unfold appl told
  rw [names_head n hn, Bool.eq_iff_iff, List.any_eq_true, List.any_eq_true]
  constructor
  · rintro ⟨y, hy, h⟩
    unfold meets1 at h
    rw [Bool.and_eq_true] at h
    exact ⟨Txt.lower y, (mem_known ys []).mpr (.inr ⟨y, hy, h.1, rfl⟩), h.2⟩
  · rintro ⟨k, hk, h⟩
    rcases (mem_known ys []).mp hk with hk | ⟨y, hy, h1, rfl⟩
    · cases hk
    · refine ⟨y, hy, ?_⟩
      unfold meets1
      rw [Bool.and_eq_true]; exact ⟨h1, h⟩
theorem told_bits {ks : List Str} (hlow : ∀ k ∈ ks, k ∈ lows6) : ∃ b, b < 64 ∧ ∀ i, i < 40 → told ks (nmAt i) = fM b i := by
  have hb := bits_ok (ks.contains (Str.ofString "a")) (ks.contains (Str.ofString "b")) (ks.contains (Str.ofString "ab")) (ks.contains (Str.ofString "ba")) (ks.contains (Str.ofString "")) (ks.contains (Str.ofString "a/"))
  refine ⟨_, hb.1, fun i hi => ?_⟩
  obtain ⟨m0, m1, m2, m3, m4, m5, m6⟩ := mk_ok i hi
  unfold fM
  rw [← hb.2 _ m0, ← m1, ← m2, ← m3, ← m4, ← m5, ← m6]
  have e : told ks (nmAt i) = lows6.any fun l => ks.contains l && Txt.contains (headL (nmAt i)) l := by
    unfold told
    rw [Bool.eq_iff_iff, List.any_eq_true, List.any_eq_true]
    constructor
    · rintro ⟨k, hk, h⟩
      exact ⟨k, hlow k hk, by rw [Bool.and_eq_true]; exact ⟨by simpa using hk, h⟩⟩
    · rintro ⟨l, _, h⟩
      rw [Bool.and_eq_true] at h
      exact ⟨l, by simpa using h.1, h.2⟩
  rw [e]
  simp [lows6]
-- a way of the search, as made
set_option genInjectivity false in
set_option genSizeOf false in
structure WT where
  t : Addr
  u1 : Tok
  u2 : Tok
  i : Nat
noncomputable def WT.obj (p : WT) : Addr × Obj := (p.t, tu [.int (szAt p.i : Nat) p.u1, .str (nmAt p.i) p.u2])
noncomputable def codeS (h : Heap) : Value → Nat
  | .ref a => match h.get? a with
    | some o => match o.data with
      | .seq xs _ => match xs.toList with
        | [.int _ _, .str x _] => names40.idxOf x
        | _ => 0
      | _ => 0
    | none => 0
  | _ => 0
theorem codeS_at {h : Heap} {p : WT} (e : h.get? p.t = some p.obj.2) (hi : p.i < 40) : codeS h (.ref p.t) = p.i := by
  unfold codeS
  try dsimp only
  rw [e]
  simp [WT.obj, tu, nm_idx p.i hi]
theorem cmp_ways {w : World} {h : Heap} {W : Addr} {pts : List WT} (ho : ∀ p ∈ pts, h.get? p.t = some p.obj.2 ∧ p.t ≠ W ∧ p.i < 40) : CmpOk w h [W] (ltC (codeS h)) (pts.map fun p => .ref p.t) := by
  intro u hu v hv prog A hp G D tk o Q E hA hk hQ
  obtain ⟨p, hp1, rfl⟩ := List.mem_map.mp hu
  obtain ⟨q, hq1, rfl⟩ := List.mem_map.mp hv
  have hp2 := ho p hp1
  have hq2 := ho q hq1
  have e1 := codeS_at hp2.1 hp2.2.2
  have e2 := codeS_at hq2.1 hq2.2.2
  have e : ltC (codeS h) (.ref p.t) (.ref q.t) = decide (p.i < q.i) := by simp only [ltC, e1, e2]
  rw [e, ← nm_lt p.i hp2.2.2 q.i hq2.2.2] at hQ
  exact r_lt2 (p1 := .int (szAt p.i : Nat) p.u1) (p2 := .str (nmAt p.i) p.u2) (q1 := .int (szAt q.i : Nat) q.u1) (q2 := .str (nmAt q.i) q.u2) hA (hk _ _ hp2.1 (by simpa using hp2.2.1)) (hk _ _ hq2.1 (by simpa using hq2.2.1)) (EqAt.int_int _ _ _ _) (EqAt.str_str _ _ _ _) (LtAt.int _ _ _ _ _ _) (LtAt.str _ _ _ _ _ _) (hQ _)
theorem ltS_eq {h : Heap} {pts : List WT} (ho : ∀ p ∈ pts, h.get? p.t = some p.obj.2 ∧ p.i < 40) : ∀ x y : WT, x ∈ pts → y ∈ pts → ltC (fun p : WT => codeS h (.ref p.t)) x y = ltC WT.i x y := fun x y hx hy => by
  have e1 := codeS_at (ho x hx).1 (ho x hx).2
  have e2 := codeS_at (ho y hy).1 (ho y hy).2
  simp only [ltC, e1, e2]
theorem sdown_ways {h : Heap} {pts : List WT} (ho : ∀ p ∈ pts, h.get? p.t = some p.obj.2 ∧ p.i < 40) (sp pos : Nat) : sdown (ltC (codeS h)) sp (pts.map fun p => Value.ref p.t) pos = (sdown (ltC WT.i) sp pts pos).map fun p => .ref p.t := by
  rw [← sdown_map (lt := ltC fun p : WT => codeS h (.ref p.t)) (fun p : WT => Value.ref p.t) (fun _ _ => rfl), sdown_ext (S := fun p => p ∈ pts) (ltS_eq ho) pts pos fun _ h => h]
theorem hpop_ways {h : Heap} {us : List WT} {last : WT} (ho : ∀ p ∈ us ++ [last], h.get? p.t = some p.obj.2 ∧ p.i < 40) : hpop (ltC (codeS h)) (us.map fun p => Value.ref p.t) (.ref last.t) = (.ref (hpop (ltC WT.i) us last).1.t, (hpop (ltC WT.i) us last).2.map fun p => .ref p.t) := by
  rw [hpop_map (lt := ltC fun p : WT => codeS h (.ref p.t)) (fun p : WT => Value.ref p.t) (fun _ _ => rfl), hpop_ext (S := fun p => p ∈ us ++ [last]) (ltS_eq ho) us last (fun v hv => List.mem_append_left _ hv) (by simp)]
theorem hpop_mem {α : Type} {lt : α → α → Bool} (us : List α) (last : α) : (hpop lt us last).1 ∈ us ++ [last] ∧ (∀ y ∈ (hpop lt us last).2, y ∈ us ++ [last]) ∧ (hpop lt us last).2.length = us.length := by
  unfold hpop
  cases us with
  | nil => simp
  | cons x r =>
    refine ⟨by simp, fun y hy => ?_, by simp [sup_len]⟩
    rcases List.mem_or_eq_of_mem_set (sup_mem ((x :: r).set 0 last) 0 y hy) with h | h
    · exact List.mem_append_left _ h
    · rw [h]; simp
section
variable {prog : Program} {w : World} {M : Model} {A : Around} {E : Value → Shared → Prop} {hp g : Heap} {G : Array GenState} {D : Drawn} {tk : Nat} {o : OsState} {L : Addr} {kn : Kns} {led : Led} {k : Nat}
theorem r_popS {W : Addr} {pts : List WT} {n : Nat} {Q : Value → Shared → Prop} (C : Cx w A g (k + 3)) (S : St g L hp kn ((W, lo (pts.map fun p => .ref p.t) n) :: led)) (hne : ∀ p ∈ led, p.1 ≠ W) (h0 : pts ≠ []) (hz : pts.length ≤ 1000)
    (ho : ∀ p ∈ pts, hp.get? p.t = some p.obj.2 ∧ p.t ≠ W ∧ p.i < 40)
    (h : ∀ (us : List WT) (last : WT) h' tk', pts = us ++ [last] → St g L h' kn ((W, lo ((hpop (ltC WT.i) us last).2.map fun p => .ref p.t) (n + 1)) :: led) → Q (.ref (hpop (ltC WT.i) us last).1.t) ⟨h', G, D, tk', o⟩) :
    wpAny (model prog w) A (call (.ref 139) [.ref W]) Q E ⟨hp, G, D, tk, o⟩ := by
  have hs24 : sizeLine = 16777216 := rfl
  obtain ⟨us, last, rfl⟩ : ∃ us last, pts = us ++ [last] := ⟨pts.dropLast, pts.getLast h0, (List.dropLast_concat_getLast h0).symm⟩
  have e : (us ++ [last]).map (fun p => Value.ref p.t) = us.map (fun p => .ref p.t) ++ [.ref last.t] := by simp
  rw [e] at S
  have hc := cmp_ways (w := w) ho
  rw [e] at hc
  refine r_call C S (heappop_fn (S.mem (.head _)) (by simp at hz ⊢; (first | walk_at "om" | omega)) hc) (by (first | walk_at "om" | omega)) (fun d hd => by rw [List.mem_singleton.mp hd]; exact (S.nw _ (.head _)).2.1) (fun v h' tk' K hp' => ?_)
  rw [hpop_ways (fun p hp => ⟨(ho p hp).1, (ho p hp).2.2⟩)] at hp'
  obtain ⟨rfl, hw⟩ := hp'
  exact h us last h' tk' rfl (S.call1 K hw hne)
theorem r_pushS {W : Addr} {pts : List WT} {pN : WT} {n : Nat} {Q : Value → Shared → Prop} (C : Cx w A g (k + 3)) (S : St g L hp kn ((W, lo (pts.map fun p => .ref p.t) n) :: led)) (hne : ∀ p ∈ led, p.1 ≠ W) (hz : pts.length ≤ 1000)
    (ho : ∀ p ∈ pts ++ [pN], hp.get? p.t = some p.obj.2 ∧ p.t ≠ W ∧ p.i < 40)
    (h : ∀ h' tk', St g L h' kn ((W, lo ((sdown (ltC WT.i) 0 (pts ++ [pN]) pts.length).map fun p => .ref p.t) (n + 1)) :: led) → Q .none ⟨h', G, D, tk', o⟩) :
    wpAny (model prog w) A (call (.ref 132) [.ref W, .ref pN.t]) Q E ⟨hp, G, D, tk, o⟩ := by
  have hs24 : sizeLine = 16777216 := rfl
  have e : (pts ++ [pN]).map (fun p => Value.ref p.t) = pts.map (fun p => .ref p.t) ++ [.ref pN.t] := by simp
  have hc := cmp_ways (w := w) ho
  rw [e] at hc
  refine r_call C S (heappush_fn (S.mem (.head _)) (by simp; (first | walk_at "om" | omega)) hc) (by (first | walk_at "om" | omega)) (fun d hd => by rw [List.mem_singleton.mp hd]; exact (S.nw _ (.head _)).2.1) (fun v h' tk' K hp' => ?_)
  obtain ⟨rfl, hw⟩ := hp'
  rw [← e, List.length_map, sdown_ways (fun p hp => ⟨(ho p hp).1, (ho p hp).2.2⟩)] at hw
  exact h h' tk' (S.call1 K hw hne)
end
end
section
set_option maxRecDepth 100000
set_option maxHeartbeats 0
section
variable {prog : Program} {w : World} {A : Around} {hp g : Heap} {G : Array GenState} {D : Drawn} {tk : Nat} {o : OsState} {L : Addr} {kn : Kns} {led : Led} {env : Env}
theorem r_forStr {σ : Type} {xt : Str} {px : Pos} {body : List Stmt} {Q : Flow → Shared → Prop} {x : Str} {t : Tok} (hh : A.handled = none) (S : St g L hp kn led) (hgL : g.get? L = none) (ha : x.cps.all (· < 128) = true) (kns : Nat → σ → Kns) (leds : Nat → σ → Led) (PP : Nat → σ → Prop) (c₀ : σ)
    (S0 : KnAll kn (kns 0 c₀)) (hled : leds 0 c₀ = led) (h0 : PP 0 c₀) (hoff : ∀ i c, PP i c → ∀ p ∈ leds i c, p.2.cls ≠ .type "str_ascii_iterator" ∨ ∃ v, p.2.data = .cell v)
    (turn : ∀ i c ch u h t I oI, x.cps[i]? = some ch → PP i c → St g L h ((xt, .str ⟨#[ch]⟩ u) :: kns i c) (leds i c ++ [(I, oI)]) → (∀ p ∈ leds i c, p.1 ≠ I) → oI.cls = .type "str_ascii_iterator" →
      GenP (ForPost G D o g L kns leds PP [(I, oI)] Q i) fun T => wpAny (model prog w) A (execs body env) T NoE ⟨h, G, D, t, o⟩)
    (done : ∀ c h t, PP x.cps.size c → St g L h (kns x.cps.size c) (leds x.cps.size c) → Q .next ⟨h, G, D, t, o⟩) (hL : env.locals = L) (hk : env.scope.kind = .function) (hx : env.kindOf xt = some .local) :
    wpAny (model prog w) A (pyIter (.str x t)) (fun it s₂ => codeAny (model prog w) A (.forLoop (.Name xt px) it body [] env) (fun r s' => match r with | .ok f => Q f s' | .error e => cameBackBy (model prog w) A env NoE e s') s₂) NoE ⟨hp, G, D, tk, o⟩ := by
  refine wpAny_pyIter_ascii ha ?_
  have up : ∀ b ob, hp.get? b = some ob → (hp.push { cls := .type "str_ascii_iterator", data := .fields #[.str x t, .int 0 0] }).get? b = some ob := fun b ob e => Heap.get?_push_of_some _ e
  have W := Walks.strAscii (prog := prog) (w := w) hh hp.objs.size x t
  refine r_forD (g := g) (L := L) W (.type "str_ascii_iterator") (fun i h st => by obtain ⟨oo, a, b, c⟩ := st; exact ⟨oo, a, b, fun v e => by rw [c] at e; cases e⟩) (fun b hb => by simpa using hb) kns leds PP c₀ ((S.keeps up).is S0 hled) (S.none_of_le (Nat.le_refl _)) (Nat.ne_of_gt S.ltL) h0
    ⟨_, Heap.get?_push_size _ rfl, rfl, rfl⟩ (fun b hb => .inl (by simpa using hb)) hoff (fun i c v h t' oI hi hv hP S' off hcl => ?_) done
  obtain ⟨ch, u, hch, rfl⟩ := hv
  exact r_forName S' hgL (fun h' tk' S'' => (turn i c ch u h' tk' _ oI hch hP S'' off hcl).use) hL hk hx
end
theorem r_pairT {prog : Program} {w : World} {A : Around} {E : Value → Shared → Prop} {hp g : Heap} {G : Array GenState} {D : Drawn} {tk : Nat} {o : OsState} {L : Addr} {kn : Kns} {led : Led} {env : Env} {x1 x2 : Str} {p1 p2 tpos : Pos} {kk : Nat} {t : Addr} {v1 v2 : Value} {Q : Unit → Shared → Prop} (S : St g L hp kn led) (hg : g.get? L = none) (hh : A.handled = none) (ht : hp.get? t = some (tu [v1, v2]))
    (h : ∀ h' tk', St g L h' ((x2, v2) :: (x1, v1) :: kn) led → Q () ⟨h', G, D, tk', o⟩) (hL : env.locals = L) (hk : env.scope.kind = .function) (hx1 : env.kindOf x1 = some .local) (hx2 : env.kindOf x2 = some .local) :
    wpAny (model prog w) A (assign (.Tuple [.Name x1 p1, .Name x2 p2] kk tpos) env (.ref t)) Q E ⟨hp, G, D, tk, o⟩ := by
  rw [assign_Tuple]
  refine wpAny_bind (wpAny_standAt ?_)
  unfold unpack
  refine wpAny_bind (wpAny_holding ?_)
  refine r_unpackItems S ht hh rfl (fun h' S' => ?_)
  refine assignInOrder_cons (PyProof.Rows.assign_Name (r_store S' hg (fun h2 tk2 S2 => ?_) hL hk hx1))
  refine assignInOrder_cons (PyProof.Rows.assign_Name (r_store S2 hg (fun h3 tk3 S3 => ?_) hL hk hx2))
  exact assignInOrder_nil (h _ _ S3)
set_option genInjectivity false in
set_option genSizeOf false in
structure HS where
  wts : List WT
  all : List WT
  sv : List Value
  nW : Nat
  nS : Nat
  j : Nat
structure HS.ok (f : Nat → Bool) (W Sp : Addr) (c : HS) : Prop where
  cs : ∃ ss, siter f c.j = (c.wts.map WT.i, ss) ∧ StrsAre c.sv (ss.map nmAt)
  sub : ∀ p ∈ c.wts, p ∈ c.all
  lt : ∀ p ∈ c.wts, p.i < 40
  wl : c.wts.length ≤ 1 + 3 * c.j
  sl : c.sv.length ≤ c.j
  j40 : c.j ≤ 40
  off : ∀ p ∈ c.all.map WT.obj, p.1 ≠ W ∧ p.1 ≠ Sp
-- the places of a push
set_option genInjectivity false in
set_option genSizeOf false in
structure IS where
  wts : List WT
  all : List WT
  nW : Nat
noncomputable def kid (i : Nat) : Nat → Nat
  | 0 => 3 * i + 3
  | 1 => 3 * i + 2
  | _ => 3 * i + 1
noncomputable def pushes (w : List Nat) (i : Nat) : Nat → List Nat
  | 0 => w
  | n + 1 => push1 (pushes w i n) (kid i n)
theorem kid_at (i : Nat) (hi : i < 13) : ∀ n ch, (Str.ofString "aB/").cps[n]? = some ch → nmAt i ++ ⟨#[ch]⟩ = nmAt (kid i n) ∧ szAt (kid i n) = szAt i + 1 ∧ kid i n < 40 ∧ n < 3 := by
  intro j ch h
  have hj : j < (Str.ofString "aB/").cps.size := (Array.getElem?_eq_some_iff.mp h).1
  have hj3 : j < 3 := hj
  obtain ⟨z1, z2, z3, y1, y2, y3⟩ := nm_kids i hi
  have h3 : j = 0 ∨ j = 1 ∨ j = 2 := by (first | walk_at "om" | lia | omega)
  rcases h3 with rfl | rfl | rfl
  · have : ch = 97 := (Option.some.inj (h.symm.trans (show (Str.ofString "aB/").cps[0]? = some 97 from rfl)))
    subst this; exact ⟨z1, y1, by show 3 * i + 3 < 40; (first | walk_at "om" | lia | omega), hj3⟩
  · have : ch = 66 := (Option.some.inj (h.symm.trans (show (Str.ofString "aB/").cps[1]? = some 66 from rfl)))
    subst this; exact ⟨z2, y2, by show 3 * i + 2 < 40; (first | walk_at "om" | lia | omega), hj3⟩
  · have : ch = 47 := (Option.some.inj (h.symm.trans (show (Str.ofString "aB/").cps[2]? = some 47 from rfl)))
    subst this; exact ⟨z3, y3, by show 3 * i + 1 < 40; (first | walk_at "om" | lia | omega), hj3⟩
theorem push1_map (pts : List WT) (pN : WT) : (sdown (ltC WT.i) 0 (pts ++ [pN]) pts.length).map WT.i = push1 (pts.map WT.i) pN.i := by
  unfold push1
  rw [sdown_map (lt := ltC WT.i) (lt' := ltN) WT.i (fun _ _ => rfl), List.map_append, List.length_map]; rfl
theorem hpop_mapI (us : List WT) (last : WT) : hpop ltN (us.map WT.i) last.i = ((hpop (ltC WT.i) us last).1.i, (hpop (ltC WT.i) us last).2.map WT.i) := hpop_map (lt := ltC WT.i) WT.i (fun _ _ => rfl) us last
end
section
set_option maxRecDepth 100000
set_option maxHeartbeats 0
theorem seg2123 (w : World) : LawAt w fun body scope qual => ∀ s0 s1 s2, body[21]? = some s0 → body[22]? = some s1 → body[23]? = some s2 → ∀ {prog A g0 hp G D tk o L fa cd k T Ly Nm} {e : RS} {rest : List Stmt} {Q : Flow → Shared → Prop},
    Fz w A (k + 8) g0 L hp [(Str.ofString "layer", .ref Ly), (Str.ofString "names", .ref Nm), (Str.ofString "due", .ref T)] → hp.IsCell (L + 2) (some (.ref e.x)) → (∀ p ∈ e.led w, hp.get? p.1 = some p.2 ∧ p.1 ≠ L) → StrsAre e.vs e.ys → InMenu e.ys → (siter (fun i => appl e.ys (nmAt i)) 40).1 = [] →
    (∀ (hp' : Heap) (tk' : Nat) (Sp : Addr) (sv : List Value) (nS : Nat), Fz w A (k + 8) g0 L hp' [(Str.ofString "stops", .ref Sp), (Str.ofString "layer", .ref Ly), (Str.ofString "names", .ref Nm), (Str.ofString "due", .ref T)] → KB [L] hp hp' → hp'.get? Sp = some (lo sv nS) → StrsAre sv ((siter (fun i => appl e.ys (nmAt i)) 40).2.map nmAt) → sv.length ≤ 40 → wpAny (model prog w) A (execs rest (envOfC qual scope L fa cd)) Q NoE ⟨hp', G, D, tk', o⟩) →
    wpAny (model prog w) A (execs (s0 :: s1 :: s2 :: rest) (envOfC qual scope L fa cd)) Q NoE ⟨hp, G, D, tk, o⟩ := by
  have hs24 : sizeLine = 16777216 := rfl
  refine' LawAt.intro ?ho ?_
  case ho => k_is
  intro s0 s1 s2 i0 i1 i2
  cases i0; cases i1; cases i2
  intro prog A g0 hp G D tk o L fa cd k T Ly Nm e rest Q F hcA he sa hmenu hfin next
  obtain ⟨g, C, gL, S, gk, gh, gn, gg⟩ := F.start [] [] (by simp) (by simp)
  have gka : ∀ b o, hp.get? b = some o → b ≠ L → g.get? b = some o := fun b o e n => gk b o e (by simpa using n)
  obtain ⟨oA, eA, cA⟩ := hcA
  have gA : g.get? (L + 2) = some oA := gka _ _ eA (Nat.ne_of_gt (Nat.lt_add_of_pos_right (by decide)))
  have gx := gka _ _ (he _ (.head _)).1 (he _ (.head _)).2
  have gd := gka _ _ (he _ (.tail _ (.head _))).1 (he _ (.tail _ (.head _))).2
  have gp := gka _ _ (he _ (.tail _ (.tail _ (.head _)))).1 (he _ (.tail _ (.tail _ (.head _)))).2
  dsimp only at gx gd gp
  have hza : ∀ a ∈ e.ys, a.length ≤ 1000 := fun a ha => by have := menu_size a (hmenu a ha); (first | walk_at "om" | lia | omega)
  repeat walk_at "v"
  refine r_newList S (by simp [hs24]) (fun Sp h1 S1 b1 b2 b3 => ?_)
  repeat walk_at "v"
  rename_i tz _ ty _
  refine r_newTuple (by assumption) (by simp [hs24]) (fun T0 h2 S2 c1 c2 c3 => ?_)
  repeat walk_at "v"
  refine r_newList S2 (by simp [hs24]) (fun W h3 S3 d1 d2 d3 => ?_)
  have hSW : Sp < W := d1 _ (.tail _ (.head _))
  have hTW : T0 < W := d1 _ (.head _)
  have hST : Sp < T0 := c1 _ (.head _)
  have hWS : W ≠ Sp := ne_gt hSW
  repeat walk_at "v"
  have eo : List.map WT.obj [⟨T0, tz, ty, 0⟩] = [(T0, tu [.int 0 tz, .str (Str.ofString "") ty])] := by
    have h0 : nmAt 0 = Str.ofString "" := by decide +kernel
    simp only [List.map_cons, List.map_nil]
    unfold WT.obj
    try dsimp only
    rw [h0]; rfl
  refine r_while (g := g) (L := L) (σ := HS) (fun c => [(Str.ofString "ways", .ref W), (Str.ofString "stops", .ref Sp), (Str.ofString "layer", .ref Ly), (Str.ofString "names", .ref Nm), (Str.ofString "due", .ref T)]) (fun c => (W, lo (c.wts.map fun p => .ref p.t) c.nW) :: (Sp, lo c.sv c.nS) :: c.all.map WT.obj)
    (HS.ok (fun i => appl e.ys (nmAt i)) W Sp) (fun c => 41 - c.j) ⟨[⟨T0, tz, ty, 0⟩], [⟨T0, tz, ty, 0⟩], [], 0, 0, 0⟩ (St.fit _ _ (by assumption) (by walk_at "kn") (by show ∀ p ∈ _ :: _ :: List.map WT.obj [⟨T0, tz, ty, 0⟩], _; rw [eo]; dsimp only [List.map_cons, List.map_nil]; walk_at "sub")) ⟨⟨[], rfl, .nil⟩, fun p hp => hp, fun p hp => by rw [List.mem_singleton.mp hp]; exact (by decide : (0 : Nat) < 40), by simp, by simp, by simp, fun p hp => by rw [List.mem_singleton.mp hp]; exact ⟨ne_lt hTW, ne_gt hST⟩⟩ ?_
  rintro ⟨wts, all, sv, nW, nS, j⟩ h6 t6 ⟨⟨ss, hss, hsv⟩, hsub, hlt, hwl, hsl, hj, hoff⟩ S6
  try dsimp only at hss hsv hsub hlt hwl hsl hj hoff S6 ⊢
  have hX1 : ∀ p ∈ all.map WT.obj, p.1 ≠ W := fun p hp => (hoff p hp).1
  have hX2 : ∀ p ∈ all.map WT.obj, p.1 ≠ Sp := fun p hp => (hoff p hp).2
  repeat walk_at "v"
  refine r_newList S6 (by simp [hs24]) (fun E0 h7 S7 b1' b2' b3' => ?_)
  have hcu : A.units < cLine := by have := C.hu; (first | walk_at "om" | lia | omega)
  by_cases hw : wts = []
  · subst hw
    refine RcNeAt.lists (e := fun _ => true) (isList_of (S7.mem (a := W) (by walk_at "mm"))) (isList_of (S7.mem (.head _))) rfl hcu (fun j h1 _ => by simp at h1) _ _ _ _ ?_
    repeat walk_at "v"
    with_reducible refine ifs (fun hb => by simp at hb) (fun _ => ?_)
    have e40 : siter (fun i => appl e.ys (nmAt i)) 40 = siter (fun i => appl e.ys (nmAt i)) j := by
      have := siter_stop (n := j) (by rw [hss]; rfl) (40 - j)
      rwa [show j + (40 - j) = 40 by (first | walk_at "om" | lia | omega)] at this
    repeat walk_at "v"
    have S8 := S7.sub [(Sp, lo sv nS)] (by walk_at "sub")
    have K := S8.kb gk
    walk_at "x"; refine next h7 _ Sp sv nS (F.next K (St.re S8 (kn' := [(Str.ofString "stops", .ref Sp), (Str.ofString "layer", .ref Ly), (Str.ofString "names", .ref Nm), (Str.ofString "due", .ref T)]) (kn_sub (by walk_at "kn"))).ns (by simp) (fun _ _ _ h => by simp at h)) K (S8.mem (.head _)) (by rw [e40, hss]; exact hsv) (by (first | walk_at "om" | lia | omega))
  · have hj40 : j < 40 := by
      rcases Nat.lt_or_ge j 40 with h | h
      · exact h
      · exfalso
        have : j = 40 := by (first | walk_at "om" | lia | omega)
        subst this
        rw [hss] at hfin
        exact hw (List.map_eq_nil_iff.mp hfin)
    have hlen0 : wts.length ≠ 0 := fun q => hw (List.length_eq_zero_iff.mp q)
    refine RcNeAt.lists_lengths (isList_of (S7.mem (a := W) (by walk_at "mm"))) (isList_of (S7.mem (.head _))) (by simp; exact hw) hcu _ _ _ _ ?_
    repeat walk_at "v"
    refine Assign_Tuple ?_
    repeat walk_at "v"
    have S7' := S7.sub ((W, lo (wts.map fun p => .ref p.t) nW) :: (Sp, lo sv nS) :: all.map WT.obj) (by walk_at "sub")
    have wAt : ∀ {h : Heap} {kn : Kns} {led : Led}, St g L h kn led → (∀ p ∈ all.map WT.obj, p ∈ led) → ∀ p ∈ wts, h.get? p.t = some p.obj.2 ∧ p.t ≠ W ∧ p.i < 40 := fun {h kn led} S hs p hp =>
      ⟨S.mem (hs _ (List.mem_map_of_mem (hsub p hp))), hX1 _ (List.mem_map_of_mem (hsub p hp)), hlt p hp⟩
    refine r_popS (k := k + 5) C S7' (by walk_at "nn") hw (by (first | walk_at "om" | lia | omega)) (wAt S7' (by walk_at "ss")) (fun us last h8 tk8 hwl' S8 => ?_)
    subst hwl'
    obtain ⟨hm1, hm2, hm3⟩ := hpop_mem (lt := ltC WT.i) us last
    have hmapI := hpop_mapI us last
    generalize hpop (ltC WT.i) us last = pr at hm1 hm2 hm3 hmapI S8
    obtain ⟨q, wr⟩ := pr
    try dsimp only at hm1 hm2 hm3 hmapI S8 ⊢
    have hq40 := hlt q hm1
    have hqn : nmAt q.i ∈ names40 := by
      have : q.i < names40.length := by rw [names_len]; exact hq40
      unfold nmAt
      simp only [List.getD, List.getElem?_eq_getElem this, Option.getD_some]
      exact List.getElem_mem _
    have hqz := names_size _ hqn
    have hstep : siter (fun i => appl e.ys (nmAt i)) (j + 1) = if appl e.ys (nmAt q.i) = true then (wr.map WT.i, ss ++ [q.i]) else if q.i < 13 then (pushes (wr.map WT.i) q.i 3, ss) else (wr.map WT.i, ss) := by
      show sstep _ (siter _ j) = _
      rw [hss]
      unfold sstep
      rw [List.map_append]
      simp only [List.map_cons, List.map_nil, List.getLast?_concat, List.dropLast_concat, hmapI]
      rfl
    refine r_pairT (v1 := .int (szAt q.i : Nat) q.u1) (v2 := .str (nmAt q.i) q.u2) S8 gL C.hh (wAt S8 (by walk_at "ss") q hm1).1 (fun h9 tk9 S9 => ?_) rfl rfl rfl rfl
    repeat walk_at "v"
    refine wpAny_If ?_
    repeat walk_at "v"
    refine r_method C S9 (S9.keep _ _ gx) (S9.keep _ _ gd) rfl (by k_is) (by k_is) (by k_is) ?_
    repeat walk_at "v"
    refine r_call C S9 (applies_fn (S9.keep _ _ gx) (S9.keep _ _ gd) rfl (S9.keep _ _ gp) sa (by (first | walk_at "om" | lia | omega)) hza) (by (first | walk_at "om" | lia | omega)) (by simp) (fun v h10 tk10 K10 hp10 => ?_)
    subst hp10
    have S10 := S9.call0 K10
    repeat walk_at "v"
    with_reducible refine ifs (fun hb => ?_) (fun hb => ?_)
    · rw [if_pos hb] at hstep
      repeat walk_at "v"
      refine r_lmeth (l := Sp) (vs := sv) (n := nS) PySem.F.slot_list_append PySem.F.type_list_append (S10.mem (by walk_at "mm")) ?_
      repeat walk_at "v"
      refine r_append (l := Sp) (vs := sv) (n := nS) (led := (W, lo (wr.map fun p => .ref p.t) (nW + 1)) :: all.map WT.obj) (S10.sub _ (by walk_at "sub")) (by walk_at "nn") (by (first | walk_at "om" | lia | omega)) (fun h11 S11 => ⟨rfl, ?_⟩)
      repeat walk_at "v"
      walk_at "x"; refine TurnEnd.intro (σ := HS) ⟨wr, all, sv ++ [.str (nmAt q.i) q.u2], nW + 1, nS + 1, j + 1⟩ (St.fit _ _ S11 (by walk_at "kn") (by walk_at "sub")) ⟨⟨ss ++ [q.i], hstep, ?_⟩, fun p hp => hsub p (hm2 p hp), fun p hp => hlt p (hm2 p hp), ?_, ?_, by dsimp only; (first | walk_at "om" | lia | omega), hoff⟩ (by dsimp only; (first | walk_at "om" | lia | omega))
      · rw [List.map_append]; exact hsv.append' (.cons _ _ .nil)
      · dsimp only; simp at hwl; (first | walk_at "om" | lia | omega)
      · simp; (first | walk_at "om" | lia | omega)
    · rw [if_neg (by rw [hb]; decide)] at hstep
      repeat walk_at "v"
      refine wpAny_If ?_
      repeat walk_at "v"
      have hsz3 := sz_lt q.i hq40
      with_reducible refine ifs (fun hc => ?_) (fun hc => ?_)
      · have hq13 : q.i < 13 := by have := of_decide_eq_true hc; (first | walk_at "om" | lia | omega)
        rw [if_pos hq13] at hstep
        repeat walk_at "v"
        refine r_forStr (σ := IS) C.hh S10 gL (by decide +kernel) (fun _ _ => [(Str.ofString "name", .str (nmAt q.i) q.u2), (Str.ofString "size", .int (szAt q.i : Nat) q.u1), (Str.ofString "ways", .ref W), (Str.ofString "stops", .ref Sp), (Str.ofString "layer", .ref Ly), (Str.ofString "names", .ref Nm), (Str.ofString "due", .ref T)]) (fun _ c => (W, lo (c.wts.map fun p => .ref p.t) c.nW) :: (Sp, lo sv nS) :: c.all.map WT.obj)
          (fun n c => c.wts.map WT.i = pushes (wr.map WT.i) q.i n ∧ (∀ p ∈ c.wts, p ∈ c.all ∧ p.i < 40) ∧ c.wts.length = wr.length + n ∧ ∀ p ∈ c.all.map WT.obj, p.1 ≠ W ∧ p.1 ≠ Sp) ⟨wr, all, nW + 1⟩ (by walk_at "kn") rfl ⟨rfl, fun p hp => ⟨hsub p (hm2 p hp), hlt p (hm2 p hp)⟩, rfl, hoff⟩ ?_ ?_ ?_ rfl rfl rfl
        · rintro n c hP p hp
          left
          rcases List.mem_cons.mp hp with rfl | hp
          · simp
          · rcases List.mem_cons.mp hp with rfl | hp
            · simp
            · obtain ⟨x, hx, rfl⟩ := List.mem_map.mp hp
              simp [WT.obj]
        · rintro n ⟨cw, ca, cn⟩ ch u h11 t11 I oI hch ⟨p1, p2, p3, p4⟩ S11 hoffI hIc
          try dsimp only at p1 p2 p3 p4 S11 ⊢
          obtain ⟨k1, k2, k3, k4⟩ := kid_at q.i hq13 n ch hch
          have zc : ({ cps := #[ch] } : Str).length = 1 := rfl
          have y1 : ∀ p ∈ ca.map WT.obj, p.1 ≠ W := fun p hp => (p4 p hp).1
          have hIW : I ≠ W := fun q => (hoffI (W, lo (cw.map fun p => .ref p.t) cn) (.head _)) q.symm
          have hwrl : wr.length ≤ 200 := by simp at hwl; (first | walk_at "om" | lia | omega)
          repeat walk_at "v"
          rename_i tA _
          refine r_stradd (by (first | walk_at "om" | lia | omega)) (fun tB tkB => ?_)
          have eA : ((szAt q.i : Nat) : Int) + 1 = ((szAt (kid q.i n) : Nat) : Int) := by (first | walk_at "om" | lia | omega)
          rw [eA, k1]
          repeat walk_at "v"
          refine r_newTuple S11 (by simp [hs24]) (fun T2 h12 S12 w1 w2 w3 => ?_)
          repeat walk_at "v"
          have hTW2 : W < T2 := w1 (W, lo (cw.map fun p => .ref p.t) cn) (by walk_at "mm")
          have hTS2 : Sp < T2 := w1 (Sp, lo sv nS) (by walk_at "mm")
          have S13 := S12.sub ((W, lo (cw.map fun p => .ref p.t) cn) :: (Sp, lo sv nS) :: (T2, tu [.int (szAt (kid q.i n) : Nat) tA, .str (nmAt (kid q.i n)) tB]) :: (I, oI) :: ca.map WT.obj) (by walk_at "sub")
          refine r_pushS (k := k + 5) (W := W) (pts := cw) (pN := ⟨T2, tA, tB, kid q.i n⟩) (n := cn) C S13 (by walk_at "nn") (by (first | walk_at "om" | lia | omega)) (fun p hp => ?_) (fun h14 tk14 S14 => ⟨rfl, ?_⟩)
          · rcases List.mem_append.mp hp with hp | hp
            · have hpm := List.mem_map_of_mem (f := WT.obj) (p2 p hp).1
              exact ⟨S13.mem ((by walk_at "ss" : ∀ p ∈ ca.map WT.obj, p ∈ _) _ hpm), y1 _ hpm, (p2 p hp).2⟩
            · rw [List.mem_singleton.mp hp]
              exact ⟨S13.mem (by walk_at "mm"), ne_gt hTW2, k3⟩
          · repeat walk_at "v"
            walk_at "x"; refine ForEnd.intro (σ := IS) ⟨sdown (ltC WT.i) 0 (cw ++ [⟨T2, tA, tB, kid q.i n⟩]) cw.length, ca ++ [⟨T2, tA, tB, kid q.i n⟩], cn + 1⟩ (St.fit _ _ S14 (by walk_at "kn") ?_) ⟨?_, fun p hp => ?_, ?_, fun p hp => ?_⟩
            · try dsimp only
              rw [List.map_append]
              simp only [List.map_cons, List.map_nil, WT.obj]
              walk_at "sub"
            · try dsimp only
              rw [push1_map, p1]; rfl
            · rcases List.mem_append.mp (sdown_mem _ _ p hp) with hp | hp
              · exact ⟨List.mem_append_left _ (p2 p hp).1, (p2 p hp).2⟩
              · rw [List.mem_singleton.mp hp]; exact ⟨List.mem_append_right _ (.head _), k3⟩
            · dsimp only; rw [sdown_len]; simp; (first | walk_at "om" | lia | omega)
            · dsimp only at hp
              rw [List.map_append] at hp
              rcases List.mem_append.mp hp with hp | hp
              · exact p4 p hp
              · rw [List.mem_singleton.mp hp]; exact ⟨ne_gt hTW2, ne_gt hTS2⟩
        · rintro ⟨cw, ca, cn⟩ h11 t11 ⟨p1, p2, p3, p4⟩ S11
          have e3 : (Str.ofString "aB/").cps.size = 3 := rfl
          rw [e3] at p1 p3
          try dsimp only at p1 p2 p3 p4 S11 ⊢
          repeat walk_at "v"
          walk_at "x"; refine TurnEnd.intro (σ := HS) ⟨cw, ca, sv, cn, nS, j + 1⟩ (St.fit _ _ S11 (by walk_at "kn") (by walk_at "ss")) ⟨⟨ss, by rw [hstep]; dsimp only; rw [p1], hsv⟩, fun p hp => (p2 p hp).1, fun p hp => (p2 p hp).2, ?_, by dsimp only; (first | walk_at "om" | lia | omega), by dsimp only; (first | walk_at "om" | lia | omega), p4⟩ (by dsimp only; (first | walk_at "om" | lia | omega))
          simp at hwl ⊢; (first | walk_at "om" | lia | omega)
      · have hq13 : ¬ q.i < 13 := by have := of_decide_eq_false hc; (first | walk_at "om" | lia | omega)
        rw [if_neg hq13] at hstep
        repeat walk_at "v"
        walk_at "x"; refine TurnEnd.intro (σ := HS) ⟨wr, all, sv, nW + 1, nS, j + 1⟩ (St.fit _ _ S10 (by walk_at "kn") (by walk_at "ss")) ⟨⟨ss, hstep, hsv⟩, fun p hp => hsub p (hm2 p hp), fun p hp => hlt p (hm2 p hp), ?_, by dsimp only; (first | walk_at "om" | lia | omega), by dsimp only; (first | walk_at "om" | lia | omega), hoff⟩ (by dsimp only; (first | walk_at "om" | lia | omega))
        dsimp only; simp at hwl; (first | walk_at "om" | lia | omega)
end
section
set_option maxRecDepth 100000
set_option maxHeartbeats 0
noncomputable def stopQ (ks : List Str) (n : Str) : Bool := told ks n && (n == Str.ofString "" || !told ks (Txt.slice n none (some (-1))))
theorem nm_up : ∀ i, i < 40 → (nmAt i == Str.ofString "") = (i == 0) ∧ (i ≠ 0 → Txt.slice (nmAt i) none (some (-1)) = nmAt ((i - 1) / 3)) := by decide +kernel
theorem names_map : names40 = (List.range 40).map nmAt := by decide +kernel
theorem layer3_map : layer3 = (List.range' 13 27).map nmAt := by decide +kernel
theorem names_up : ∀ n ∈ names40, (n == Str.ofString "") = true ∨ Txt.slice n none (some (-1)) ∈ names40 := by decide +kernel
theorem names_ok : ∀ n ∈ names40, PyData.strOk n = true := by decide +kernel
theorem stops_filter {ks : List Str} {f : Nat → Bool} (h : ∀ i, i < 40 → told ks (nmAt i) = f i) : names40.filter (stopQ ks) = (expS f).map nmAt := by
  rw [names_map, List.filter_map]
  unfold expS
  congr 1
  refine List.filter_congr fun i hi => ?_
  have hi := List.mem_range.mp hi
  obtain ⟨e1, e2⟩ := nm_up i hi
  show stopQ ks (nmAt i) = _
  unfold stopQ
  rw [h i hi, e1]
  by_cases h0 : i = 0
  · subst h0; simp
  · rw [e2 h0, h ((i - 1) / 3) (by (first | walk_at "om" | omega))]
theorem canLay_names : ∀ ys : List Str, (∀ y ∈ ys, y ∈ names40) → PyData.canLayAll0 (ys.map PyData.str) = true
  | [], _ => rfl
  | y :: r, h => by simp [PyData.canLayAll0, PyData.canLay0, canLay_names r fun y hy => h y (.tail _ hy), names_ok y (h y (.head _))]
theorem shaped_names (ys : List Str) (h : ∀ y ∈ ys, y ∈ names40) : SeqAt.shaped (.list (ys.map PyData.str)) = true := by
  simp [SeqAt.shaped, PyData.canLay0, PyData.depth, canLay_names ys h, depth_strs, ke_canLayAll0, ke_depthAll]
section
variable {prog : Program} {w : World} {A : Around} {E : Value → Shared → Prop} {hp : Heap} {G : Array GenState} {D : Drawn} {tk : Nat} {o : OsState}
theorem r_told {Td : Addr} {ob : Obj} {ks : List Str} {n : Str} {t : Tok} {Q : Value → Shared → Prop} (hd : hp.get? Td = some ob) (hk : ob.IsDictOf (PySem.strKind prog w) (names40.map fun n => (n, Value.bool (told ks n)))) (hn : n ∈ names40)
    (h : ∀ tk', Q (.bool (told ks n)) ⟨hp, G, D, tk', o⟩) {value slice : Expr} (hs : subscripted slice false (.ref Td) (.str n t) = operate [.ref Td, .str n t] (getItem (.ref Td) (.str n t)) := by with_unfolding_all rfl) : wpAny (model prog w) A (subscriptTail value slice (.ref Td) (.str n t)) Q E ⟨hp, G, D, tk, o⟩ := by
  have hm := (Heap.dictOf_iff.mpr ⟨ob, hd, hk⟩ : hp.DictOf (PySem.strKind prog w) Td _)
  refine tail_any (T := "dict") ⟨_, hd, isDict_cls hk⟩ PySem.F.slot_dict_getitem.lookup ?_ hs
  exact wpAny_getItem_of (knd := PySem.strKind prog w) (k := n) (by show Value.isStrOf n (.str n t) = true; simp [Value.isStrOf]) hm.mapOf (valueAt_mem (f := fun n => Value.bool (told ks n)) hn) (h _)
end
end
section
set_option maxRecDepth 100000
set_option maxHeartbeats 0
theorem seg24 (w : World) : LawAt w fun body scope qual => ∀ s0, body[24]? = some s0 → ∀ {prog A g0 hp G D tk o L fa cd k T Ly Nm Sp Td ns nn} {ob : Obj} {sv nv : List Value} {ss ks : List Str} {rest : List Stmt} {Q : Flow → Shared → Prop},
    Fz w A (k + 8) g0 L hp [(Str.ofString "stops", .ref Sp), (Str.ofString "layer", .ref Ly), (Str.ofString "names", .ref Nm), (Str.ofString "due", .ref T)] → hp.IsCell (L + 3) (some (.ref Td)) → hp.get? Td = some ob → Td ≠ L → ob.IsDictOf (PySem.strKind prog w) (names40.map fun n => (n, Value.bool (told ks n))) →
    hp.get? Nm = some (lo nv nn) → StrsAre nv names40 → hp.get? Sp = some (lo sv ns) → StrsAre sv ss → names40.filter (stopQ ks) = ss →
    (∀ (hp' : Heap) (tk' : Nat), Fz w A (k + 8) g0 L hp' [(Str.ofString "stops", .ref Sp), (Str.ofString "layer", .ref Ly), (Str.ofString "due", .ref T)] → KB [L] hp hp' → wpAny (model prog w) A (execs rest (envOfC qual scope L fa cd)) Q NoE ⟨hp', G, D, tk', o⟩) →
    wpAny (model prog w) A (execs (s0 :: rest) (envOfC qual scope L fa cd)) Q NoE ⟨hp, G, D, tk, o⟩ := by
  have hs24 : sizeLine = 16777216 := rfl
  refine' LawAt.intro ?ho ?_
  case ho => k_is
  intro s0 i0
  cases i0
  intro prog A g0 hp G D tk o L fa cd k T Ly Nm Sp Td ns nn ob sv nv ss ks rest Q F hcT hTd hTL hdT hNm sa hSp ssv hss next
  obtain ⟨g, C, gL, S, gk, gh, gn, gg⟩ := F.start [] [] (by simp) (by simp)
  have gka : ∀ b o, hp.get? b = some o → b ≠ L → g.get? b = some o := fun b o e n => gk b o e (by simpa using n)
  obtain ⟨oT, eT, cT⟩ := hcT
  have gT : g.get? (L + 3) = some oT := gka _ _ eT (Nat.ne_of_gt (Nat.lt_add_of_pos_right (by decide)))
  have gNm := gka _ _ hNm (off_seq F hNm rfl).l
  have gSp := gka _ _ hSp (off_seq F hSp rfl).l
  have gTd := gka _ _ hTd hTL
  have hnl := sa.length
  have h40 := names_len
  repeat walk_at "v"
  refine wpAny_If ?_
  repeat walk_at "v"
  refine' r_compL C.hh S gL (S.keep _ _ gNm) (.inl ⟨_, gNm⟩) (by (first | walk_at "om" | omega)) (fun i us nl => nl = [] ∧ StrsAre us ((names40.take i).filter (stopQ ks))) ⟨rfl, .nil⟩ ?_ ?_ ?hcell ?hkind ?hx
  walk_at "cs"
  · rintro Dl K i us nl v h3 t3 n3 own hv ⟨rfl, p1⟩ hnl2 hlD gK S3
    obtain ⟨n, tn, rfl, hn⟩ := sa.item i v hv
    have hnm := List.mem_of_getElem? hn
    have hsz := names_size n hnm
    refine GenV.intro (fun TV hTV => ?_)
    refine wpAny_mono (Q := fun b s => b = stopQ ks n ∧ ∃ h t, s = ⟨h, G, D, t, o⟩ ∧ St g K h [(Str.ofString "name", .str n tn)] ((Dl, lo us n3) :: (([] ++ []) ++ own))) ?_ ?_ (fun _ _ (e : False) => e.elim)
    · repeat walk_at "v"
      refine isTrue_plain ?_
      repeat walk_at "v"
      refine r_told (S3.keep _ _ gTd) hdT hnm (fun tk4 => ?_)
      repeat walk_at "v"
      with_reducible refine ifs (fun ha => ?_) (fun ha => ?_)
      · repeat walk_at "v"
        with_reducible refine ifs (fun hb => ?_) (fun hb => ?_)
        · repeat walk_at "v"
          exact ⟨by unfold stopQ; rw [ha, hb]; rfl, _, _, rfl, S3⟩
        · repeat walk_at "v"
          refine isTrue_plain ?_
          repeat walk_at "v"
          refine wpAny_Subscript_str_slice ?_ (fun _ _ => rfl)
          repeat walk_at "v"
          refine r_sliced (g := g) (L := K) none (some (-1, _)) S3 rfl rfl (by (first | walk_at "om" | omega)) (fun h5 t5 tk5 S5 => ?_)
          have hup : Txt.slice n none (some (-1)) ∈ names40 := (names_up n hnm).resolve_left (by rw [hb]; decide)
          have e5 : Txt.slice n ((none : Option (Int × Tok)).map (·.1)) ((some ((-1 : Int), (0 : Tok))).map (·.1)) = Txt.slice n none (some (-1)) := rfl
          refine r_told (S5.keep _ _ gTd) hdT hup (fun tk6 => ?_)
          repeat walk_at "v"
          with_reducible refine ifs (fun hc => ?_) (fun hc => ?_)
          · repeat walk_at "v"
            exact ⟨by unfold stopQ; rw [ha, hb, hc]; rfl, _, _, rfl, S5⟩
          · repeat walk_at "v"
            repeat walk_at "v"
            exact ⟨by unfold stopQ; rw [ha, hb, hc]; rfl, _, _, rfl, S5⟩
      · exact ⟨by unfold stopQ; rw [ha]; rfl, _, _, rfl, S3⟩
    · rintro b s ⟨hb, h6, t6, rfl, S6⟩
      cases b with
      | true =>
        rw [if_pos rfl]
        repeat walk_at "v"
        walk_at "z"; refine CY.intro [] (S6.cy [] (fun p hp => .inl hp)) ⟨rfl, ?_⟩ (by simp)
        rw [List.take_add_one, hn, List.filter_append]
        simp only [Option.toList_some, List.filter_cons, ← hb, if_true, List.filter_nil]
        exact p1.append' (.cons _ _ .nil)
      | false =>
        rw [if_neg (by decide)]
        walk_at "z"; refine CY.intro [] (S6.cy [] (fun p hp => .inl hp)) ⟨rfl, ?_⟩ (by simp)
        rw [List.take_add_one, hn, List.filter_append]
        simp only [Option.toList_some, List.filter_cons, ← hb, Bool.false_eq_true, if_false, List.filter_nil, List.append_nil]
        exact p1
  · rintro Dl us nl n8 t8 ⟨rfl, p1⟩ hnl2 hlD hLD gD
    rw [hnl, List.take_length, hss] at p1
    refine CDone.val (fun h8 S8 => ?_)
    refine ne_same (s := ⟨h8, G, D, t8, o⟩) (d := .list (ss.map PyData.str)) ⟨_, .list (S8.keep _ _ gSp) rfl rfl (ssv.reads h8)⟩ ⟨_, .list (S8.mem (.head _)) rfl rfl (p1.reads h8)⟩ (shaped_names ss (fun y hy => ?_)) (by have := C.hu; (first | walk_at "om" | omega)) ?_
    · rw [← hss] at hy
      exact (List.mem_filter.mp hy).1
    · repeat walk_at "v"
      have K := S8.kb gk
      walk_at "x"; exact next h8 _ (F.next K (St.re S8 (kn' := [(Str.ofString "stops", .ref Sp), (Str.ofString "layer", .ref Ly), (Str.ofString "due", .ref T)]) (kn_sub (by walk_at "kn"))).ns (by simp) (fun _ _ _ h => by simp at h)) K
end
section
set_option maxRecDepth 100000
set_option maxHeartbeats 0
section
variable {prog : Program} {w : World} {A : Around} {E : Value → Shared → Prop} {hp g : Heap} {G : Array GenState} {D : Drawn} {tk : Nat} {o : OsState} {L : Addr} {kn : Kns} {led : Led}
theorem r_sum {l : Addr} {vs : List Value} {n : Nat} {ns : List Int} {Q : Value → Shared → Prop} (S : St g L hp kn led) (hh : A.handled = none) (hl : hp.get? l = some (lo vs n)) (hi : IntsAre vs ns)
    (h : ∀ h' tk' t', St g L h' kn led → Q (.int ns.sum t') ⟨h', G, D, tk', o⟩) : wpAny (model prog w) A (call (.builtin "sum") [.ref l]) Q E ⟨hp, G, D, tk, o⟩ := by
  obtain ⟨xs, hx⟩ := hi.allInts.items
  have hl' : hp.IsList l (intItems xs) := hx ▸ isList_of hl
  refine sum_intListG (s := ⟨hp, G, D, tk, o⟩) hh hl' fun h' tk t' hk => ?_
  have e1 : ns = xs.toList.map (·.1) := by
    rw [← nums_intItems, ← hx]
    exact (show numsOf vs.toArray.toList = ns from hi.numsOf).symm
  have e2 : preSum (numAt xs) xs.size = ns.sum := by
    rw [preSum_eq, List.take_of_length_le (by simp), e1]
  rw [e2]
  exact h h' tk t' (S.keeps hk)
end
theorem nm_mem {i : Nat} (h : i < 40) : nmAt i ∈ names40 := by
  have : i < names40.length := by rw [names_len]; exact h
  unfold nmAt
  simp only [List.getD, List.getElem?_eq_getElem this, Option.getD_some]
  exact List.getElem_mem _
theorem sz_le : ∀ i, i < 40 → szAt i ≤ 3 := by decide +kernel
theorem layer_names : ∀ n ∈ layer3, n ∈ names40 := by decide +kernel
theorem layer3_len : layer3.length = 27 := by decide +kernel
theorem cast_sum : ∀ l : List Nat, (l.map fun i => (3 : Int) ^ (3 - szAt i)).sum = (((l.map fun i => 3 ^ (3 - szAt i)).sum : Nat) : Int)
  | [] => rfl
  | a :: r => by simp [cast_sum r]
theorem layer_filter {q : Str → Bool} {f : Nat → Bool} (h : ∀ i, i < 40 → q (nmAt i) = f i) : (layer3.filter q).length = ((List.range' 13 27).filter f).length := by
  rw [layer3_map, List.filter_map, List.length_map]
  congr 1
  refine List.filter_congr fun i hi => ?_
  have hi := List.mem_range'_1.mp hi
  exact h i (by (first | walk_at "om" | omega))
end
section
set_option maxRecDepth 100000
set_option maxHeartbeats 0
theorem seg25 (w : World) : LawAt w fun body scope qual => ∀ s0, body[25]? = some s0 → ∀ {prog A g0 hp G D tk o L fa cd k T Ly Sp ns nl} {e : RS} {sv lv : List Value} {ids : List Nat} {rest : List Stmt} {Q : Flow → Shared → Prop},
    Fz w A (k + 8) g0 L hp [(Str.ofString "stops", .ref Sp), (Str.ofString "layer", .ref Ly), (Str.ofString "due", .ref T)] → hp.IsCell (L + 2) (some (.ref e.x)) → (∀ p ∈ e.led w, hp.get? p.1 = some p.2 ∧ p.1 ≠ L) → StrsAre e.vs e.ys → InMenu e.ys →
    hp.get? Ly = some (lo lv nl) → StrsAre lv layer3 → hp.get? Sp = some (lo sv ns) → StrsAre sv (ids.map nmAt) → (∀ i ∈ ids, i < 40) → sv.length ≤ 40 → (ids.map fun i => 3 ^ (3 - szAt i)).sum = (layer3.filter (appl e.ys)).length →
    (∀ (hp' : Heap) (tk' : Nat), Fz w A (k + 8) g0 L hp' [(Str.ofString "due", .ref T)] → KB [L] hp hp' → wpAny (model prog w) A (execs rest (envOfC qual scope L fa cd)) Q NoE ⟨hp', G, D, tk', o⟩) →
    wpAny (model prog w) A (execs (s0 :: rest) (envOfC qual scope L fa cd)) Q NoE ⟨hp, G, D, tk, o⟩ := by
  have hs24 : sizeLine = 16777216 := rfl
  refine' LawAt.intro ?ho ?_
  case ho => k_is
  intro s0 i0
  cases i0
  intro prog A g0 hp G D tk o L fa cd k T Ly Sp ns nl e sv lv ids rest Q F hcA he sa hmenu hLy ssl hSp ssv hids hsl hsum next
  obtain ⟨g, C, gL, S, gk, gh, gn, gg⟩ := F.start [] [] (by simp) (by simp)
  have gka : ∀ b o, hp.get? b = some o → b ≠ L → g.get? b = some o := fun b o e n => gk b o e (by simpa using n)
  obtain ⟨oA, eA, cA⟩ := hcA
  have gA : g.get? (L + 2) = some oA := gka _ _ eA (Nat.ne_of_gt (Nat.lt_add_of_pos_right (by decide)))
  have gx := gka _ _ (he _ (.head _)).1 (he _ (.head _)).2
  have gd := gka _ _ (he _ (.tail _ (.head _))).1 (he _ (.tail _ (.head _))).2
  have gp := gka _ _ (he _ (.tail _ (.tail _ (.head _)))).1 (he _ (.tail _ (.tail _ (.head _)))).2
  dsimp only at gx gd gp
  have hza : ∀ a ∈ e.ys, a.length ≤ 1000 := fun a ha => by have := menu_size a (hmenu a ha); (first | walk_at "om" | omega)
  have gLy := gka _ _ hLy (off_seq F hLy rfl).l
  have gSp := gka _ _ hSp (off_seq F hSp rfl).l
  have hsv := ssv.length
  have hlv := ssl.length
  have h27 := layer3_len
  repeat walk_at "v"
  refine wpAny_If ?_
  repeat walk_at "v"
  refine' r_compL C.hh S gL (S.keep _ _ gSp) (.inl ⟨_, gSp⟩) (by (first | walk_at "om" | omega)) (fun i us nl => nl = [] ∧ IntsAre us ((ids.take i).map fun i => (3 : Int) ^ (3 - szAt i))) ⟨rfl, .nil⟩ ?_ ?_ ?hcell ?hkind ?hx
  walk_at "cs"
  · rintro Dl K i us nl v h3 t3 n3 own hv ⟨rfl, p1⟩ hnl2 hlD gK S3
    obtain ⟨n, tn, rfl, hn⟩ := ssv.item i v hv
    rw [List.getElem?_map] at hn
    obtain ⟨q, hq, rfl⟩ := Option.map_eq_some_iff.mp hn
    have hq40 := hids q (List.mem_of_getElem? hq)
    have hql := nm_len q hq40
    have hq3 := sz_le q hq40
    repeat walk_at "v"
    refine r_strlen (by (first | walk_at "om" | omega)) (fun t1 tk1 => ?_)
    repeat walk_at "v"
    refine r_pow (by (first | walk_at "om" | omega)) (by (first | walk_at "om" | omega)) (by decide) (fun t12 tk12 => ?_)
    walk_at "z"; refine CY.intro [] (S3.cy [] (fun p hp => .inl hp)) ⟨rfl, ?_⟩ (by simp)
    rw [List.take_add_one, hq, List.map_append]
    have ee : ((3 : Int) - ((nmAt q).length : Nat)).toNat = 3 - szAt q := by rw [hql]; (first | walk_at "om" | omega)
    rw [ee]
    exact p1.append (.cons _ _ .nil)
  · rintro Dl us nl n8 t8 ⟨rfl, p1⟩ hnl2 hlD hLD gD
    refine CDone.val (fun h8 S8 => ?_)
    repeat walk_at "v"
    refine r_sum S8 C.hh (S8.mem (.head _)) p1 (fun h9 tk9 t9 S9' => ?_)
    have S9 := S9'.sub [] (by walk_at "sub")
    repeat walk_at "v"
    refine' r_compL C.hh S9 gL (S9.keep _ _ gLy) (.inl ⟨_, gLy⟩) (by (first | walk_at "om" | omega)) (fun i us nl => nl = [] ∧ StrsAre us ((layer3.take i).filter (appl e.ys))) ⟨rfl, .nil⟩ ?_ ?_ ?hcell ?hkind ?hx
    walk_at "cs"
    · rintro D2 K i us2 nl v h3 t3 n3 own hv ⟨rfl, p2⟩ hnl2 hlD gK S3
      obtain ⟨n, tn, rfl, hn⟩ := ssl.item i v hv
      have hnm := layer_names n (List.mem_of_getElem? hn)
      have hsz := names_size n hnm
      repeat walk_at "v"
      refine r_method C S3 (S3.keep _ _ gx) (S3.keep _ _ gd) rfl (by k_is) (by k_is) (by k_is) ?_
      repeat walk_at "v"
      refine r_call C S3 (applies_fn (S3.keep _ _ gx) (S3.keep _ _ gd) rfl (S3.keep _ _ gp) sa (by (first | walk_at "om" | omega)) hza) (by (first | walk_at "om" | omega)) (by simp) (fun v h10 tk10 K10 hp10 => ?_)
      subst hp10
      have S10 := S3.call0 K10
      repeat walk_at "v"
      with_reducible refine ifs (fun hb => ?_) (fun hb => ?_)
      · repeat walk_at "v"
        walk_at "z"; refine CY.intro [] (S10.cy [] (fun p hp => .inl hp)) ⟨rfl, ?_⟩ (by simp)
        rw [List.take_add_one, hn, List.filter_append]
        simp only [Option.toList_some, List.filter_cons, hb, if_true, List.filter_nil]
        exact p2.append' (.cons _ _ .nil)
      · walk_at "z"; refine CY.intro [] (S10.cy [] (fun p hp => .inl hp)) ⟨rfl, ?_⟩ (by simp)
        rw [List.take_add_one, hn, List.filter_append]
        simp only [Option.toList_some, List.filter_cons, hb, Bool.false_eq_true, if_false, List.filter_nil, List.append_nil]
        exact p2
    · rintro D2 us2 nl n10 t10 ⟨rfl, p2⟩ hnl3 hlD2 hLD2 gD2
      refine CDone.val (fun h10 S10 => ?_)
      repeat walk_at "v"
      have hu2 := p2.length
      rw [hlv, List.take_length] at hu2
      have hu3 := List.length_filter_le (appl e.ys) layer3
      refine r_len (S10.mem (.head _)) (by (first | walk_at "om" | omega)) (fun t11 tk11 => ?_)
      rw [hsv, List.length_map, List.take_length, cast_sum, hsum, hu2]
      refine PyProof.Rows.ne_int ?_
      rw [bne_self_eq_false]
      repeat walk_at "v"
      have K := S10.kb gk
      walk_at "x"; exact next h10 _ (F.next K (St.re S10 (kn' := [(Str.ofString "due", .ref T)]) (kn_sub (by walk_at "kn"))).ns (by simp) (fun _ _ _ h => by simp at h)) K
end
section
set_option maxRecDepth 100000
set_option maxHeartbeats 0
theorem seg26 (w : World) : LawAt w fun body scope qual => ∀ s0, body[26]? = some s0 → ∀ {prog A g0 hp G D tk o L fa cd k T al rl na} {av : List Value} {e : RS} {rest : List Stmt} {Q : Flow → Shared → Prop},
    Fz w A (k + 8) g0 L hp [(Str.ofString "due", .ref T)] → hp.IsCell (L + 2) (some (.ref e.x)) → (∀ p ∈ e.led w, hp.get? p.1 = some p.2 ∧ p.1 ≠ L) → StrsAre e.vs e.ys →
    hp.get? T = some (tu [.ref al, .ref rl]) → hp.get? al = some (lo av na) → StrsAre av e.ys →
    (∀ (hp' : Heap) (tk' : Nat), Fz w A (k + 8) g0 L hp' [(Str.ofString "due", .ref T)] → KB [L] hp hp' → Q (.ret (.bool true)) ⟨hp', G, D, tk', o⟩) →
    wpAny (model prog w) A (execs (s0 :: rest) (envOfC qual scope L fa cd)) Q NoE ⟨hp, G, D, tk, o⟩ := by
  refine' LawAt.intro ?ho ?_
  case ho => k_is
  intro s0 i0
  cases i0
  intro prog A g0 hp G D tk o L fa cd k T al rl na av e rest Q F hcA he sa hT hal saa next
  obtain ⟨g, C, gL, S, gk, gh, gn, gg⟩ := F.start [] [] (by simp) (by simp)
  have gka : ∀ b o, hp.get? b = some o → b ≠ L → g.get? b = some o := fun b o e n => gk b o e (by simpa using n)
  obtain ⟨oA, eA, cA⟩ := hcA
  have gA : g.get? (L + 2) = some oA := gka _ _ eA (Nat.ne_of_gt (Nat.lt_add_of_pos_right (by decide)))
  have gx := gka _ _ (he _ (.head _)).1 (he _ (.head _)).2
  have gd := gka _ _ (he _ (.tail _ (.head _))).1 (he _ (.tail _ (.head _))).2
  have gp := gka _ _ (he _ (.tail _ (.tail _ (.head _)))).1 (he _ (.tail _ (.tail _ (.head _)))).2
  dsimp only at gx gd gp
  have gT := gka _ _ hT (off_seq F hT rfl).l
  have gal := gka _ _ hal (off_seq F hal rfl).l
  repeat walk_at "v"
  refine r_method C S (S.keep _ _ gx) (S.keep _ _ gd) rfl (by k_is) (by k_is) (by k_is) ?_
  repeat walk_at "v"
  refine r_call C S (applies_none_fn (S.keep _ _ gx) (S.keep _ _ gd) rfl (S.keep _ _ gp) sa) (by (first | walk_at "om" | omega)) (by simp) (fun v h10 tk10 K10 hp10 => ?_)
  subst hp10
  have S10 := S.call0 K10
  repeat walk_at "v"
  refine r_titem (v := .ref al) (S10.keep _ _ gT) (by decide) (by decide) rfl ?_
  repeat walk_at "v"
  refine in_list_strs (isList_of (S10.keep _ _ gal)) saa ?_
  refine PyProof.Rows.eq_bool ?_
  have eb : ((e.ys.any (· == Str.ofString "*")) == (e.ys.any (· == Str.ofString "*"))) = true := by simp
  rw [eb]
  have K := S10.kb gk
  walk_at "x"; exact next h10 _ (F.next K S10.ns (by simp) (fun _ _ _ h => by simp at h)) K
end
section
set_option maxRecDepth 100000
set_option maxHeartbeats 0
theorem menu_getD {l : List En} (h : ∀ e ∈ l, InMenu e.1) (i : Nat) : InMenu (l.getD i enD).1 := by
  intro y hy
  rw [List.getD_eq_getElem?_getD] at hy
  cases q : l[i]? with
  | none => rw [q] at hy; cases hy
  | some e => rw [q] at hy; exact h e (List.mem_of_getElem? q) y hy
theorem menu_step {s : List En × List Nat} (h : ∀ e ∈ s.1, InMenu e.1) : ∀ e ∈ (mrgStep s).1, InMenu e.1 := by
  unfold mrgStep
  split
  · intro e he
    rcases List.mem_append.mp he with he | he
    · exact h e he
    · rw [List.mem_singleton.mp he]
      intro y hy
      exact menu_getD h _ y (List.mem_filter.mp hy).1
  · exact h
theorem menu_run {s : List En × List Nat} (h : ∀ e ∈ s.1, InMenu e.1) : ∀ n, ∀ e ∈ (mrun s n).1, InMenu e.1
  | 0 => h
  | n + 1 => menu_step (menu_run h n)
theorem push1_mem {w : List Nat} {x y : Nat} (h : y ∈ push1 w x) : y ∈ w ∨ y = x := by
  rcases List.mem_append.mp (sdown_mem _ _ y h) with h | h
  · exact .inl h
  · exact .inr (List.mem_singleton.mp h)
theorem sstep_lt {f : Nat → Bool} {st : List Nat × List Nat} (h : ∀ x ∈ st.1, x < 40) : ∀ x ∈ (sstep f st).1, x < 40 := by
  unfold sstep
  split
  · exact h
  · rename_i last hl
    have hsp : st.1.dropLast ++ [last] = st.1 := by
      have h0 : st.1 ≠ [] := fun q => by rw [q] at hl; cases hl
      rw [List.getLast?_eq_some_getLast h0] at hl
      rw [← Option.some.inj hl]
      exact List.dropLast_concat_getLast h0
    obtain ⟨m1, m2, m3⟩ := hpop_mem (lt := ltN) st.1.dropLast last
    rw [hsp] at m1 m2
    try dsimp only
    split
    · exact fun x hx => h x (m2 x hx)
    · split
      · rename_i h13
        intro x hx
        rcases push1_mem hx with hx | rfl
        · rcases push1_mem hx with hx | rfl
          · rcases push1_mem hx with hx | rfl
            · exact h x (m2 x hx)
            · (first | walk_at "om" | lia | omega)
          · (first | walk_at "om" | lia | omega)
        · (first | walk_at "om" | lia | omega)
      · exact fun x hx => h x (m2 x hx)
theorem siter_lt {f : Nat → Bool} : ∀ n, ∀ x ∈ (siter f n).1, x < 40
  | 0 => by intro x hx; rw [List.mem_singleton.mp hx]; decide
  | n + 1 => sstep_lt (siter_lt n)
theorem siter_ext {f f' : Nat → Bool} (h : ∀ i, i < 40 → f i = f' i) : ∀ n, siter f n = siter f' n
  | 0 => rfl
  | n + 1 => by
    show sstep f (siter f n) = sstep f' (siter f' n)
    rw [← siter_ext h n]
    have hlt := siter_lt (f := f) n
    generalize siter f n = st at hlt
    unfold sstep
    split
    · rfl
    · rename_i last hl
      have hsp : st.1.dropLast ++ [last] = st.1 := by
        have h0 : st.1 ≠ [] := fun q => by rw [q] at hl; cases hl
        rw [List.getLast?_eq_some_getLast h0] at hl
        rw [← Option.some.inj hl]
        exact List.dropLast_concat_getLast h0
      obtain ⟨m1, m2, m3⟩ := hpop_mem (lt := ltN) st.1.dropLast last
      rw [hsp] at m1
      try dsimp only
      rw [h _ (hlt _ m1)]
theorem search_law {ys : List Str} (hm : InMenu ys) :
    (siter (fun i => appl ys (nmAt i)) 40).1 = [] ∧ names40.filter (stopQ (knownOf ys)) = (siter (fun i => appl ys (nmAt i)) 40).2.map nmAt ∧ (∀ i ∈ (siter (fun i => appl ys (nmAt i)) 40).2, i < 40) ∧
      ((siter (fun i => appl ys (nmAt i)) 40).2.map fun i => 3 ^ (3 - szAt i)).sum = (layer3.filter (appl ys)).length := by
  have hlow : ∀ k ∈ knownOf ys, k ∈ lows6 := known_low ys [] hm (by simp)
  obtain ⟨b, hb, ht⟩ := told_bits hlow
  have hf : ∀ i, i < 40 → appl ys (nmAt i) = fM b i := fun i hi => (appl_told (nm_mem hi)).trans (ht i hi)
  obtain ⟨s1, s2, s3⟩ := search_all b hb
  rw [siter_ext hf 40, s2]
  refine ⟨s1, stops_filter ht, fun i hi => List.mem_range.mp (List.mem_filter.mp hi).1, ?_⟩
  rw [s3, layer_filter hf]
section
variable {w : World} {A : Around} {k : Nat} {g0 h h' : Heap} {L a c : Addr} {o : Obj} {v : Option Value}
theorem Off.ne {i : Nat} (h : Off L a) (hi : i ≤ 4) : a ≠ L + i := h i hi
theorem KB.o1 (K : KB [L] h h') (hf : Off L a) (e : h.get? a = some o) : h'.get? a = some o := K a o e (by simpa using hf.l)
theorem KB.o2 (K : KB [L, L + 2] h h') (hf : Off L a) (e : h.get? a = some o) : h'.get? a = some o := K a o e (by
  simp only [List.mem_cons, List.not_mem_nil, or_false, not_or]; exact ⟨hf.l, hf 2 (by (first | walk_at "om" | lia | omega))⟩)
theorem KB.o3 (K : KB [L, L + 3, L + 4] h h') (hf : Off L a) (e : h.get? a = some o) : h'.get? a = some o := K a o e (by
  simp only [List.mem_cons, List.not_mem_nil, or_false, not_or]; exact ⟨hf.l, hf 3 (by (first | walk_at "om" | lia | omega)), hf 4 (by (first | walk_at "om" | lia | omega))⟩)
theorem KB.cell {ds : List Addr} (K : KB ds h h') (hc : h.IsCell c v) (hn : c ∉ ds) : h'.IsCell c v := by
  obtain ⟨o, e, hd⟩ := hc
  exact ⟨o, K _ _ e hn, hd⟩
theorem pl_ne {L : Addr} {i j : Nat} (h : i ≠ j) : (L + i : Addr) ≠ L + j := fun e => h (Nat.add_left_cancel (n := L) e)
theorem pl_ne0 {L : Addr} {i : Nat} (h : i ≠ 0) : (L + i : Addr) ≠ L := fun e => h (Nat.add_left_cancel (n := L) (show L + i = L + 0 from e))
theorem fresh_ne {a b : Addr} (ha : h.get? a = none) (hb : h.get? b = some o) : b ≠ a := fun e => by rw [e, ha] at hb; cases hb
end
end
section
set_option maxRecDepth 100000
set_option maxHeartbeats 0
theorem Fz.gnone {w : World} {A : Around} {k : Nat} {g0 h : Heap} {L a : Addr} {kn : Kns} (F : Fz w A k g0 L h kn) (e : h.get? a = none) : g0.get? a = none := by
  cases q : g0.get? a with
  | none => rfl
  | some o => have := F.keep _ _ q; rw [e] at this; cases this
theorem led4_all {P : Addr × Obj → Prop} {a0 a1 a2 a3 : Addr} {c : S4} (h0 : P (a0, lo c.1.av c.1.na)) (h1 : P (a1, lo c.2.1.av c.2.1.na)) (h2 : P (a2, lo c.2.2.1.av c.2.2.1.na)) (h3 : P (a3, lo c.2.2.2.av c.2.2.2.na)) : ∀ p ∈ led4 a0 a1 a2 a3 c, P p := by
  intro p hp
  simp only [led4, List.mem_cons, List.not_mem_nil, or_false] at hp
  rcases hp with rfl | rfl | rfl | rfl <;> assumption
theorem es0_en {es0 : List RS} {c : S4} (h4 : es0.length = 4) (hj : ∀ j e, es0[j]? = some e → e.ok 1 ∧ e.ys = ((cs4 c).getD j slD).ys ∧ e.zs = [(j : Int)]) : (es0.map RS.en, [0, 1, 2, 3]) = plainS0 c.1.ys c.2.1.ys c.2.2.1.ys c.2.2.2.ys := by
  obtain ⟨e0, e1, e2, e3, rfl⟩ := four_of h4
  have z0 := (hj 0 e0 rfl).2
  have z1 := (hj 1 e1 rfl).2
  have z2 := (hj 2 e2 rfl).2
  have z3 := (hj 3 e3 rfl).2
  simp only [List.map_cons, List.map_nil, RS.en, z0, z1, z2, z3]
  rfl
theorem es0_perm {es0 : List RS} {c : S4} (h4 : es0.length = 4) (hj : ∀ j e, es0[j]? = some e → e.ok 1 ∧ e.ys = ((cs4 c).getD j slD).ys ∧ e.zs = [(j : Int)]) : ((List.range 4).map fun j => (((es0.map RS.en).getD j enD).1.length, j)) = (List.range 4).map fun j => (((cs4 c).getD j slD).ys.length, j) := by
  have e := congrArg Prod.fst (es0_en h4 hj)
  dsimp only at e
  rw [e]
  rfl
theorem last_en {es0 : List RS} {n1 n2 n3 : RS} {s : List En × List Nat} {ys : List Str} {zs : List Int} (h4 : es0.length = 4) (h : (es0 ++ [n1, n2, n3]).map RS.en = (mrun s 3).1) (hr : (mrun s 3).1.getD 6 enD = (ys, zs)) : n3.ys = ys ∧ n3.zs = zs := by
  obtain ⟨e0, e1, e2, e3, rfl⟩ := four_of h4
  rw [← h] at hr
  have : RS.en n3 = (ys, zs) := hr
  exact ⟨congrArg Prod.fst this, congrArg Prod.snd this⟩
theorem last_menu {es0 : List RS} {n1 n2 n3 : RS} {c : S4} (hg : ∀ e ∈ cs4 c, e.good 12) (h : (es0 ++ [n1, n2, n3]).map RS.en = (mrun (plainS0 c.1.ys c.2.1.ys c.2.2.1.ys c.2.2.2.ys) 3).1) : InMenu n3.ys := by
  have hm : ∀ e ∈ (plainS0 c.1.ys c.2.1.ys c.2.2.1.ys c.2.2.2.ys).1, InMenu e.1 := by
    intro e he
    simp only [plainS0, List.mem_cons, List.not_mem_nil, or_false] at he
    rcases he with rfl | rfl | rfl | rfl
    · exact (hg c.1 (by simp [cs4])).menu
    · exact (hg c.2.1 (by simp [cs4])).menu
    · exact (hg c.2.2.1 (by simp [cs4])).menu
    · exact (hg c.2.2.2 (by simp [cs4])).menu
  have := menu_run hm 3 (RS.en n3) (by rw [← h]; simp)
  exact this
theorem lawA (w : World) : LawAt w fun body scope qual => ∀ s0 s1 s2 s3 s4 s5 s6 s7 s8 s9 s10, body[0]? = some s0 → body[1]? = some s1 → body[2]? = some s2 → body[3]? = some s3 → body[4]? = some s4 → body[5]? = some s5 → body[6]? = some s6 → body[7]? = some s7 → body[8]? = some s8 → body[9]? = some s9 → body[10]? = some s10 →
    ∀ {prog A g0 hp G D tk o L fa cd sl} {ws : List Value} {ns : List Int} {rest : List Stmt} {Q : Flow → Shared → Prop},
    Fz w A 12 g0 L hp [(Str.ofString "script", .ref sl)] → g0.IsList sl ws.toArray → IntsAre ws ns → ws.length ≤ 100 →
    (∀ (hp' : Heap) (tk' : Nat) (e : RS) (T al rl : Addr) (av : List Value) (na : Nat), Fz w A 12 g0 L hp' [(Str.ofString "due", .ref T)] → hp'.IsCell (L + 2) (some (.ref e.x)) → (∀ p ∈ e.led w, hp'.get? p.1 = some p.2 ∧ Off L p.1) → StrsAre e.vs e.ys → InMenu e.ys →
      hp'.get? T = some (tu [.ref al, .ref rl]) → hp'.get? al = some (lo av na) → StrsAre av e.ys → av.length ≤ 1000 → wpAny (model prog w) A (execs rest (envOfC qual scope L fa cd)) Q NoE ⟨hp', G, D, tk', o⟩) →
    wpAny (model prog w) A (execs (s0 :: s1 :: s2 :: s3 :: s4 :: s5 :: s6 :: s7 :: s8 :: s9 :: s10 :: rest) (envOfC qual scope L fa cd)) Q NoE ⟨hp, G, D, tk, o⟩ := by
  intro oc od name qual params body scope dV kV doc pm an cdv ct osl ho
  have q0 := seg0 w _ _ _ _ _ _ _ _ _ _ _ _ _ _ _ ho
  have q1 := seg1 w _ _ _ _ _ _ _ _ _ _ _ _ _ _ _ ho
  have q2 := seg23 w _ _ _ _ _ _ _ _ _ _ _ _ _ _ _ ho
  have q4 := seg45 w _ _ _ _ _ _ _ _ _ _ _ _ _ _ _ ho
  have q6 := seg6 w _ _ _ _ _ _ _ _ _ _ _ _ _ _ _ ho
  have q7 := seg7 w _ _ _ _ _ _ _ _ _ _ _ _ _ _ _ ho
  have q8 := seg8 w _ _ _ _ _ _ _ _ _ _ _ _ _ _ _ ho
  have q9 := seg9 w _ _ _ _ _ _ _ _ _ _ _ _ _ _ _ ho
  have q10 := seg10 w _ _ _ _ _ _ _ _ _ _ _ _ _ _ _ ho
  try dsimp only at q0 q1 q2 q4 q6 q7 q8 q9 q10 ⊢
  clear ho
  intro s0 s1 s2 s3 s4 s5 s6 s7 s8 s9 s10 i0 i1 i2 i3 i4 i5 i6 i7 i8 i9 i10
  intro prog A g0 hp G D tk o L fa cd sl ws ns rest Q F hsl hws hlen next
  refine q0 s0 i0 (k := 12) F fun h1 tk1 B a0 a1 a2 a3 F1 K1 hc1 hB1 ha1 ga hl1 hl2 hl3 hl4 => ?_
  have hsl1 : h1.IsList sl ws.toArray := by obtain ⟨o, e, r⟩ := hsl; exact ⟨o, F1.keep _ _ e, r⟩
  have hslne : ∀ a ∈ [a0, a1, a2, a3], sl ≠ a := by
    intro a ha q
    obtain ⟨o, e, _⟩ := hsl
    rw [q] at e
    simp only [List.mem_cons, List.not_mem_nil, or_false] at ha
    rcases ha with rfl | rfl | rfl | rfl
    · rw [ga.1] at e; cases e
    · rw [ga.2.1] at e; cases e
    · rw [ga.2.2.1] at e; cases e
    · rw [ga.2.2.2] at e; cases e
  have oB : Off L B := off_seq F1 hB1 rfl
  have o0 : Off L a0 := off_seq F1 ha1.1 rfl
  have o1 : Off L a1 := off_seq F1 ha1.2.1 rfl
  have o2 : Off L a2 := off_seq F1 ha1.2.2.1 rfl
  have o3 : Off L a3 := off_seq F1 ha1.2.2.2 rfl
  refine q1 s1 i1 (k := 12) F1 hsl1 hws hlen hc1 hB1 ha1 ga hl1 hl2 hl3 hl4 hslne fun h2 tk2 c F2 K2 hled2 gd0 gd1 gd2 gd3 => ?_
  have hB2 := K2 _ _ hB1 (by
    simp only [List.mem_cons, List.not_mem_nil, or_false, not_or]
    exact ⟨oB.l, Nat.ne_of_gt (Nat.lt_trans hl1 (Nat.lt_trans hl2 (Nat.lt_trans hl3 hl4))), Nat.ne_of_gt (Nat.lt_trans hl2 (Nat.lt_trans hl3 hl4)), Nat.ne_of_gt (Nat.lt_trans hl3 hl4), Nat.ne_of_gt hl4⟩)
  have hc2 := K2.cell hc1 (by
    simp only [List.mem_cons, List.not_mem_nil, or_false, not_or]
    exact ⟨pl_ne0 (by decide), Ne.symm (o0 1 (by decide)), Ne.symm (o1 1 (by decide)), Ne.symm (o2 1 (by decide)), Ne.symm (o3 1 (by decide))⟩)
  have hgood : ∀ e ∈ cs4 c, e.good 12 := by
    intro e he
    simp only [cs4, List.mem_cons, List.not_mem_nil, or_false] at he
    rcases he with rfl | rfl | rfl | rfl <;> assumption
  have oled : ∀ p ∈ led4 a0 a1 a2 a3 c, Off L p.1 := led4_all (P := fun p => Off L p.1) o0 o1 o2 o3
  refine q2 s2 s3 i2 i3 (k := 9) F2 hc2 hB2 hled2 hgood fun h3 tk3 R nR es0 F3 K3 hRn hR3 hes3 hes4 hesj => ?_
  have oR := F2.off hRn
  have oes : ∀ p ∈ RS.leds w es0, Off L p.1 := fun p hp => F2.off (hes3 p hp).2.2
  have hled3 : ∀ p ∈ led4 a0 a1 a2 a3 c, h3.get? p.1 = some p.2 := fun p hp => K3.o1 (oled p hp) (hled2 p hp)
  have hc3 := K3.cell hc2 (by simpa using pl_ne0 (L := L) (i := 1) (by decide))
  have hB3 := K3.o1 oB hB2
  refine q4 s4 s5 i4 i5 (k := 9) F3 hc3 hB3 hled3 hgood fun h4 tk4 W nW pts F4 K4 hW4 hWn hpts4 hperm hheap => ?_
  have oW := F3.off hWn
  have hR4 := K4.o1 oR hR3
  have hes4' : ∀ p ∈ RS.leds w es0, h4.get? p.1 = some p.2 := fun p hp => K4.o1 (oes p hp) (hes3 p hp).1
  have hled4 : ∀ p ∈ led4 a0 a1 a2 a3 c, h4.get? p.1 = some p.2 := fun p hp => K4.o1 (oled p hp) (hled3 p hp)
  have hc4 := K4.cell hc3 (by simpa using pl_ne0 (L := L) (i := 1) (by decide))
  have hB4 := K4.o1 oB hB3
  refine q6 s6 i6 (k := 8) F4 hW4 hR4 (Ne.symm (fresh_ne hWn hR3)) (F3.gnone hWn) (F2.gnone hRn) (fun p hp => ⟨(hpts4 p hp).1, (hpts4 p hp).2.1, Ne.symm (fresh_ne (hpts4 p hp).2.2 hR3), (F3.off (hpts4 p hp).2.2).l⟩)
    (fun p hp => ⟨hes4' p hp, fresh_ne hWn (hes3 p hp).1, (hes3 p hp).2.1, (oes p hp).l⟩) hes4 (fun e he => by
      obtain ⟨j, hj⟩ := List.getElem?_of_mem he
      exact (hesj j e hj).1) (by rw [es0_perm hes4 hesj]; exact hperm) hheap fun h6 tk6 nR6 nw F6 K6 hR6 hnw3 hen hnw hnwok => ?_
  have onw : ∀ p ∈ RS.leds w nw, Off L p.1 := fun p hp => F4.off (hnw p hp).2.2
  obtain ⟨n1, n2, n3, rfl⟩ := three_of hnw3
  have k6 : ∀ {a : Addr} {ob : Obj}, Off L a → h3.get? a = some ob → a ≠ R → h4.get? a = some ob → h6.get? a = some ob := fun {a ob} ho e3 hR e4 => K6 _ _ e4 (by
    simp only [List.mem_cons, List.not_mem_nil, or_false, not_or]
    exact ⟨ho.l, fresh_ne hWn e3, hR⟩)
  have hes6 : ∀ p ∈ RS.leds w es0, h6.get? p.1 = some p.2 := fun p hp => k6 (oes p hp) (hes3 p hp).1 (hes3 p hp).2.1 (hes4' p hp)
  have hled6 : ∀ p ∈ led4 a0 a1 a2 a3 c, h6.get? p.1 = some p.2 := fun p hp => k6 (oled p hp) (hled3 p hp) (fresh_ne hRn (hled2 p hp)) (hled4 p hp)
  have hB6 := k6 oB hB3 (fresh_ne hRn hB2) hB4
  have hc6 := K6.cell hc4 (by
    simp only [List.mem_cons, List.not_mem_nil, or_false, not_or]
    exact ⟨pl_ne0 (by decide), Ne.symm (oW 1 (by decide)), Ne.symm (oR 1 (by decide))⟩)
  have hR6' : h6.get? R = some (lo (RS.refs ((es0 ++ [n1, n2]) ++ [n3])) nR6) := by
    rw [hR6, List.append_assoc]; rfl
  refine q7 s7 i7 (k := 4) F6 hR6' fun h7 tk7 F7 K7 hcL => ?_
  have hc7 := K7.cell hc6 (by
    simp only [List.mem_cons, List.not_mem_nil, or_false, not_or]
    exact ⟨pl_ne0 (by decide), pl_ne (by decide)⟩)
  have hB7 := K7.o2 oB hB6
  have hled7 : ∀ p ∈ led4 a0 a1 a2 a3 c, h7.get? p.1 = some p.2 := fun p hp => K7.o2 (oled p hp) (hled6 p hp)
  have hes7 : ∀ p ∈ RS.leds w es0, h7.get? p.1 = some p.2 := fun p hp => K7.o2 (oes p hp) (hes6 p hp)
  have hnw7 : ∀ p ∈ RS.leds w [n1, n2, n3], h7.get? p.1 = some p.2 := fun p hp => K7.o2 (onw p hp) (hnw p hp).1
  have hR7 := K7.o2 oR hR6
  refine q8 s8 i8 (k := 4) (e0 := ⟨a0, c.1.av, c.1.na, c.1.ys⟩) (e1 := ⟨a1, c.2.1.av, c.2.1.na, c.2.1.ys⟩) (e2 := ⟨a2, c.2.2.1.av, c.2.2.1.na, c.2.2.1.ys⟩) (e3 := ⟨a3, c.2.2.2.av, c.2.2.2.na, c.2.2.2.ys⟩) F7 hc7 hB7 (fun e he => ?_) fun h8 tk8 T F8 K8 hP => ?_
  · simp only [List.mem_cons, List.not_mem_nil, or_false] at he
    rcases he with rfl | rfl | rfl | rfl
    · exact ⟨hled7 (a0, _) (by simp [led4]), gd0.sa, by have := gd0.len; dsimp only; (first | walk_at "om" | omega)⟩
    · exact ⟨hled7 (a1, _) (by simp [led4]), gd1.sa, by have := gd1.len; dsimp only; (first | walk_at "om" | omega)⟩
    · exact ⟨hled7 (a2, _) (by simp [led4]), gd2.sa, by have := gd2.len; dsimp only; (first | walk_at "om" | omega)⟩
    · exact ⟨hled7 (a3, _) (by simp [led4]), gd3.sa, by have := gd3.len; dsimp only; (first | walk_at "om" | omega)⟩
  obtain ⟨T', al, rl, av, na, rv, nr, ys, zs, hTe, hT8, hal8, hrl8, hsa, hia, hrun, nT, nal, nrl, lav, lrv⟩ := hP
  cases hTe
  dsimp only at hrun
  rw [es0_en hes4 hesj] at hen
  obtain ⟨ey, ez⟩ := last_en hes4 hen hrun
  have hmenu := last_menu hgood hen
  have z := hnwok n3 (by simp)
  have hmem : ∀ p ∈ n3.led w, p ∈ RS.leds w [n1, n2, n3] := fun p hp => RS.mem (by simp) hp
  have oe : ∀ p ∈ n3.led w, Off L p.1 := fun p hp => onw p (hmem p hp)
  have he8 : ∀ p ∈ n3.led w, h8.get? p.1 = some p.2 := fun p hp => K8.o1 (oe p hp) (hnw7 p (hmem p hp))
  have hc2' := K8.cell hcL (by simpa using pl_ne0 (L := L) (i := 2) (by decide))
  have hc8 := K8.cell hc7 (by simpa using pl_ne0 (L := L) (i := 1) (by decide))
  have hB8 := K8.o1 oB hB7
  have hled8 : ∀ p ∈ led4 a0 a1 a2 a3 c, h8.get? p.1 = some p.2 := fun p hp => K8.o1 (oled p hp) (hled7 p hp)
  have hes8 : ∀ p ∈ RS.leds w es0, h8.get? p.1 = some p.2 := fun p hp => K8.o1 (oes p hp) (hes7 p hp)
  have hR8 := K8.o1 oR hR7
  have oT := F7.off nT
  have oal := F7.off nal
  subst ey ez
  refine q9 s9 i9 (k := 4) F8 hc2' (fun p hp => ⟨he8 p hp, (oe p hp).l⟩) hT8 hal8 hrl8 hsa hia z.sa z.ia hmenu fun h9 tk9 F9 K9 => ?_
  have he9 : ∀ p ∈ n3.led w, h9.get? p.1 = some p.2 := fun p hp => K9.o1 (oe p hp) (he8 p hp)
  have hc9 := K9.cell hc8 (by simpa using pl_ne0 (L := L) (i := 1) (by decide))
  have hc9' := K9.cell hc2' (by simpa using pl_ne0 (L := L) (i := 2) (by decide))
  refine q10 s10 i10 (k := 4) F9 hc9 (K9.o1 oB hB8) (fun p hp => K9.o1 (oled p hp) (hled8 p hp)) hgood (K9.o1 oR hR8) (by simp) (fun p hp => ⟨K9.o1 (oes p hp) (hes8 p hp), (oes p hp).l⟩) hes4 hesj fun h10 tk10 F10 K10 => ?_
  exact next h10 tk10 n3 T al rl av na F10 (K10.cell hc9' (by simpa using pl_ne0 (L := L) (i := 2) (by decide))) (fun p hp => ⟨K10.o1 (oe p hp) (he9 p hp), oe p hp⟩) z.sa hmenu (K10.o1 oT (K9.o1 oT hT8)) (K10.o1 oal (K9.o1 oal hal8)) hsa lav
end
section
set_option maxRecDepth 100000
set_option maxHeartbeats 0
theorem lawB (w : World) : LawAt w fun body scope qual => ∀ s11 s12 s13 s14 s15 s16 s17 s18 s19 s20 s21 s22 s23 s24 s25 s26, body[11]? = some s11 → body[12]? = some s12 → body[13]? = some s13 → body[14]? = some s14 → body[15]? = some s15 → body[16]? = some s16 → body[17]? = some s17 → body[18]? = some s18 → body[19]? = some s19 → body[20]? = some s20 →
    body[21]? = some s21 → body[22]? = some s22 → body[23]? = some s23 → body[24]? = some s24 → body[25]? = some s25 → body[26]? = some s26 →
    ∀ {prog A g0 hp G D tk o L fa cd T al rl na} {e : RS} {av : List Value} {rest : List Stmt} {Q : Flow → Shared → Prop},
    Fz w A 12 g0 L hp [(Str.ofString "due", .ref T)] → hp.IsCell (L + 2) (some (.ref e.x)) → (∀ p ∈ e.led w, hp.get? p.1 = some p.2 ∧ Off L p.1) → StrsAre e.vs e.ys → InMenu e.ys →
      hp.get? T = some (tu [.ref al, .ref rl]) → hp.get? al = some (lo av na) → StrsAre av e.ys → av.length ≤ 1000 →
    (∀ (hp' : Heap) (tk' : Nat), Fz w A 12 g0 L hp' [(Str.ofString "due", .ref T)] → Q (.ret (.bool true)) ⟨hp', G, D, tk', o⟩) →
    wpAny (model prog w) A (execs (s11 :: s12 :: s13 :: s14 :: s15 :: s16 :: s17 :: s18 :: s19 :: s20 :: s21 :: s22 :: s23 :: s24 :: s25 :: s26 :: rest) (envOfC qual scope L fa cd)) Q NoE ⟨hp, G, D, tk, o⟩ := by
  intro oc od name qual params body scope dV kV doc pm an cdv ct osl ho
  have q11 := seg1112 w _ _ _ _ _ _ _ _ _ _ _ _ _ _ _ ho
  have q13 := seg13 w _ _ _ _ _ _ _ _ _ _ _ _ _ _ _ ho
  have q14 := seg14 w _ _ _ _ _ _ _ _ _ _ _ _ _ _ _ ho
  have q15 := seg15 w _ _ _ _ _ _ _ _ _ _ _ _ _ _ _ ho
  have q16 := seg1618 w _ _ _ _ _ _ _ _ _ _ _ _ _ _ _ ho
  have q19 := seg1920 w _ _ _ _ _ _ _ _ _ _ _ _ _ _ _ ho
  have q21 := seg2123 w _ _ _ _ _ _ _ _ _ _ _ _ _ _ _ ho
  have q24 := seg24 w _ _ _ _ _ _ _ _ _ _ _ _ _ _ _ ho
  have q25 := seg25 w _ _ _ _ _ _ _ _ _ _ _ _ _ _ _ ho
  have q26 := seg26 w _ _ _ _ _ _ _ _ _ _ _ _ _ _ _ ho
  try dsimp only at q11 q13 q14 q15 q16 q19 q21 q24 q25 q26 ⊢
  clear ho
  intro s11 s12 s13 s14 s15 s16 s17 s18 s19 s20 s21 s22 s23 s24 s25 s26 i11 i12 i13 i14 i15 i16 i17 i18 i19 i20 i21 i22 i23 i24 i25 i26
  intro prog A g0 h0 G D tk o L fa cd T al rl na e av rest Q F0 hc0 he0 sa hmenu hT0 hal0 saa lav next
  have oT : Off L T := off_seq F0 hT0 rfl
  have oal : Off L al := off_seq F0 hal0 rfl
  have oe : ∀ p ∈ e.led w, Off L p.1 := fun p hp => (he0 p hp).2
  have hlow : ∀ k ∈ knownOf e.ys, k ∈ lows6 := known_low e.ys [] hmenu (by simp)
  obtain ⟨f1, f2, f3, f4⟩ := search_law hmenu
  refine q11 s11 s12 i11 i12 (k := 4) F0 hT0 hal0 saa hmenu lav fun h1 tk1 Kl kv nk F1 K1 hKl sk lkv => ?_
  have he1 : ∀ p ∈ e.led w, h1.get? p.1 = some p.2 := fun p hp => K1.o1 (oe p hp) (he0 p hp).1
  have hT1 := K1.o1 oT hT0
  have hal1 := K1.o1 oal hal0
  have hc1 := K1.cell hc0 (by simpa using pl_ne0 (L := L) (i := 2) (by decide))
  refine q13 s13 i13 (k := 4) F1 hKl sk hlow lkv fun h2 tk2 Tx tv nt F2 K2 hTx st ltv => ?_
  have he2 : ∀ p ∈ e.led w, h2.get? p.1 = some p.2 := fun p hp => K2.o1 (oe p hp) (he1 p hp)
  have hT2 := K2.o1 oT hT1
  have hal2 := K2.o1 oal hal1
  have hc2 := K2.cell hc1 (by simpa using pl_ne0 (L := L) (i := 2) (by decide))
  have oTx : Off L Tx := off_seq F2 hTx rfl
  refine q14 s14 i14 (k := 4) F2 hTx st hlow ltv fun h3 tk3 F3 K3 => ?_
  have he3 : ∀ p ∈ e.led w, h3.get? p.1 = some p.2 := fun p hp => K3.o1 (oe p hp) (he2 p hp)
  have hT3 := K3.o1 oT hT2
  have hal3 := K3.o1 oal hal2
  have hc3 := K3.cell hc2 (by simpa using pl_ne0 (L := L) (i := 2) (by decide))
  refine q15 s15 i15 (k := 4) F3 (K3.o1 oTx hTx) st hlow ltv fun h4 tk4 Rd nr qs F4 K4 hRd hqs hsay => ?_
  have he4 : ∀ p ∈ e.led w, h4.get? p.1 = some p.2 := fun p hp => K4.o1 (oe p hp) (he3 p hp)
  have hT4 := K4.o1 oT hT3
  have hal4 := K4.o1 oal hal3
  have hc4 := K4.cell hc3 (by simpa using pl_ne0 (L := L) (i := 2) (by decide))
  have oRd : Off L Rd := off_seq F4 hRd rfl
  have oqs : ∀ p ∈ RL.leds qs, Off L p.1 := fun p hp => F3.off (hqs p hp).2
  refine q16 s16 s17 s18 i16 i17 i18 (k := 4) F4 fun h5 tk5 Ly Nm lv nv nl nn F5 K5 hLy hNm sl sn => ?_
  have he5 : ∀ p ∈ e.led w, h5.get? p.1 = some p.2 := fun p hp => K5.o1 (oe p hp) (he4 p hp)
  have hT5 := K5.o1 oT hT4
  have hal5 := K5.o1 oal hal4
  have hc5 := K5.cell hc4 (by simpa using pl_ne0 (L := L) (i := 2) (by decide))
  have oLy : Off L Ly := off_seq F5 hLy rfl
  have oNm : Off L Nm := off_seq F5 hNm rfl
  have hql : qs.length ≤ 1000 := by
    have e1 := congrArg List.length hsay
    have e2 := sk.length
    simp only [List.length_map] at e1
    (first | walk_at "om" | omega)
  refine q19 s19 s20 i19 i20 (k := 4) F5 hNm sn (K5.o1 oRd hRd) (fun p hp => K5.o1 (oqs p hp) (hqs p hp).1) hsay hlow hql fun h6 tk6 Td ob F6 K6 hc3' hTd hTdn hD => ?_
  have he6 : ∀ p ∈ e.led w, h6.get? p.1 = some p.2 := fun p hp => K6.o3 (oe p hp) (he5 p hp)
  have hT6 := K6.o3 oT hT5
  have hal6 := K6.o3 oal hal5
  have hc6 := K6.cell hc5 (by
    simp only [List.mem_cons, List.not_mem_nil, or_false, not_or]
    exact ⟨pl_ne0 (by decide), pl_ne (by decide), pl_ne (by decide)⟩)
  have hLy6 := K6.o3 oLy hLy
  have hNm6 := K6.o3 oNm hNm
  have oTd : Off L Td := F5.off hTdn
  refine q21 s21 s22 s23 i21 i22 i23 (k := 4) F6 hc6 (fun p hp => ⟨he6 p hp, (oe p hp).l⟩) sa hmenu f1 fun h7 tk7 Sp sv nS F7 K7 hSp ssv lsv => ?_
  have he7 : ∀ p ∈ e.led w, h7.get? p.1 = some p.2 := fun p hp => K7.o1 (oe p hp) (he6 p hp)
  have hT7 := K7.o1 oT hT6
  have hal7 := K7.o1 oal hal6
  have hc7 := K7.cell hc6 (by simpa using pl_ne0 (L := L) (i := 2) (by decide))
  have hc7' := K7.cell hc3' (by simpa using pl_ne0 (L := L) (i := 3) (by decide))
  have hLy7 := K7.o1 oLy hLy6
  have hNm7 := K7.o1 oNm hNm6
  have hTd7 := K7.o1 oTd hTd
  have oSp : Off L Sp := off_seq F7 hSp rfl
  refine q24 s24 i24 (k := 4) F7 hc7' hTd7 oTd.l hD hNm7 sn hSp ssv f2 fun h8 tk8 F8 K8 => ?_
  have he8 : ∀ p ∈ e.led w, h8.get? p.1 = some p.2 := fun p hp => K8.o1 (oe p hp) (he7 p hp)
  have hT8 := K8.o1 oT hT7
  have hal8 := K8.o1 oal hal7
  have hc8 := K8.cell hc7 (by simpa using pl_ne0 (L := L) (i := 2) (by decide))
  refine q25 s25 i25 (k := 4) F8 hc8 (fun p hp => ⟨he8 p hp, (oe p hp).l⟩) sa hmenu (K8.o1 oLy hLy7) sl (K8.o1 oSp hSp) ssv f3 lsv f4 fun h9 tk9 F9 K9 => ?_
  have he9 : ∀ p ∈ e.led w, h9.get? p.1 = some p.2 := fun p hp => K9.o1 (oe p hp) (he8 p hp)
  refine q26 s26 i26 (k := 4) F9 (K9.cell hc8 (by simpa using pl_ne0 (L := L) (i := 2) (by decide))) (fun p hp => ⟨he9 p hp, (oe p hp).l⟩) sa (K9.o1 oT hT8) (K9.o1 oal hal8) saa fun h10 tk10 F10 K10 => ?_
  exact next h10 tk10 F10
theorem law_all (w : World) : LawAt w fun body scope qual => ∀ {prog A g0 hp G D tk o L fa cd sl} {ws : List Value} {ns : List Int} {Q : Flow → Shared → Prop},
    Fz w A 12 g0 L hp [(Str.ofString "script", .ref sl)] → g0.IsList sl ws.toArray → IntsAre ws ns → ws.length ≤ 100 →
    (∀ (hp' : Heap) (tk' : Nat) (kn' : Kns), Fz w A 12 g0 L hp' kn' → Q (.ret (.bool true)) ⟨hp', G, D, tk', o⟩) →
    wpAny (model prog w) A (execs body (envOfC qual scope L fa cd)) Q NoE ⟨hp, G, D, tk, o⟩ := by
  intro oc od name qual params body scope dV kV doc pm an cdv ct osl ho
  have qA := lawA w _ _ _ _ _ _ _ _ _ _ _ _ _ _ _ ho
  have qB := lawB w _ _ _ _ _ _ _ _ _ _ _ _ _ _ _ ho
  obtain ⟨s0, s1, s2, s3, s4, s5, s6, s7, s8, s9, s10, s11, s12, s13, s14, s15, s16, s17, s18, s19, s20, s21, s22, s23, s24, s25, s26, eb⟩ := law_parts w _ _ _ _ _ _ _ _ _ _ _ _ _ _ _ ho
  try dsimp only at qA qB ⊢
  clear ho
  subst eb
  intro prog A g0 hp G D tk o L fa cd sl ws ns Q F hsl hws hlen next
  refine qA s0 s1 s2 s3 s4 s5 s6 s7 s8 s9 s10 rfl rfl rfl rfl rfl rfl rfl rfl rfl rfl rfl F hsl hws hlen fun h1 tk1 e T al rl av na F1 hc he sa hm hT hal saa lav => ?_
  exact qB s11 s12 s13 s14 s15 s16 s17 s18 s19 s20 s21 s22 s23 s24 s25 s26 rfl rfl rfl rfl rfl rfl rfl rfl rfl rfl rfl rfl rfl rfl rfl rfl F1 hc he sa hm hT hal saa lav fun h2 tk2 F2 => next h2 tk2 _ F2
end
section
set_option maxRecDepth 100000
set_option maxHeartbeats 0
theorem LawAt.use {w : World} {P : List Stmt → Scope → Str → Prop} {R : Prop} {oc od name qual params body scope dV kV doc pm an cdv ct osl} (h : LawAt w P) (ho : (pre.heap_1 w.params).lookup 184 = some ⟨oc, od, .func (fnOf name qual params body scope dV kV doc pm an cdv ct), osl⟩)
    (k : P body scope qual → R) : R := k (h oc od name qual params body scope dV kV doc pm an cdv ct osl ho)
theorem LawAt.use2 {P : World → List Stmt → Scope → Str → Prop} {R : Prop} (h : ∀ w, LawAt w (P w)) {w : World} {gh : Heap} (X0 : (pre.heap_1 w.params).In gh) {oc od name qual params body scope dV kV doc pm an cdv ct osl} (ho : (pre.heap_1 w.params).lookup 184 = some ⟨oc, od, .func (fnOf name qual params body scope dV kV doc pm an cdv ct), osl⟩)
    (k : P w body scope qual → R) : R := k (h w oc od name qual params body scope dV kV doc pm an cdv ct osl ho)
theorem ints_len {ws : List Value} {ns : List Int} (h : IntsAre ws ns) : ws.length = ns.length := by
  induction h with
  | nil => rfl
  | cons _ _ _ ih => simp [ih]
noncomputable def holes (L : Addr) : List Addr := [L, L + 1, L + 2, L + 3, L + 4]
theorem law_fz {w : World} {env : Env} {gh h1 : Heap} {L sl : Addr} {m : Str → Option Value} {w3 w2 w1 w0 ob : Obj} {p : Program} {lo : List Str} {mean : ExcName → Option Value} {mg mb : Str → Option Value} {v3 v2 v1 v0 : Option Value}
    (F : Fr gh L h1 m) (N : News gh L h1 [(L + 1 + 1 + 1 + 1, w3), (L + 1 + 1 + 1, w2), (L + 1 + 1, w1), (L + 1, w0), (113, ob)]) (X : (pre.heap_1 w.params).In gh) (T : Top p lo mean mg mb gh) (l0 : 113 < L)
    (c3 : w3.data = .cell v3) (c2 : w2.data = .cell v2) (c1 : w1.data = .cell v1) (c0 : w0.data = .cell v0) (hm : m (Str.ofString "script") = some (.ref sl)) :
    Fz w (callerA.deeper env) 12 (hideAll h1 (holes L)) L h1 [(Str.ofString "script", .ref sl)] ∧ (∀ b o, gh.get? b = some o → (hideAll h1 (holes L)).get? b = some o) ∧ (hideAll h1 (holes L)).get? 113 = some ob := by
  have n4 := N (L + 4, w3) (.head _)
  have n3 := N (L + 3, w2) (.tail _ (.head _))
  have n2 := N (L + 2, w1) (.tail _ (.tail _ (.head _)))
  have n1 := N (L + 1, w0) (.tail _ (.tail _ (.tail _ (.head _))))
  have nt := N (113, ob) (.tail _ (.tail _ (.tail _ (.tail _ (.head _)))))
  have gL : gh.get? L = none := by
    cases q : gh.get? L with
    | none => rfl
    | some o => exact absurd (Nat.lt_of_lt_of_le (Heap.lt_size q) F.above) (Nat.lt_irrefl _)
  have hk : ∀ b o, gh.get? b = some o → (hideAll h1 (holes L)).get? b = some o := fun b o e => hideAll_get _ (F.keep b o e) (fun hm => by
    simp only [holes, List.mem_cons, List.not_mem_nil, or_false] at hm
    rcases hm with rfl | rfl | rfl | rfl | rfl
    · rw [gL] at e; cases e
    · rw [n1.2.2] at e; cases e
    · rw [n2.2.2] at e; cases e
    · rw [n3.2.2] at e; cases e
    · rw [n4.2.2] at e; cases e)
  refine ⟨⟨⟨X.keeps hk, ⟨_, _, _, _, (topRead_of T).keeps hk⟩, rfl, (by decide : 1 + claimMargin + 1 + 12 < recursionLimit), (by decide : 4 + 3 + 8 * 12 < cLine)⟩, fun b o e => of_hideAll _ e, fun i hi => hideAll_none _ ?_, ⟨m, F.ns, fun x v e => ?_⟩, fun i h1 h4 => ?_⟩, hk, hideAll_get _ nt.1 fun hm => ?_⟩
  · have h5 : i = 0 ∨ i = 1 ∨ i = 2 ∨ i = 3 ∨ i = 4 := by (first | walk_at "om" | omega)
    rcases h5 with rfl | rfl | rfl | rfl | rfl <;> simp [holes]
  · rw [List.lookup_cons] at e
    cases q : (x == Str.ofString "script") with
    | true => rw [q] at e; cases e; rw [eq_of_beq q]; exact hm
    | false => rw [q] at e; cases e
  · have h5 : i = 1 ∨ i = 2 ∨ i = 3 ∨ i = 4 := by (first | walk_at "om" | omega)
    rcases h5 with rfl | rfl | rfl | rfl
    · exact ⟨_, _, n1.1, c0⟩
    · exact ⟨_, _, n2.1, c1⟩
    · exact ⟨_, _, n3.1, c2⟩
    · exact ⟨_, _, n4.1, c3⟩
  · have l0' : @LT.lt Nat _ 113 L := l0
    simp only [holes, List.mem_cons, List.not_mem_nil, or_false] at hm
    rcases hm with q | q | q | q | q
    · exact absurd (show (113 : Nat) = L from q) (Nat.ne_of_lt l0')
    · exact absurd (show (113 : Nat) = L + 1 from q) (Nat.ne_of_lt (Nat.lt_add_right 1 l0'))
    · exact absurd (show (113 : Nat) = L + 2 from q) (Nat.ne_of_lt (Nat.lt_add_right 2 l0'))
    · exact absurd (show (113 : Nat) = L + 3 from q) (Nat.ne_of_lt (Nat.lt_add_right 3 l0'))
    · exact absurd (show (113 : Nat) = L + 4 from q) (Nat.ne_of_lt (Nat.lt_add_right 4 l0'))
theorem fr_of {w : World} {A : Around} {k : Nat} {g0 gh hp : Heap} {L : Addr} {kn : Kns} (F : Fz w A k g0 L hp kn) (hk : ∀ b o, gh.get? b = some o → g0.get? b = some o) (ha : gh.objs.size ≤ L) : ∃ m, Fr gh L hp m := by
  obtain ⟨m, a, b⟩ := F.ns
  exact ⟨m, a, fun b o e => F.keep b o (hk b o e), ha⟩
/-- a goal behind a wall: the elaborator does not walk into it -/
structure Wp (p : Prop) : Prop where
  out : p
structure LawSays (w : World) (body : List Stmt) (scope : Scope) (qual : Str) : Prop where
  run : ∀ {prog A g0 hp G D tk o L fa cd sl} {ws : List Value} {ns : List Int} {Q : Flow → Shared → Prop},
    Fz w A 12 g0 L hp [(Str.ofString "script", .ref sl)] → g0.IsList sl ws.toArray → IntsAre ws ns → ws.length ≤ 100 →
    (∀ (hp' : Heap) (tk' : Nat) (kn' : Kns), Fz w A 12 g0 L hp' kn' → Q (.ret (.bool true)) ⟨hp', G, D, tk', o⟩) →
    wpAny (model prog w) A (execs body (envOfC qual scope L fa cd)) Q NoE ⟨hp, G, D, tk, o⟩
theorem law_says (w : World) : LawAt w (LawSays w) := fun _ _ _ _ _ _ _ _ _ _ _ _ _ _ _ ho => ⟨law_all w _ _ _ _ _ _ _ _ _ _ _ _ _ _ _ ho⟩
theorem law_run {w : World} {body : List Stmt} {scope : Scope} {qual : Str} (h : LawSays w body scope qual) {prog A g0 hp G D tk o L fa cd sl} {ws : List Value} {ns : List Int} {Q : Flow → Shared → Prop} {E : Value → Shared → Prop}
    (F : Fz w A 12 g0 L hp [(Str.ofString "script", .ref sl)]) (hs : g0.IsList sl ws.toArray) (hi : IntsAre ws ns) (hl : ws.length ≤ 100)
    (hq : ∀ (hp' : Heap) (tk' : Nat) (kn' : Kns), Fz w A 12 g0 L hp' kn' → Q (.ret (.bool true)) ⟨hp', G, D, tk', o⟩) :
    Wp (wpAny (model prog w) A (execs body (envOfC qual scope L fa cd)) Q E ⟨hp, G, D, tk, o⟩) := ⟨wpAny_mono (h.run F hs hi hl hq) (fun _ _ h => h) (fun _ _ e => e.elim)⟩
end
end Mine
end
open PySem PySem.W PySem.Calls PyProof.Rows PySem.SeqAt
set_option maxRecDepth 100000
set_option maxHeartbeats 0
theorem PySem.Challenge.cw_in0168_01_holds : PySem.Challenge.rw_in0168_01.Holds := by
  exact Mine.hd rfl rfl rfl (by
    k_go0
    with_reducible refine Mine.Wp.out ?_
    refine' Mine.LawAt.use2 Mine.law_says (by assumption) ?ho ?_
    case ho => k_is
    intro hlaw
    obtain ⟨hF, hk, h113⟩ := Mine.law_fz (by assumption) (by assumption) (by assumption) (by assumption) (by assumption) (by assumption) (by assumption) (by assumption) (by assumption) (by rfl)
    refine Mine.law_run hlaw hF (lifted.at fun ob e => hk _ _ e) (by assumption) ?_ fun hp' tk' kn' F2 => ?_
    · have hl := Mine.ints_len (by assumption)
      (first | walk_at "om" | omega)
    · obtain ⟨m', hFr⟩ := Mine.fr_of F2 hk (PyProof.Rows.Fr.above (by assumption))
      refine ⟨?_, ⟨_, F2.keep _ _ h113⟩, True.intro⟩
      refine goodW_bool hFr (by with_reducible assumption) (raisesW_false ?_) ?_
      · wrow_none_raised
      · wrow_post)
