import PyProof.Rows.All
import Wide.All
import OpenK.AllK
import Wide.FinOn
import PySem.Challenge.RW_wn0077_01
open PySem PySem.W PyProof.Rows
set_option Elab.async false
set_option maxRecDepth 100000
set_option maxHeartbeats 8000000
set_option rowWalk.seconds 0
set_option compiler.extract_closed false
set_option linter.unusedVariables false

namespace Mine
/-- the program with its texts as figures -/
noncomputable def pv : Program :=
  letI x : Program := _
  haveI h : some PySem.Challenge.pw_wn0077_01 = some x := by
    unfold PySem.Challenge.pw_wn0077_01
    simp only [Str.ofString_eq_byList, Str.ofStringByList, String.reduceToList, List.map_cons, List.map_nil, Char.reduceToNat]
    exact rfl
  x
/-- the law over it -/
noncomputable def rv : OpenLaw :=
  { prog := pv, name := ⟨#[108, 97, 119]⟩, about := [⟨#[112, 114, 101, 116, 116, 121, 95, 102, 108, 97, 103, 115]⟩], foot := 8, most := some 63, bound := none, writes := false }
theorem rv_eq : PySem.Challenge.rw_wn0077_01 = rv := by kernel_rfl
section
local macro_rules | `(tactic| o_head $_) => `(tactic| assumption)
/-- lays the written part of the heap (kk.heap_1) and nothing more -/
theorem kk (h0 : PySem.Challenge.rw_wn0077_01.row.Holds) : PySem.Challenge.rw_wn0077_01.row.Holds := by k_head
end
noncomputable def Kv : Params → Frag := fun P =>
  letI x : Frag := _
  haveI h : some (kk.heap_1 P) = some x := by
    unfold kk.heap_1
    simp only [Str.ofString_eq_byList, Str.ofStringByList, String.reduceToList, List.map_cons, List.map_nil, Char.reduceToNat]
    simp only [PySem.W.SL.e14018661285674007319x4, PySem.W.SL.e7097527257260152453x26, PySem.W.SL.e2766695959194262286x5, PySem.W.SL.e5856160107412720595x4, PySem.W.SL.e7174869446012820540x8, PySem.W.SL.e17162191345867700912x4, PySem.W.SL.e2742458400755230247x6, PySem.W.SL.e11443829558043349243x14, PySem.W.SL.e14755015743595814543x17, PySem.W.SL.e6511155373996960695x17, PySem.W.SL.e12411053484034534018x21, PySem.W.SL.e10220274742760427390x26]
    exact rfl
  x
noncomputable abbrev keptOf (p : Program) : List Stmt := [1, 2, 4, 6, 7, 8, 9, 10, 11, 13, 14, 15, 16, 17, 18, 19, 20].filterMap fun i => p.main.body[i]?
noncomputable def q0 : Program :=
  letI x1 : Stmt := _
  letI x2 : Stmt := _
  letI x4 : Stmt := _
  letI x6 : Stmt := _
  letI x7 : Stmt := _
  letI x8 : Stmt := _
  letI x9 : Stmt := _
  letI x10 : Stmt := _
  letI x11 : Stmt := _
  letI x13 : Stmt := _
  letI x14 : Stmt := _
  letI x15 : Stmt := _
  letI x16 : Stmt := _
  letI x17 : Stmt := _
  letI x18 : Stmt := _
  letI x19 : Stmt := _
  letI x20 : Stmt := _
  haveI h : keptOf PySem.Challenge.pw_wn0077_01 = [x1, x2, x4, x6, x7, x8, x9, x10, x11, x13, x14, x15, x16, x17, x18, x19, x20] := rfl
  { PySem.Challenge.pw_wn0077_01 with main := { PySem.Challenge.pw_wn0077_01.main with body := [x1, x2, x4, x6, x7, x8, x9, x10, x11, x13, x14, x15, x16, x17, x18, x19, x20] } }
noncomputable abbrev hookV : Hook := kmHook Kv [2, 3, 15, 16, 18, 19, 21, 22, 30, 32, 33, 35, 36, 37, 39, 40, 42, 43, 44, 46, 47, 49, 50, 51, 53, 54, 56, 57, 58, 59, 60, 61, 62, 65, 67, 68, 70, 71, 72, 74, 75, 77, 78, 79, 81, 82, 84, 85, 86, 88, 89, 91, 92, 93, 95, 96, 98, 99, 100, 102, 103, 105, 106, 107, 109, 110, 112, 113, 114, 116, 117, 119, 120, 121, 124, 125, 126, 128, 129, 131, 132, 133, 135, 136, 138, 139, 140, 142, 143, 145, 146, 147, 150, 151, 152, 155, 156] (fun _ => by kernel_rfl) [127]
section
local macro_rules | `(tactic| o_head (kmHook $_ $_ $_ $_)) => `(tactic| o_head Mine.hookV)
open_top hv for (
  letI m : Module := _
  letI g : Given := _
  haveI h : pv = { main := m, modules := [], parses := [], absent := [], harvested := [], given := g } := rfl
  { prog := { main := m, modules := [], parses := [], absent := [], harvested := [], given := g }, name := ⟨#[108, 97, 119]⟩, about := [⟨#[112, 114, 101, 116, 116, 121, 95, 102, 108, 97, 103, 115]⟩], foot := 8, most := some 63, bound := none, writes := false } : OpenLaw)
end
theorem hd :
    letI d : DefRec := _
    haveI h : defOf q0 (Str.ofString "law") = some (d, []) := rfl
    WalkO q0 [Str.ofString "COMPILER_FLAG_NAMES"] (XL q0 []) (kmHook kk.heap_1 [2, 3, 15, 16, 18, 19, 21, 22, 30, 32, 33, 35, 36, 37, 39, 40, 42, 43, 44, 46, 47, 49, 50, 51, 53, 54, 56, 57, 58, 59, 60, 61, 62, 65, 67, 68, 70, 71, 72, 74, 75, 77, 78, 79, 81, 82, 84, 85, 86, 88, 89, 91, 92, 93, 95, 96, 98, 99, 100, 102, 103, 105, 106, 107, 109, 110, 112, 113, 114, 116, 117, 119, 120, 121, 124, 125, 126, 128, 129, 131, 132, 133, 135, 136, 138, 139, 140, 142, 143, 145, 146, 147, 150, 151, 152, 155, 156] (fun _ => by kernel_rfl) [127]).says PySem.Challenge.rw_wn0077_01.row.toRowW d [] (fun f vs => PySem.call f vs) → PySem.Challenge.rw_wn0077_01.Holds := by
  intro h
  rw [rv_eq]
  with_unfolding_all exact hv (Eq.mp (by kernel_rfl) h)
end Mine
namespace Mine
open PySem.Calls
theorem fill_now : ∀ (w : World) (h : Heap), (kk.heap_1 w.params).In h → PySem.Challenge.rw_wn0077_01 = PySem.Challenge.rw_wn0077_01 → True := by
  k_fill
  exact fun _ _ _ _ => trivial
end Mine

theorem Mine.reset_M0 : True ∧ True := by
  w_top off
  walk1 <;> trivial
section
open PySem PySem.W PyProof.Rows PySem.Calls
set_option Elab.async false
set_option maxRecDepth 100000
set_option maxHeartbeats 8000000
namespace Mine

/-- a goal held whole, while a fact is taken apart -/
theorem hideG {G : Prop} (h : ∀ g : Prop, (G → g) → g) : G := h G id
/-- an end held whole, while a tree is walked -/
theorem hold {α : Type} {M : Model} {A : Around} {t : Sem α} {Q : α → Shared → Prop} {E : Value → Shared → Prop} {s : Shared} (h : ∀ R : α → Shared → Prop, (∀ a s', Q a s' → R a s') → wpAny M A t R E s) : wpAny M A t Q E s := h Q fun _ _ x => x
/-- the program of the row -/
noncomputable abbrev PG : Program := PySem.Challenge.rw_wn0077_01.row.prog
/-- the written part of the heap behind the top -/
noncomputable abbrev KF (w : World) : Frag := kk.heap_1 w.params

/-- what the ground heap holds -/
structure Gd (w : World) (g : Heap) : Prop where
  X : (kk.heap_1 w.params).In g
  T : ∃ p loose mean mg mb, Top p loose mean mg mb g

theorem Gd.keeps {w : World} {g h : Heap} (G : Gd w g) (k : ∀ b o, g.get? b = some o → h.get? b = some o) : Gd w h :=
  ⟨G.X.keeps k, let ⟨p, loose, mean, mg, mb, T⟩ := G.T; ⟨p, loose, mean, mg, mb, T.keeps k⟩⟩

structure AOk (A : Around) (k : Nat) : Prop where
  hand : A.handled = none
  depth : A.depth + k < recursionLimit
  units : A.units + 8 * k < cLine

theorem AOk.room {A : Around} {k : Nat} (h : AOk A k) : A.depth < recursionLimit := Nat.lt_of_le_of_lt (Nat.le_add_right _ _) h.depth
theorem AOk.unit {A : Around} {k : Nat} (h : AOk A k) : A.units < cLine := Nat.lt_of_le_of_lt (Nat.le_add_right _ _) h.units
theorem AOk.deeper {A : Around} {k : Nat} {env : Env} (h : AOk A (k + 1)) : AOk (A.deeper env) k :=
  ⟨h.hand, by have := h.depth; show A.depth + 1 + k < _; (first | lia | omega), by have := h.units; show A.units + 3 + 8 * k < _; (first | lia | omega)⟩
theorem AOk.in1 {A : Around} {k : Nat} (h : AOk A (k + 1)) : AOk A.in1 k :=
  ⟨h.hand, by have := h.depth; show A.depth + k < _; (first | lia | omega), by have := h.units; show A.units + 1 + 8 * k < _; (first | lia | omega)⟩
theorem AOk.le {A : Around} {j k : Nat} (h : AOk A k) (hj : j ≤ k) : AOk A j :=
  ⟨h.hand, by have := h.depth; (first | lia | omega), by have := h.units; (first | lia | omega)⟩

/-- the heap has only grown -/
structure Grow (h h' : Heap) : Prop where
  size : h.objs.size ≤ h'.objs.size
  keep : ∀ b o, h.get? b = some o → h'.get? b = some o
theorem Grow.refl (h : Heap) : Grow h h := ⟨Nat.le_refl _, fun _ _ e => e⟩
theorem Grow.trans {a b c : Heap} (x : Grow a b) (y : Grow b c) : Grow a c := ⟨Nat.le_trans x.size y.size, fun b o e => y.keep b o (x.keep b o e)⟩

/-- the heap has changed within [lo, hi) alone -/
structure Keep (lo hi : Nat) (h h' : Heap) : Prop where
  size : h.objs.size ≤ h'.objs.size
  keep : ∀ (b : Nat) (o : Obj), h.get? b = some o → (b < lo ∨ hi ≤ b) → h'.get? b = some o
theorem Keep.refl (lo hi : Nat) (h : Heap) : Keep lo hi h h := ⟨Nat.le_refl _, fun _ _ e _ => e⟩
theorem Keep.trans {lo hi : Nat} {a b c : Heap} (x : Keep lo hi a b) (y : Keep lo hi b c) : Keep lo hi a c := ⟨Nat.le_trans x.size y.size, fun b o e r => y.keep b o (x.keep b o e r) r⟩
theorem Keep.wider {lo hi lo' hi' : Nat} {a b : Heap} (x : Keep lo hi a b) (h1 : lo' ≤ lo) (h2 : hi ≤ hi') : Keep lo' hi' a b := ⟨x.size, fun b o e r => x.keep b o e (by (first | lia | omega))⟩
theorem Grow.toKeep {a b : Heap} (x : Grow a b) (lo hi : Nat) : Keep lo hi a b := ⟨x.size, fun b o e _ => x.keep b o e⟩

theorem Fr.grow {h₀ h h' : Heap} {L : Addr} {m : Str → Option Value} (F : Fr h₀ L h m) (x : Grow h h') : Fr h₀ L h' m :=
  ⟨F.ns.keeps x.keep, fun b o e => x.keep b o (F.keep b o e), F.above⟩
theorem News.grow {h₀ h h' : Heap} {L : Addr} {news : List (Addr × Obj)} (N : News h₀ L h news) (x : Grow h h') : News h₀ L h' news :=
  fun p hp => ⟨x.keep _ _ (N p hp).1, (N p hp).2⟩

theorem enterK {prog : Program} {w : World} {A : Around} {R : Result → Shared → Prop} {s : Shared} {K : Frag} {h₀ : Heap} {news : List (Addr × Obj)}
    {name qual : Str} {params : Arguments} {body : List Stmt} {scope : Scope} {dV kV doc pm cdv ct oc : Value} {an od : Option Addr} {osl : Array (Option Value)} {f : Addr} {args : Args} {binds : List (Str × Value)}
    (keep : ∀ b o, h₀.get? b = some o → s.heap.get? b = some o) (hsz : h₀.objs.size ≤ s.heap.objs.size)
    (N : ∀ p ∈ news, s.heap.get? p.1 = some p.2 ∧ h₀.get? p.1 = none)
    (X : K.In h₀) (hlim : h₀.NoLimit)
    (ho : K.lookup f = some ⟨oc, od, .func (fnOf name qual params body scope dV kV doc pm an cdv ct), osl⟩) (hcd : codeIn K cdv qual = true) (hroom : A.depth < recursionLimit)
    (hbind : BindsTo s (fnOf name qual params body scope dV kV doc pm an cdv ct) args binds) (hloc : ∀ y ∈ binds, scope.names.lookup y.1 = some .local)
    (h : ∀ L' h₁ tk, s.toks ≤ tk → Fr h₀ L' h₁ (fun y => binds.reverse.lookup y) → News h₀ L' h₁ news → L' = s.heap.objs.size → L' < h₁.objs.size → (∀ b o, s.heap.get? b = some o → h₁.get? b = some o) →
      wpAny (model prog w) (A.deeper (envOf qual scope L' f cdv)) (execs body (envOf qual scope L' f cdv))
        (fun fl s' => R (.ok (.ret (match fl with | .ret v => v | _ => .none))) s') (fun _ _ => False)
        { s with heap := h₁, toks := tk })
    (hco : scope.isCoroutine = false) (hgen : scope.isGenerator = false) (hk : scope.kind = .function)
    (hcell : ∀ x ∈ scope.names, x.2 ≠ .cell) : codeAny (model prog w) A (.call (.ref f) args) R s := by
  refine codeAny_call_def (fd := fnOf name qual params body scope dV kV doc pm an cdv ct) (body := body) (binds := binds) hroom (keep _ _ (X _ _ ho)) rfl (hlim.keeps keep) ((codeRec_of X hcd).keeps keep) rfl hbind hcell hloc (fun h₁ hns hk₁ => ?_) hco hgen hk
  refine wpAny_mono (h _ h₁ _ (Nat.le_add_right _ _) ⟨hns, fun b o e => hk₁ b o (keep b o e), hsz⟩ (fun p hp => ⟨hk₁ _ _ (N p hp).1, Nat.ne_of_lt (Heap.lt_size (N p hp).1), (N p hp).2⟩) rfl hns.lt hk₁) (fun _ _ x => x) fun _ _ x => x.elim

end Mine

end

theorem Mine.reset_S0 : True ∧ True := by
  w_top off
  walk1 <;> trivial
section
open PySem PySem.W PyProof.Rows PySem.Calls
set_option Elab.async false
namespace Mine
/-- a text by its signs' numbers -/
noncomputable def sx (l : List Nat) : PySem.Str := ⟨l.toArray⟩
theorem sx_len (l : List Nat) : (sx l).length = l.length := by simp [sx, Str.length]
theorem sx_toList (l : List Nat) : (sx l).cps.toList = l := by simp [sx]
theorem sx_app (a b : List Nat) : sx a ++ sx b = sx (a ++ b) := by
  show (⟨a.toArray ++ b.toArray⟩ : PySem.Str) = ⟨(a ++ b).toArray⟩
  simp
theorem sx_inj {a b : List Nat} (h : sx a = sx b) : a = b := by
  have := congrArg (fun x => x.cps.toList) h
  simpa [sx_toList] using this
theorem sx_of (x : PySem.Str) : sx x.cps.toList = x := by cases x; simp [sx]

/-- each sign c of l becomes z -/
noncomputable def sub1 (c : Nat) (z : List Nat) (l : List Nat) : List Nat := l.flatMap fun k => if k = c then z else [k]
theorem sub1_free {c : Nat} {z : List Nat} : ∀ {l : List Nat}, c ∉ l → sub1 c z l = l
  | [], _ => rfl
  | k :: r, h => by
    have h1 : ¬ k = c := fun e => h (e ▸ List.mem_cons_self ..)
    have := sub1_free (c := c) (z := z) (l := r) fun m => h (List.mem_cons_of_mem _ m)
    unfold sub1 at this ⊢
    rw [List.flatMap_cons, if_neg h1, this]; rfl
theorem sub1_app (c : Nat) (z a b : List Nat) : sub1 c z (a ++ b) = sub1 c z a ++ sub1 c z b := by unfold sub1; rw [List.flatMap_append]
theorem sub1_join (c : Nat) (z : PySem.Str) : ∀ parts : List PySem.Str, (∀ p ∈ parts, c ∉ p.cps.toList) → sub1 c z.cps.toList (Str.join ⟨#[c]⟩ parts).cps.toList = (Str.join z parts).cps.toList
  | [], _ => rfl
  | [p], h => sub1_free (h p (List.mem_singleton.mpr rfl))
  | p :: q :: r, h => by
    have ih := sub1_join c z (q :: r) fun a ha => h a (List.mem_cons_of_mem _ ha)
    show sub1 c z.cps.toList (p ++ ⟨#[c]⟩ ++ Str.join ⟨#[c]⟩ (q :: r)).cps.toList = (p ++ z ++ Str.join z (q :: r)).cps.toList
    simp only [Str.cps_append, Array.toList_append]
    rw [sub1_app, sub1_app, ih, sub1_free (h p (List.mem_cons_self ..))]
    show p.cps.toList ++ sub1 c z.cps.toList [c] ++ _ = _
    have : sub1 c z.cps.toList [c] = z.cps.toList := by simp [sub1]
    rw [this]
theorem replace_sx (l z : List Nat) (c : Nat) : Txt.replace (sx l) (sx [c]) (sx z) = sx (sub1 c z l) := by
  have h : (Txt.replace (sx l) ⟨#[c]⟩ (sx z)).cps.toList = sub1 c z l := by
    rw [StrLaws.replace_one, ← sub1_join c _ _ (StrLaws.split_free _ c), StrLaws.join_split, sx_toList, sx_toList]
  have e := sx_of (Txt.replace (sx l) ⟨#[c]⟩ (sx z))
  rw [h] at e
  exact e.symm
theorem found_sx (l : List Nat) (c : Nat) : (Builtin.Str.occurrences (sx l) (sx [c]) 0 (sx l).length 1).isEmpty = decide (c ∉ l) := by
  have h := StrLaws.found_one (sx l) c
  rw [sx_toList] at h
  have e : (sx [c]) = ⟨#[c]⟩ := rfl
  rw [e]
  cases q : (Builtin.Str.occurrences (sx l) ⟨#[c]⟩ 0 (sx l).length 1).isEmpty <;> rw [q] at h <;> simp_all

theorem mul_sx (l : List Nat) (n : Nat) : Txt.mul (sx l) (n : Int) = sx (List.replicate n l).flatten := by
  unfold Txt.mul
  by_cases h0 : n = 0
  · subst h0; rfl
  rw [if_neg (by (first | lia | omega))]
  by_cases h1 : n = 1
  · subst h1
    simp
  by_cases hl : (sx l).length = 0
  · have hl' : l = [] := by rw [sx_len] at hl; exact List.eq_nil_of_length_eq_zero hl
    subst hl'
    rw [if_pos (by simp [hl])]
    congr 1
    simp
  · rw [if_neg (by simp only [Bool.or_eq_true, beq_iff_eq, not_or]; exact ⟨by (first | lia | omega), hl⟩)]
    have e : ∀ (k : Nat) (acc : List Nat), (List.replicate k (sx l).cps).foldl (· ++ ·) acc.toArray = (acc ++ (List.replicate k l).flatten).toArray := by
      intro k
      induction k with
      | zero => intro acc; simp
      | succ k ih =>
        intro acc
        rw [List.replicate_succ, List.foldl_cons]
        have : acc.toArray ++ (sx l).cps = (acc ++ l).toArray := by simp [sx]
        rw [this, ih, List.replicate_succ, List.flatten_cons, List.append_assoc]
    have := e n []
    simp only [List.nil_append] at this
    rw [Int.toNat_natCast]
    show (⟨_⟩ : PySem.Str) = ⟨_⟩
    rw [show (#[] : Array Nat) = ([] : List Nat).toArray from rfl, this]
theorem slice_from_sx (l : List Nat) (k : Nat) (h : k ≤ l.length) : Txt.slice (sx l) (some (k : Int)) none = sx (l.drop k) := by
  show StrLaws.sliceText (sx l) (some (k : Int)) none = _
  rw [StrLaws.sliceText_from (by rw [sx_toList]; (first | lia | omega)), sx_toList]
  show sx _ = sx _
  congr 1
  rw [Int.toNat_natCast, List.take_of_length_le]
  rw [List.length_drop]; (first | lia | omega)
theorem slice_mid_sx (l : List Nat) (h : 2 ≤ l.length) : Txt.slice (sx l) (some 1) (some (-1)) = sx ((l.drop 1).take (l.length - 2)) := by
  show StrLaws.sliceText (sx l) (some 1) (some (-1)) = _
  rw [StrLaws.sliceText_neg_hi _ _ (by decide) (by rw [sx_len]; (first | lia | omega)), StrLaws.sliceText_plain (by rw [sx_len, sx_toList]; (first | lia | omega)), sx_toList, sx_len]
  show sx _ = sx _
  congr 1
  have e : (-1 + (l.length : Int) - 1).toNat = l.length - 2 := by (first | lia | omega)
  rw [e]; rfl

theorem Fr.cong {h₀ h : Heap} {L : Addr} {m m' : PySem.Str → Option Value} (F : Fr h₀ L h m) (e : ∀ y, m y = m' y) : Fr h₀ L h m' := by
  have : m = m' := funext e
  subst this; exact F
theorem lk1 (y a : PySem.Str) (v : Value) : List.lookup y [(a, v)] = if y = a then some v else none := by
  by_cases h : y = a
  · subst h; simp [List.lookup]
  · have : (y == a) = false := by simpa using h
    simp [List.lookup, h, this]
theorem lkc (y a : PySem.Str) (v : Value) (r : List (PySem.Str × Value)) : List.lookup y ((a, v) :: r) = if y = a then some v else List.lookup y r := by
  by_cases h : y = a
  · subst h; simp [List.lookup]
  · have : (y == a) = false := by simpa using h
    simp [List.lookup, h, this]
end Mine

end

theorem Mine.reset_M1 : True ∧ True := by
  w_top off
  walk1 <;> trivial
section
open PySem PySem.W PyProof.Rows PySem.Calls
set_option Elab.async false
set_option maxRecDepth 100000
set_option maxHeartbeats 2000000
namespace Mine

noncomputable abbrev escScope : Scope :=
  letI c : Scope := _
  haveI h : PySem.Challenge.pw_wn0077_01.main.body[7]? = some (.FunctionDef _ _ _ _ _ _ c _ _ _) := rfl
  c

/-- a method call whose name ends on the call's own line -/
theorem meth_line {M : Model} {A : Around} {E : Value → Shared → Prop} {s : Shared} {env : Env} {o : Expr} {name : PySem.Str} {apos pos : Pos} {args : List Expr} {Q : Value → Shared → Prop}
    (hl : (apos.endLine == pos.line) = true) (hb : attributeBase o name env (eval o env) = eval o env) (hf : methodCallForm (args.length + ([] : List Keyword).length) (backTo pos (starEach args env)) (backToKw pos (keywordEach [] env)) = true)
    (h : wpAny M A (eval o env) (fun ov s₁ => wpAny M A (getMethod ov name (do return (← importBound o env).getD true)) (fun fx s₂ => wpAny M A (callWith pos fx.1 fx.2 (backTo pos (starEach args env)) []) Q E s₂) E s₁) E s) :
    wpAny M A (eval (.Call (.Attribute o name apos) args [] pos) env) Q E s := by
  rw [arm_eval_Call, hb]
  refine wpAny_bind (wpAny_mono h (fun ov s₁ h₁ => wpAny_bind (wpAny_standAt ?_)) fun _ _ x => x)
  unfold methodCall calleeOf methodCallPos
  rw [hf, hl]
  refine wpAny_bind (wpAny_holding (wpAny_mono h₁ (fun fx s₂ h₂ => ?_) fun _ _ x => x))
  exact wpAny_bind (wpAny_pure h₂)

theorem if_repl {w : World} {A : Around} {s : Shared} {Q : Flow → Shared → Prop} {E : Value → Shared → Prop} {cn : PySem.Str} {L a : Addr} {ccd : Value} {h₀ : Heap} {m : PySem.Str → Option Value} {cS rS : PySem.Str} {c : Nat} {r l : List Nat} {t : Tok}
    {p1 p2 p3 p4 p5 p6 p7 p8 p9 p10 p11 : Pos} {p : Program} {loose : List PySem.Str} {mean : ExcName → Option Value} {mg mb : PySem.Str → Option Value}
    (hC : cS = sx [c]) (hR : rS = sx r) (hp : (p6.endLine == p9.line) = true) (hcr : (cS == rS) = false) (hr : r.length ≤ 6)
    (X : (kk.heap_1 w.params).In h₀) (T : Top p loose mean mg mb h₀) (F : Fr h₀ L s.heap (fun y => if y = PySem.Str.ofString "text" then some (.str (sx l) t) else m y)) (N : News h₀ L s.heap []) (hx : l.length ≤ 1000000) (ht : 0 < s.toks)
    (h : ∀ h' tk t', 0 < tk → Fr h₀ L h' (fun y => if y = PySem.Str.ofString "text" then some (.str (sx (sub1 c r l)) t') else m y) → News h₀ L h' [] → Q .next { s with heap := h', toks := tk }) :
    wpAny (model PG w) A (exec (.If (.Compare (.Constant (.str cS) 0 p1) [.In] [.Name (PySem.Str.ofString "text") p2] p3) [.Assign [.Name (PySem.Str.ofString "text") p4] (.Call (.Attribute (.Name (PySem.Str.ofString "text") p5) (PySem.Str.ofString "replace") p6) [.Constant (.str cS) 0 p7, .Constant (.str rS) 0 p8] [] p9) p10] [] p11)
      (envOf cn escScope L a ccd)) Q E s := by
  refine wpAny_with_toks (Nat.le_refl s.toks) ?_
  iterate 10 walk1
  · intro ht'
    rename_i he
    rw [hC, found_sx] at he
    have e : sub1 c r l = l := sub1_free (of_decide_eq_true he)
    refine h _ _ t (Nat.lt_of_lt_of_le ht ht') ?_ N
    rw [e]; exact F
  · refine wpAny_execs_cons (wpAny_Assign_Name ?_)
    refine meth_line hp rfl rfl ?_
    walk1
    refine wpAny_with_toks (n := 1) (by show 1 ≤ s.toks + 1; (first | lia | omega)) ?_
    walk1
    intro ht1
    iterate 6 walk1
    subst hC hR
    have ht2 : ∀ n : Nat, 1 ≤ n → n ≠ 0 := fun n hn => by (first | lia | omega)
    refine SC.replace (ht2 _ ht1) (Nat.succ_ne_zero _) (Nat.ne_of_lt (Nat.lt_succ_self _)) hcr ?_ ?_
    · rw [sx_len, sx_len]
      have : (l.length + 1) * r.length ≤ (l.length + 1) * 6 := Nat.mul_le_mul_left _ hr
      (first | lia | omega)
    intro t' k
    rw [replace_sx]
    dsimp only
    walk1
    rename_i F1 N1
    refine wpAny_execs_nil fun ht' => ?_
    refine h _ _ t' (Nat.lt_of_lt_of_le ht ht') (Fr.cong F1 fun y => ?_) N1
    by_cases hy : y = PySem.Str.ofString "text" <;> simp [hy]

end Mine

end

theorem Mine.reset_M1b : True ∧ True := by
  w_top off
  walk1 <;> trivial
section
open PySem PySem.W PyProof.Rows PySem.Calls
set_option Elab.async false
set_option maxRecDepth 100000
set_option maxHeartbeats 2000000
namespace Mine

theorem sub1_ge (c : Nat) (z : List Nat) (l : List Nat) (hz : 1 ≤ z.length) : l.length ≤ (sub1 c z l).length := by
  induction l with
  | nil => simp
  | cons k r ih =>
    have e : sub1 c z (k :: r) = (if k = c then z else [k]) ++ sub1 c z r := by simp [sub1]
    rw [e, List.length_append, List.length_cons]
    have : 1 ≤ (if k = c then z else [k]).length := by
      split
      · exact hz
      · exact Nat.le_refl _
    (first | lia | omega)
noncomputable def escL_cdata (l : List Nat) : List Nat := (sub1 62 [38, 103, 116, 59] (sub1 60 [38, 108, 116, 59] (sub1 38 [38, 97, 109, 112, 59] l)))
theorem lenle_cdata_1 (l : List Nat) : ((sub1 38 [38, 97, 109, 112, 59] l)).length ≤ (escL_cdata l).length := Nat.le_trans (sub1_ge _ _ _ (by decide)) (sub1_ge _ _ _ (by decide))
theorem lenle_cdata_2 (l : List Nat) : ((sub1 60 [38, 108, 116, 59] (sub1 38 [38, 97, 109, 112, 59] l))).length ≤ (escL_cdata l).length := sub1_ge _ _ _ (by decide)
theorem esc_cdata {w : World} {A : Around} {s : Shared} {Q : Value → Shared → Prop} {E : Value → Shared → Prop} {l : List Nat} {t : Tok} (G : Gd w s.heap) (hA : AOk A 2) (hl : l.length ≤ 1000) (ht : 0 < s.toks)
    (hlen : (escL_cdata l).length ≤ 1000000)
    (h : ∀ h' tk t', 0 < tk → Grow s.heap h' → Q (.str (sx (escL_cdata l)) t') { s with heap := h', toks := tk }) :
   wpAny (model PG w) A (call (.ref 78) [.str (sx l) t]) Q E s := by
  obtain ⟨X, p, loose, mean, mg, mb, T⟩ := G
  refine wpAny_call ?_
  refine' enterK (fun _ _ e => e) (Nat.le_refl _) (news := []) (fun _ hp => nomatch hp) X T.nolimit ?ho ?hcd hA.room ?hbind ?hloc ?_ ?c1 ?c2 ?c3 ?c4
  ((case ho => k_is); (case hcd => k_is); (case hbind => exact BindsTo.of_eq rfl); (case hloc => exact locs rfl); (case c1 => exact rfl); (case c2 => exact rfl); (case c3 => exact rfl); (case c4 => decide))
  intro L h₀ tk0 htk F N hL hLt hk
  have ht0 : 0 < tk0 := Nat.lt_of_lt_of_le ht htk
  have F0 := Fr.cong (m' := fun y => if y = PySem.Str.ofString "text" then some (.str (sx l) t) else none) F (fun y => lk1 y _ _)
  have N0 := N
  clear F N htk
  walk1
  walk1
  refine wpAny_execs_cons (if_repl (c := 38) (r := [38, 97, 109, 112, 59]) (by decide +kernel) (by decide +kernel) (by decide) (by decide +kernel) (by decide) X T F0 N0 (by (first | lia | omega)) ht0 ?_)
  intro h1 tk1 t1 ht1 F1 N1
  refine wpAny_execs_cons (if_repl (c := 60) (r := [38, 108, 116, 59]) (by decide +kernel) (by decide +kernel) (by decide) (by decide +kernel) (by decide) X T F1 N1 (Nat.le_trans (lenle_cdata_1 l) hlen) ht1 ?_)
  intro h2 tk2 t2 ht2 F2 N2
  refine wpAny_execs_cons (if_repl (c := 62) (r := [38, 103, 116, 59]) (by decide +kernel) (by decide +kernel) (by decide) (by decide +kernel) (by decide) X T F2 N2 (Nat.le_trans (lenle_cdata_2 l) hlen) ht2 ?_)
  intro h3 tk3 t3 ht3 F3 N3
  walk1
  walk1
  walk1
  dsimp only
  exact h _ _ _ ht3 ⟨Nat.le_of_lt (hL ▸ F3.ns.lt), F3.keep⟩

noncomputable def escL_attrib (l : List Nat) : List Nat := (sub1 9 [38, 35, 48, 57, 59] (sub1 10 [38, 35, 49, 48, 59] (sub1 13 [38, 35, 49, 51, 59] (sub1 34 [38, 113, 117, 111, 116, 59] (sub1 62 [38, 103, 116, 59] (sub1 60 [38, 108, 116, 59] (sub1 38 [38, 97, 109, 112, 59] l)))))))
theorem lenle_attrib_1 (l : List Nat) : ((sub1 38 [38, 97, 109, 112, 59] l)).length ≤ (escL_attrib l).length := Nat.le_trans (sub1_ge _ _ _ (by decide)) (Nat.le_trans (sub1_ge _ _ _ (by decide)) (Nat.le_trans (sub1_ge _ _ _ (by decide)) (Nat.le_trans (sub1_ge _ _ _ (by decide)) (Nat.le_trans (sub1_ge _ _ _ (by decide)) (sub1_ge _ _ _ (by decide))))))
theorem lenle_attrib_2 (l : List Nat) : ((sub1 60 [38, 108, 116, 59] (sub1 38 [38, 97, 109, 112, 59] l))).length ≤ (escL_attrib l).length := Nat.le_trans (sub1_ge _ _ _ (by decide)) (Nat.le_trans (sub1_ge _ _ _ (by decide)) (Nat.le_trans (sub1_ge _ _ _ (by decide)) (Nat.le_trans (sub1_ge _ _ _ (by decide)) (sub1_ge _ _ _ (by decide)))))
theorem lenle_attrib_3 (l : List Nat) : ((sub1 62 [38, 103, 116, 59] (sub1 60 [38, 108, 116, 59] (sub1 38 [38, 97, 109, 112, 59] l)))).length ≤ (escL_attrib l).length := Nat.le_trans (sub1_ge _ _ _ (by decide)) (Nat.le_trans (sub1_ge _ _ _ (by decide)) (Nat.le_trans (sub1_ge _ _ _ (by decide)) (sub1_ge _ _ _ (by decide))))
theorem lenle_attrib_4 (l : List Nat) : ((sub1 34 [38, 113, 117, 111, 116, 59] (sub1 62 [38, 103, 116, 59] (sub1 60 [38, 108, 116, 59] (sub1 38 [38, 97, 109, 112, 59] l))))).length ≤ (escL_attrib l).length := Nat.le_trans (sub1_ge _ _ _ (by decide)) (Nat.le_trans (sub1_ge _ _ _ (by decide)) (sub1_ge _ _ _ (by decide)))
theorem lenle_attrib_5 (l : List Nat) : ((sub1 13 [38, 35, 49, 51, 59] (sub1 34 [38, 113, 117, 111, 116, 59] (sub1 62 [38, 103, 116, 59] (sub1 60 [38, 108, 116, 59] (sub1 38 [38, 97, 109, 112, 59] l)))))).length ≤ (escL_attrib l).length := Nat.le_trans (sub1_ge _ _ _ (by decide)) (sub1_ge _ _ _ (by decide))
theorem lenle_attrib_6 (l : List Nat) : ((sub1 10 [38, 35, 49, 48, 59] (sub1 13 [38, 35, 49, 51, 59] (sub1 34 [38, 113, 117, 111, 116, 59] (sub1 62 [38, 103, 116, 59] (sub1 60 [38, 108, 116, 59] (sub1 38 [38, 97, 109, 112, 59] l))))))).length ≤ (escL_attrib l).length := sub1_ge _ _ _ (by decide)
theorem esc_attrib {w : World} {A : Around} {s : Shared} {Q : Value → Shared → Prop} {E : Value → Shared → Prop} {l : List Nat} {t : Tok} (G : Gd w s.heap) (hA : AOk A 2) (hl : l.length ≤ 1000) (ht : 0 < s.toks)
    (hlen : (escL_attrib l).length ≤ 1000000)
    (h : ∀ h' tk t', 0 < tk → Grow s.heap h' → Q (.str (sx (escL_attrib l)) t') { s with heap := h', toks := tk }) :
   wpAny (model PG w) A (call (.ref 85) [.str (sx l) t]) Q E s := by
  obtain ⟨X, p, loose, mean, mg, mb, T⟩ := G
  refine wpAny_call ?_
  refine' enterK (fun _ _ e => e) (Nat.le_refl _) (news := []) (fun _ hp => nomatch hp) X T.nolimit ?ho ?hcd hA.room ?hbind ?hloc ?_ ?c1 ?c2 ?c3 ?c4
  ((case ho => k_is); (case hcd => k_is); (case hbind => exact BindsTo.of_eq rfl); (case hloc => exact locs rfl); (case c1 => exact rfl); (case c2 => exact rfl); (case c3 => exact rfl); (case c4 => decide))
  intro L h₀ tk0 htk F N hL hLt hk
  have ht0 : 0 < tk0 := Nat.lt_of_lt_of_le ht htk
  have F0 := Fr.cong (m' := fun y => if y = PySem.Str.ofString "text" then some (.str (sx l) t) else none) F (fun y => lk1 y _ _)
  have N0 := N
  clear F N htk
  walk1
  walk1
  refine wpAny_execs_cons (if_repl (c := 38) (r := [38, 97, 109, 112, 59]) (by decide +kernel) (by decide +kernel) (by decide) (by decide +kernel) (by decide) X T F0 N0 (by (first | lia | omega)) ht0 ?_)
  intro h1 tk1 t1 ht1 F1 N1
  refine wpAny_execs_cons (if_repl (c := 60) (r := [38, 108, 116, 59]) (by decide +kernel) (by decide +kernel) (by decide) (by decide +kernel) (by decide) X T F1 N1 (Nat.le_trans (lenle_attrib_1 l) hlen) ht1 ?_)
  intro h2 tk2 t2 ht2 F2 N2
  refine wpAny_execs_cons (if_repl (c := 62) (r := [38, 103, 116, 59]) (by decide +kernel) (by decide +kernel) (by decide) (by decide +kernel) (by decide) X T F2 N2 (Nat.le_trans (lenle_attrib_2 l) hlen) ht2 ?_)
  intro h3 tk3 t3 ht3 F3 N3
  refine wpAny_execs_cons (if_repl (c := 34) (r := [38, 113, 117, 111, 116, 59]) (by decide +kernel) (by decide +kernel) (by decide) (by decide +kernel) (by decide) X T F3 N3 (Nat.le_trans (lenle_attrib_3 l) hlen) ht3 ?_)
  intro h4 tk4 t4 ht4 F4 N4
  refine wpAny_execs_cons (if_repl (c := 13) (r := [38, 35, 49, 51, 59]) (by decide +kernel) (by decide +kernel) (by decide) (by decide +kernel) (by decide) X T F4 N4 (Nat.le_trans (lenle_attrib_4 l) hlen) ht4 ?_)
  intro h5 tk5 t5 ht5 F5 N5
  refine wpAny_execs_cons (if_repl (c := 10) (r := [38, 35, 49, 48, 59]) (by decide +kernel) (by decide +kernel) (by decide) (by decide +kernel) (by decide) X T F5 N5 (Nat.le_trans (lenle_attrib_5 l) hlen) ht5 ?_)
  intro h6 tk6 t6 ht6 F6 N6
  refine wpAny_execs_cons (if_repl (c := 9) (r := [38, 35, 48, 57, 59]) (by decide +kernel) (by decide +kernel) (by decide) (by decide +kernel) (by decide) X T F6 N6 (Nat.le_trans (lenle_attrib_6 l) hlen) ht6 ?_)
  intro h7 tk7 t7 ht7 F7 N7
  walk1
  walk1
  walk1
  dsimp only
  exact h _ _ _ ht7 ⟨Nat.le_of_lt (hL ▸ F7.ns.lt), F7.keep⟩

noncomputable def escL_html (l : List Nat) : List Nat := (sub1 34 [38, 113, 117, 111, 116, 59] (sub1 62 [38, 103, 116, 59] (sub1 38 [38, 97, 109, 112, 59] l)))
theorem lenle_html_1 (l : List Nat) : ((sub1 38 [38, 97, 109, 112, 59] l)).length ≤ (escL_html l).length := Nat.le_trans (sub1_ge _ _ _ (by decide)) (sub1_ge _ _ _ (by decide))
theorem lenle_html_2 (l : List Nat) : ((sub1 62 [38, 103, 116, 59] (sub1 38 [38, 97, 109, 112, 59] l))).length ≤ (escL_html l).length := sub1_ge _ _ _ (by decide)
theorem esc_html {w : World} {A : Around} {s : Shared} {Q : Value → Shared → Prop} {E : Value → Shared → Prop} {l : List Nat} {t : Tok} (G : Gd w s.heap) (hA : AOk A 2) (hl : l.length ≤ 1000) (ht : 0 < s.toks)
    (hlen : (escL_html l).length ≤ 1000000)
    (h : ∀ h' tk t', 0 < tk → Grow s.heap h' → Q (.str (sx (escL_html l)) t') { s with heap := h', toks := tk }) :
   wpAny (model PG w) A (call (.ref 92) [.str (sx l) t]) Q E s := by
  obtain ⟨X, p, loose, mean, mg, mb, T⟩ := G
  refine wpAny_call ?_
  refine' enterK (fun _ _ e => e) (Nat.le_refl _) (news := []) (fun _ hp => nomatch hp) X T.nolimit ?ho ?hcd hA.room ?hbind ?hloc ?_ ?c1 ?c2 ?c3 ?c4
  ((case ho => k_is); (case hcd => k_is); (case hbind => exact BindsTo.of_eq rfl); (case hloc => exact locs rfl); (case c1 => exact rfl); (case c2 => exact rfl); (case c3 => exact rfl); (case c4 => decide))
  intro L h₀ tk0 htk F N hL hLt hk
  have ht0 : 0 < tk0 := Nat.lt_of_lt_of_le ht htk
  have F0 := Fr.cong (m' := fun y => if y = PySem.Str.ofString "text" then some (.str (sx l) t) else none) F (fun y => lk1 y _ _)
  have N0 := N
  clear F N htk
  walk1
  walk1
  refine wpAny_execs_cons (if_repl (c := 38) (r := [38, 97, 109, 112, 59]) (by decide +kernel) (by decide +kernel) (by decide) (by decide +kernel) (by decide) X T F0 N0 (by (first | lia | omega)) ht0 ?_)
  intro h1 tk1 t1 ht1 F1 N1
  refine wpAny_execs_cons (if_repl (c := 62) (r := [38, 103, 116, 59]) (by decide +kernel) (by decide +kernel) (by decide) (by decide +kernel) (by decide) X T F1 N1 (Nat.le_trans (lenle_html_1 l) hlen) ht1 ?_)
  intro h2 tk2 t2 ht2 F2 N2
  refine wpAny_execs_cons (if_repl (c := 34) (r := [38, 113, 117, 111, 116, 59]) (by decide +kernel) (by decide +kernel) (by decide) (by decide +kernel) (by decide) X T F2 N2 (Nat.le_trans (lenle_html_2 l) hlen) ht2 ?_)
  intro h3 tk3 t3 ht3 F3 N3
  walk1
  walk1
  walk1
  dsimp only
  exact h _ _ _ ht3 ⟨Nat.le_of_lt (hL ▸ F3.ns.lt), F3.keep⟩

noncomputable def escL_cdata_c14n (l : List Nat) : List Nat := (sub1 13 [38, 35, 120, 68, 59] (sub1 62 [38, 103, 116, 59] (sub1 60 [38, 108, 116, 59] (sub1 38 [38, 97, 109, 112, 59] l))))
theorem lenle_cdata_c14n_1 (l : List Nat) : ((sub1 38 [38, 97, 109, 112, 59] l)).length ≤ (escL_cdata_c14n l).length := Nat.le_trans (sub1_ge _ _ _ (by decide)) (Nat.le_trans (sub1_ge _ _ _ (by decide)) (sub1_ge _ _ _ (by decide)))
theorem lenle_cdata_c14n_2 (l : List Nat) : ((sub1 60 [38, 108, 116, 59] (sub1 38 [38, 97, 109, 112, 59] l))).length ≤ (escL_cdata_c14n l).length := Nat.le_trans (sub1_ge _ _ _ (by decide)) (sub1_ge _ _ _ (by decide))
theorem lenle_cdata_c14n_3 (l : List Nat) : ((sub1 62 [38, 103, 116, 59] (sub1 60 [38, 108, 116, 59] (sub1 38 [38, 97, 109, 112, 59] l)))).length ≤ (escL_cdata_c14n l).length := sub1_ge _ _ _ (by decide)
theorem esc_cdata_c14n {w : World} {A : Around} {s : Shared} {Q : Value → Shared → Prop} {E : Value → Shared → Prop} {l : List Nat} {t : Tok} (G : Gd w s.heap) (hA : AOk A 2) (hl : l.length ≤ 1000) (ht : 0 < s.toks)
    (hlen : (escL_cdata_c14n l).length ≤ 1000000)
    (h : ∀ h' tk t', 0 < tk → Grow s.heap h' → Q (.str (sx (escL_cdata_c14n l)) t') { s with heap := h', toks := tk }) :
   wpAny (model PG w) A (call (.ref 99) [.str (sx l) t]) Q E s := by
  obtain ⟨X, p, loose, mean, mg, mb, T⟩ := G
  refine wpAny_call ?_
  refine' enterK (fun _ _ e => e) (Nat.le_refl _) (news := []) (fun _ hp => nomatch hp) X T.nolimit ?ho ?hcd hA.room ?hbind ?hloc ?_ ?c1 ?c2 ?c3 ?c4
  ((case ho => k_is); (case hcd => k_is); (case hbind => exact BindsTo.of_eq rfl); (case hloc => exact locs rfl); (case c1 => exact rfl); (case c2 => exact rfl); (case c3 => exact rfl); (case c4 => decide))
  intro L h₀ tk0 htk F N hL hLt hk
  have ht0 : 0 < tk0 := Nat.lt_of_lt_of_le ht htk
  have F0 := Fr.cong (m' := fun y => if y = PySem.Str.ofString "text" then some (.str (sx l) t) else none) F (fun y => lk1 y _ _)
  have N0 := N
  clear F N htk
  walk1
  walk1
  refine wpAny_execs_cons (if_repl (c := 38) (r := [38, 97, 109, 112, 59]) (by decide +kernel) (by decide +kernel) (by decide) (by decide +kernel) (by decide) X T F0 N0 (by (first | lia | omega)) ht0 ?_)
  intro h1 tk1 t1 ht1 F1 N1
  refine wpAny_execs_cons (if_repl (c := 60) (r := [38, 108, 116, 59]) (by decide +kernel) (by decide +kernel) (by decide) (by decide +kernel) (by decide) X T F1 N1 (Nat.le_trans (lenle_cdata_c14n_1 l) hlen) ht1 ?_)
  intro h2 tk2 t2 ht2 F2 N2
  refine wpAny_execs_cons (if_repl (c := 62) (r := [38, 103, 116, 59]) (by decide +kernel) (by decide +kernel) (by decide) (by decide +kernel) (by decide) X T F2 N2 (Nat.le_trans (lenle_cdata_c14n_2 l) hlen) ht2 ?_)
  intro h3 tk3 t3 ht3 F3 N3
  refine wpAny_execs_cons (if_repl (c := 13) (r := [38, 35, 120, 68, 59]) (by decide +kernel) (by decide +kernel) (by decide) (by decide +kernel) (by decide) X T F3 N3 (Nat.le_trans (lenle_cdata_c14n_3 l) hlen) ht3 ?_)
  intro h4 tk4 t4 ht4 F4 N4
  walk1
  walk1
  walk1
  dsimp only
  exact h _ _ _ ht4 ⟨Nat.le_of_lt (hL ▸ F4.ns.lt), F4.keep⟩

noncomputable def escL_attrib_c14n (l : List Nat) : List Nat := (sub1 13 [38, 35, 120, 68, 59] (sub1 10 [38, 35, 120, 65, 59] (sub1 9 [38, 35, 120, 57, 59] (sub1 34 [38, 113, 117, 111, 116, 59] (sub1 60 [38, 108, 116, 59] (sub1 38 [38, 97, 109, 112, 59] l))))))
theorem lenle_attrib_c14n_1 (l : List Nat) : ((sub1 38 [38, 97, 109, 112, 59] l)).length ≤ (escL_attrib_c14n l).length := Nat.le_trans (sub1_ge _ _ _ (by decide)) (Nat.le_trans (sub1_ge _ _ _ (by decide)) (Nat.le_trans (sub1_ge _ _ _ (by decide)) (Nat.le_trans (sub1_ge _ _ _ (by decide)) (sub1_ge _ _ _ (by decide)))))
theorem lenle_attrib_c14n_2 (l : List Nat) : ((sub1 60 [38, 108, 116, 59] (sub1 38 [38, 97, 109, 112, 59] l))).length ≤ (escL_attrib_c14n l).length := Nat.le_trans (sub1_ge _ _ _ (by decide)) (Nat.le_trans (sub1_ge _ _ _ (by decide)) (Nat.le_trans (sub1_ge _ _ _ (by decide)) (sub1_ge _ _ _ (by decide))))
theorem lenle_attrib_c14n_3 (l : List Nat) : ((sub1 34 [38, 113, 117, 111, 116, 59] (sub1 60 [38, 108, 116, 59] (sub1 38 [38, 97, 109, 112, 59] l)))).length ≤ (escL_attrib_c14n l).length := Nat.le_trans (sub1_ge _ _ _ (by decide)) (Nat.le_trans (sub1_ge _ _ _ (by decide)) (sub1_ge _ _ _ (by decide)))
theorem lenle_attrib_c14n_4 (l : List Nat) : ((sub1 9 [38, 35, 120, 57, 59] (sub1 34 [38, 113, 117, 111, 116, 59] (sub1 60 [38, 108, 116, 59] (sub1 38 [38, 97, 109, 112, 59] l))))).length ≤ (escL_attrib_c14n l).length := Nat.le_trans (sub1_ge _ _ _ (by decide)) (sub1_ge _ _ _ (by decide))
theorem lenle_attrib_c14n_5 (l : List Nat) : ((sub1 10 [38, 35, 120, 65, 59] (sub1 9 [38, 35, 120, 57, 59] (sub1 34 [38, 113, 117, 111, 116, 59] (sub1 60 [38, 108, 116, 59] (sub1 38 [38, 97, 109, 112, 59] l)))))).length ≤ (escL_attrib_c14n l).length := sub1_ge _ _ _ (by decide)
theorem esc_attrib_c14n {w : World} {A : Around} {s : Shared} {Q : Value → Shared → Prop} {E : Value → Shared → Prop} {l : List Nat} {t : Tok} (G : Gd w s.heap) (hA : AOk A 2) (hl : l.length ≤ 1000) (ht : 0 < s.toks)
    (hlen : (escL_attrib_c14n l).length ≤ 1000000)
    (h : ∀ h' tk t', 0 < tk → Grow s.heap h' → Q (.str (sx (escL_attrib_c14n l)) t') { s with heap := h', toks := tk }) :
   wpAny (model PG w) A (call (.ref 106) [.str (sx l) t]) Q E s := by
  obtain ⟨X, p, loose, mean, mg, mb, T⟩ := G
  refine wpAny_call ?_
  refine' enterK (fun _ _ e => e) (Nat.le_refl _) (news := []) (fun _ hp => nomatch hp) X T.nolimit ?ho ?hcd hA.room ?hbind ?hloc ?_ ?c1 ?c2 ?c3 ?c4
  ((case ho => k_is); (case hcd => k_is); (case hbind => exact BindsTo.of_eq rfl); (case hloc => exact locs rfl); (case c1 => exact rfl); (case c2 => exact rfl); (case c3 => exact rfl); (case c4 => decide))
  intro L h₀ tk0 htk F N hL hLt hk
  have ht0 : 0 < tk0 := Nat.lt_of_lt_of_le ht htk
  have F0 := Fr.cong (m' := fun y => if y = PySem.Str.ofString "text" then some (.str (sx l) t) else none) F (fun y => lk1 y _ _)
  have N0 := N
  clear F N htk
  walk1
  walk1
  refine wpAny_execs_cons (if_repl (c := 38) (r := [38, 97, 109, 112, 59]) (by decide +kernel) (by decide +kernel) (by decide) (by decide +kernel) (by decide) X T F0 N0 (by (first | lia | omega)) ht0 ?_)
  intro h1 tk1 t1 ht1 F1 N1
  refine wpAny_execs_cons (if_repl (c := 60) (r := [38, 108, 116, 59]) (by decide +kernel) (by decide +kernel) (by decide) (by decide +kernel) (by decide) X T F1 N1 (Nat.le_trans (lenle_attrib_c14n_1 l) hlen) ht1 ?_)
  intro h2 tk2 t2 ht2 F2 N2
  refine wpAny_execs_cons (if_repl (c := 34) (r := [38, 113, 117, 111, 116, 59]) (by decide +kernel) (by decide +kernel) (by decide) (by decide +kernel) (by decide) X T F2 N2 (Nat.le_trans (lenle_attrib_c14n_2 l) hlen) ht2 ?_)
  intro h3 tk3 t3 ht3 F3 N3
  refine wpAny_execs_cons (if_repl (c := 9) (r := [38, 35, 120, 57, 59]) (by decide +kernel) (by decide +kernel) (by decide) (by decide +kernel) (by decide) X T F3 N3 (Nat.le_trans (lenle_attrib_c14n_3 l) hlen) ht3 ?_)
  intro h4 tk4 t4 ht4 F4 N4
  refine wpAny_execs_cons (if_repl (c := 10) (r := [38, 35, 120, 65, 59]) (by decide +kernel) (by decide +kernel) (by decide) (by decide +kernel) (by decide) X T F4 N4 (Nat.le_trans (lenle_attrib_c14n_4 l) hlen) ht4 ?_)
  intro h5 tk5 t5 ht5 F5 N5
  refine wpAny_execs_cons (if_repl (c := 13) (r := [38, 35, 120, 68, 59]) (by decide +kernel) (by decide +kernel) (by decide) (by decide +kernel) (by decide) X T F5 N5 (Nat.le_trans (lenle_attrib_c14n_5 l) hlen) ht5 ?_)
  intro h6 tk6 t6 ht6 F6 N6
  walk1
  walk1
  walk1
  dsimp only
  exact h _ _ _ ht6 ⟨Nat.le_of_lt (hL ▸ F6.ns.lt), F6.keep⟩
end Mine

end

theorem Mine.reset_M2 : True ∧ True := by
  w_top off
  walk1 <;> trivial
section
open PySem PySem.W PyProof.Rows PySem.Calls
set_option Elab.async false
set_option maxRecDepth 100000
set_option maxHeartbeats 4000000
namespace Mine

/-- the signs that a hand spells -/
noncomputable def handSigns (hand : Nat) : List Nat := match hand with
  | 0 => [38, 60, 62]
  | 1 => [38, 60, 62, 34, 13, 10, 9]
  | 2 => [38, 62, 34]
  | 3 => [38, 60, 62, 13]
  | _ => [38, 60, 34, 13, 10, 9]
noncomputable def nameOf (hand c : Nat) : List Nat :=
  if c = 38 then [97, 109, 112] else if c = 60 then [108, 116] else if c = 62 then [103, 116] else if c = 34 then [113, 117, 111, 116]
  else if c = 13 then (if hand < 3 then [35, 49, 51] else [35, 120, 68]) else if c = 10 then (if hand < 3 then [35, 49, 48] else [35, 120, 65]) else (if hand < 3 then [35, 48, 57] else [35, 120, 57])
noncomputable def spL (hand c : Nat) : List Nat := if c ∈ handSigns hand then [38] ++ nameOf hand c ++ [59] else [c]

theorem notin_dec {prog : Program} {w : World} {A : Around} {E : Value → Shared → Prop} {s : Shared} {x y : PySem.Str} {t u : Tok} {b : Bool} {Q : Value → Shared → Prop} (hb : (Builtin.Str.occurrences x y 0 x.length 1).isEmpty = b) (h : Q (.bool b) s) :
    wpAny (model prog w) A (compareOp .NotIn (.str y u) (.str x t)) Q E s := by
  subst hb
  refine notIn_str ?_
  rw [Bool.not_not]
  exact h
local macro_rules | `(tactic| walk_at "compareOp NotIn str str") => `(tactic| refine notin_dec (by assumption) ?_)

/-- the five hands' texts -/
noncomputable abbrev handTexts : List PySem.Str := [PySem.Str.ofString "&<>", PySem.Str.ofString "&<>\"\r\n\t", PySem.Str.ofString "&>\"", PySem.Str.ofString "&<>\r", PySem.Str.ofString "&<\"\r\n\t"]
theorem hand_text : ∀ {hand : Nat}, hand < 5 → handTexts.getD hand Str.empty = sx (handSigns hand)
  | 0, _ => by decide +kernel
  | 1, _ => by decide +kernel
  | 2, _ => by decide +kernel
  | 3, _ => by decide +kernel
  | 4, _ => by decide +kernel
  | n + 5, h => absurd h (Nat.not_lt.mpr (Nat.le_add_left 5 n))
theorem hand_in : ∀ {hand : Nat}, hand < 5 → ∀ c ∈ handSigns hand, c ∈ [38, 60, 62, 34, 13, 10, 9]
  | 0, _ => by decide
  | 1, _ => by decide
  | 2, _ => by decide
  | 3, _ => by decide
  | 4, _ => by decide
  | n + 5, h => absurd h (Nat.not_lt.mpr (Nat.le_add_left 5 n))
theorem item_eq {prog : Program} {w : World} {A : Around} {E : Value → Shared → Prop} {s : Shared} {value slice : Expr} {l : Addr} {vs : List Value} {ys : List Str} {k : Nat} {u : Tok} {Q : Value → Shared → Prop} {x : Str} (e : ys.getD k Str.empty = x) (hl : s.heap.IsList l vs.toArray) (hi : StrsAre vs ys)
    (hk : k < ys.length) (hs9 : ys.length ≤ 1000000) (h : ∀ t, Q (.str x t) s)
    (hs : subscripted slice false (.ref l) (.int k u) = operate [.ref l, .int k u] (getItem (.ref l) (.int k u)) := by with_unfolding_all rfl) :
    wpAny (model prog w) A (subscriptTail value slice (.ref l) (.int k u)) Q E s :=
  item_strsR hl hi (Int.natCast_nonneg _) (Int.ofNat_lt.mpr hk) (by omega) (fun t => by rw [Int.toNat_natCast, e]; exact h t) hs
noncomputable def namesAt (b : Bool) : List (List Nat) := [[97, 109, 112], [108, 116], [103, 116], [113, 117, 111, 116]] ++ (if b then [[35, 49, 51], [35, 49, 48], [35, 48, 57]] else [[35, 120, 68], [35, 120, 65], [35, 120, 57]])
theorem name_at {b : Bool} {i : Nat} (h : i < 7) : ((namesAt b).map sx).getD i Str.empty = sx ((namesAt b).getD i []) := by
  have : i < (namesAt b).length := by cases b <;> exact h
  simp [List.getD, this]
theorem sign_idx {hand c : Nat} (hh : hand < 5) (hm : c ∈ handSigns hand) : ∃ i rest, Builtin.Str.occurrences (PySem.Str.ofString "&<>\"\r\n\t") (sx [c]) 0 (PySem.Str.ofString "&<>\"\r\n\t").length 1 = i :: rest ∧ i < 7 ∧ (namesAt (decide (hand < 3))).getD i [] = nameOf hand c ∧ (nameOf hand c).length ≤ 4 := by
  have key : ∀ (b : Bool) (x : Nat), x ∈ [38, 60, 62, 34, 13, 10, 9] → ∃ i, i < 7 ∧ Builtin.Str.occurrences (PySem.Str.ofString "&<>\"\r\n\t") (sx [x]) 0 (PySem.Str.ofString "&<>\"\r\n\t").length 1 = [i] ∧ (namesAt b).getD i [] = nameOf (if b then 0 else 3) x ∧ (nameOf (if b then 0 else 3) x).length ≤ 4 := by decide +kernel
  have e : nameOf hand c = nameOf (if decide (hand < 3) then 0 else 3) c := by
    unfold nameOf
    by_cases h : hand < 3 <;> simp [h]
  rw [e]
  have := key (decide (hand < 3)) c (hand_in hh c hm)
  exact this.elim fun i x => ⟨i, [], x.2.1, x.1, x.2.2⟩

theorem spelled_ok {w : World} {A : Around} {s : Shared} {Q : Value → Shared → Prop} {E : Value → Shared → Prop} {hand c : Nat} {t u : Tok} (G : Gd w s.heap) (hA : AOk A 2) (hh : hand < 5) (ht : 0 < s.toks)
    (h : ∀ h' tk t', 0 < tk → Grow s.heap h' → Q (.str (sx (spL hand c)) t') { s with heap := h', toks := tk }) :
   wpAny (model PG w) A (call (.ref 120) [.int hand t, .str (sx [c]) u]) Q E s := by
  refine hideG fun g9 hg9 => ?_
  obtain ⟨X, p, loose, mean, mg, mb, T⟩ := G
  refine hg9 ?_
  clear hg9 g9
  refine wpAny_with_toks (Nat.le_refl s.toks) ?_
  refine wpAny_call ?_
  refine' enterK (fun _ _ e => e) (Nat.le_refl _) (news := []) (fun _ hp => nomatch hp) X T.nolimit ?ho ?hcd hA.room ?hbind ?hloc ?_ ?c1 ?c2 ?c3 ?c4
  ((case ho => k_is); (case hcd => k_is); (case hbind => exact BindsTo.of_eq rfl); (case hloc => exact locs rfl); (case c1 => exact rfl); (case c2 => exact rfl); (case c3 => exact rfl); (case c4 => decide))
  intro L h₀ tk0 htk F N hL hLt hk
  have F0 := Fr.cong (m' := fun y => if y = PySem.Str.ofString "sign" then some (.str (sx [c]) u) else if y = PySem.Str.ofString "hand" then some (.int hand t) else none) F (fun y => by
    show List.lookup y [(PySem.Str.ofString "sign", _), (PySem.Str.ofString "hand", _)] = _
    rw [lkc, lk1])
  clear F htk
  refine hold fun R hR => ?_
  have hb : (Builtin.Str.occurrences (sx (handSigns hand)) (sx [c]) 0 (sx (handSigns hand)).length 1).isEmpty = decide (c ∉ handSigns hand) := found_sx _ _
  iterate 18 walk1
  walk1
  (with_reducible rename News _ _ _ _ => N1)
  refine item_eq (hand_text hh) ⟨_, (N1 _ (.head _)).1, rfl, _, rfl⟩ (.cons _ _ (.cons _ _ (.cons _ _ (.cons _ _ (.cons _ _ .nil))))) hh (by decide) ?_
  intro th
  by_cases hm : c ∈ handSigns hand
  · rw [decide_eq_false (fun q => q hm)] at hb
    refine hideG fun g9 hg9 => ?_
    obtain ⟨i, rest, hidx, hi7, hname, hlen⟩ := sign_idx hh hm
    refine hg9 ?_
    clear hg9 g9
    have done : ∀ {h' : Heap} {tk : Nat} {tv : Tok} {m : PySem.Str → Option Value}, Fr s.heap L h' m → R (.ret (.str (PySem.Str.ofString "&" ++ sx (nameOf hand c) ++ PySem.Str.ofString ";") tv)) { s with heap := h', toks := tk } := by
      intro h' tk tv m F1
      refine hR _ _ ?_
      dsimp only
      intro ht1
      have := h h' tk tv (Nat.lt_of_lt_of_le ht ht1) ⟨Nat.le_of_lt (hL ▸ F1.ns.lt), F1.keep⟩
      rw [show spL hand c = [38] ++ nameOf hand c ++ [59] by unfold spL; rw [if_pos hm]] at this
      rw [show PySem.Str.ofString "&" = sx [38] by decide +kernel, show PySem.Str.ofString ";" = sx [59] by decide +kernel, sx_app, sx_app]
      exact this
    by_cases h3 : (hand : Int) < 3
    · have hb3 : decide (hand < 3) = true := decide_eq_true (by omega)
      rw [hb3] at hname
      repeat ((fail_if_success (with_reducible show wpAny _ _ (call (.builtin "str.split") _) _ _ _)); walk1)
      refine hold fun R2 hR2 => ?_
      walk1
      refine hR2 _ _ ?_
      k_steps
      refine SC.index (i := i) (rest := rest) hidx ?_
      (with_reducible rename StrsAre _ _ => a1)
      (with_reducible rename News _ _ _ _ => N2)
      refine item_eq ((name_at (b := true) hi7).trans (congrArg sx hname)) ⟨_, (N2 _ (.head _)).1, rfl, _, rfl⟩ a1 (show i < 7 from hi7) (by decide) ?_
      intro tn
      have q1 : (sx (nameOf hand c)).length ≤ 4 := by rw [sx_len]; exact hlen
      repeat walk1
      exact done (by assumption)
    · have hb3 : decide (hand < 3) = false := decide_eq_false (by omega)
      rw [hb3] at hname
      repeat ((fail_if_success (with_reducible show wpAny _ _ (call (.builtin "str.split") _) _ _ _)); walk1)
      refine hold fun R2 hR2 => ?_
      walk1
      refine hR2 _ _ ?_
      k_steps
      refine SC.index (i := i) (rest := rest) hidx ?_
      (with_reducible rename StrsAre _ _ => a1)
      (with_reducible rename News _ _ _ _ => N2)
      refine item_eq ((name_at (b := false) hi7).trans (congrArg sx hname)) ⟨_, (N2 _ (.head _)).1, rfl, _, rfl⟩ a1 (show i < 7 from hi7) (by decide) ?_
      intro tn
      have q1 : (sx (nameOf hand c)).length ≤ 4 := by rw [sx_len]; exact hlen
      repeat walk1
      exact done (by assumption)
  · rw [decide_eq_true hm] at hb
    k_steps
    refine hR _ _ ?_
    dsimp only
    intro ht1
    have e1 : spL hand c = [c] := by unfold spL; rw [if_neg hm]
    rw [e1] at h
    (with_reducible rename Fr _ _ _ _ => F1)
    exact h _ _ u (Nat.lt_of_lt_of_le ht ht1) ⟨Nat.le_of_lt (hL ▸ F1.ns.lt), F1.keep⟩
end Mine

end

theorem Mine.reset_R0 : True ∧ True := by
  w_top off
  walk1 <;> trivial
section
open PySem PySem.W PyProof.Rows PySem.Calls
set_option Elab.async false
set_option maxRecDepth 100000
namespace Mine

/-- nothing is raised -/
noncomputable abbrev NoE : Value → Shared → Prop := fun _ _ => False

/-- how a turn of a loop ends -/
noncomputable def LPost (next : Shared → Prop) (Q : Flow → Shared → Prop) (f : Flow) (s : Shared) : Prop := match f with
  | .ret v => Q (.ret v) s
  | .brk => Q .next s
  | _ => next s
theorem LPost.nxt {next : Shared → Prop} {Q : Flow → Shared → Prop} {s : Shared} (h : next s) : LPost next Q .next s := h
theorem LPost.cnt {next : Shared → Prop} {Q : Flow → Shared → Prop} {s : Shared} (h : next s) : LPost next Q .cont s := h
theorem LPost.brk {next : Shared → Prop} {Q : Flow → Shared → Prop} {s : Shared} (h : Q .next s) : LPost next Q .brk s := h
theorem LPost.ret {next : Shared → Prop} {Q : Flow → Shared → Prop} {s : Shared} {v : Value} (h : Q (.ret v) s) : LPost next Q (.ret v) s := h

section
variable {prog : Program} {w : World} {A : Around} {s : Shared} {env : Env} {h₀ : Heap} {x : PySem.Str} {px pos : Pos} {iter : Expr} {body orelse : List Stmt} {Q : Flow → Shared → Prop}

/-- the loop, once its iterator stands -/
noncomputable def LoopW (prog : Program) (w : World) (A : Around) (env : Env) (x : PySem.Str) (body orelse : List Stmt) (Q : Flow → Shared → Prop) (it : Value) (s₂ : Shared) : Prop :=
  ∃ (J : Nat → Shared → Prop) (n : Nat), J n s₂ ∧ ∀ n s, J n s → wpAny (model prog w) A (pyNext it) (fun r s₁ => match r with
    | none => wpAny (model prog w) A (execs orelse env) Q NoE s₁
    | some v => wpAny (model prog w) A (storeName env x v) (fun _ s₂ => wpAny (model prog w) A (execs body env) (LPost (fun s₃ => ∃ m, m < n ∧ J m s₃) Q) NoE s₂) NoE s₁) NoE s

theorem for_raw (h : wpAny (model prog w) A (eval iter env) (fun xv s₁ => s.toks ≤ s₁.toks → wpAny (model prog w) A (pyIter xv) (LoopW prog w A env x body orelse Q) NoE s₁) NoE s)
    (hs : ∀ x, foldedSetIterable iter env x = pure x := by intro _; rfl) :
    wpAny (model prog w) A (exec (.For (.Name x px) iter body orelse pos) env) Q NoE s := by
  refine wpAny_For (wpAny_with_toks (Nat.le_refl s.toks) (wpAny_mono h (fun xv s₁ h₁ ht₁ => wpAny_mono (h₁ ht₁) (fun it s₂ h₂ => ?_) fun _ _ z => z) fun _ _ z _ => z)) hs
  refine hideG fun g9 hg9 => ?_
  obtain ⟨J, n, hJ, turn⟩ := h₂
  refine hg9 ?_
  clear hg9 g9
  refine codeAny_forLoop (R := fun r s' => match r with | .ok f => Q f s' | .error e => cameBackBy (model prog w) A env NoE e s') J (fun n s' hk => ?_) n hJ
  refine wpAny_mono (turn n s' hk) (fun r s₁ hr => ?_) fun _ _ z => z.elim
  cases r with
  | none => exact wpAny_mono hr (fun _ _ z => z) fun _ _ z => z.elim
  | some y =>
    refine wpAny_assign_Name (wpAny_mono hr (fun _ s₂ h₂ => ?_) fun _ _ z => z.elim)
    refine wpAny_mono h₂ (fun f s₃ h₃ => ?_) fun _ _ z => z.elim
    cases f with
    | next => exact h₃
    | cont => exact h₃
    | brk => exact h₃
    | ret _ => exact h₃

/-- a turn's end: the iterator stands, the word J holds -/
noncomputable def TurnEnd (h₀ : Heap) (L I : Addr) (oI : Obj) (J : (PySem.Str → Option Value) → List (Addr × Obj) → Prop) (s₁ s' : Shared) : Prop :=
  ∃ h' tk m' news', s' = { s₁ with heap := h', toks := tk } ∧ Fr h₀ L h' m' ∧ News h₀ L h' news' ∧ h'.get? I = some oI ∧ J m' news'
theorem TurnEnd.mk {L I : Addr} {oI : Obj} {J : (PySem.Str → Option Value) → List (Addr × Obj) → Prop} {s₁ : Shared} {h' : Heap} {tk : Nat} {m' : PySem.Str → Option Value} {news' news₂ : List (Addr × Obj)}
    (F : Fr h₀ L h' m') (N : News h₀ L h' news') (hI : (I, oI) ∈ news') (hs : ∀ p ∈ news₂, p ∈ news') (j : J m' news₂) : TurnEnd h₀ L I oI J s₁ { s₁ with heap := h', toks := tk } :=
  ⟨h', tk, m', news₂, rfl, F, fun p hp => N p (hs p hp), (N _ hI).1, j⟩

theorem loop_walks {I : Addr} {fp wr : List Addr} {n : Nat} {P : Nat → Value → Prop} {St : Nat → Heap → Prop} {m₀ : PySem.Str → Option Value} {news : List (Addr × Obj)} (J : Nat → (PySem.Str → Option Value) → List (Addr × Obj) → Prop)
    (W : Walks prog w A I fp wr n P St) (hx : env.kindOf x = some .local) (hp : (env.scope.kind == .class || (env.scope.kind == .module && env.locals != env.globals)) = false)
    (hwr : ∀ b ∈ wr, b = I) (hI : env.locals < I) (hNI : ∀ p ∈ news, p.1 < I) (hst : St 0 s.heap) (F : Fr h₀ env.locals s.heap m₀) (N : News h₀ env.locals s.heap news) (j0 : J 0 m₀ news)
    (hfp : ∀ i h h' o, St i h → h.get? I = some o → h'.get? I = some o → (∀ b o, h₀.get? b = some o → h'.get? b = some o) → St i h')
    (hIs : ∀ i h, St i h → ∃ o, h.get? I = some o)
    (turn : ∀ i v m₁ news₁ h tk o, i < n → P i v → J i m₁ news₁ → s.toks ≤ tk → (∀ p ∈ news, p.1 < I) → Fr h₀ env.locals h (fun y => if y = x then some v else m₁ y) → News h₀ env.locals h ((I, o) :: news₁) →
      wpAny (model prog w) A (execs body env) (LPost (TurnEnd h₀ env.locals I o (J (i + 1)) { s with heap := h, toks := tk }) Q) NoE { s with heap := h, toks := tk })
    (hJI : ∀ i m₁ news₁, J i m₁ news₁ → ∀ p ∈ news₁, p.1 ≠ I)
    (done : ∀ m₁ news₁ h tk, J n m₁ news₁ → s.toks ≤ tk → Fr h₀ env.locals h m₁ → News h₀ env.locals h news₁ → wpAny (model prog w) A (execs orelse env) Q NoE { s with heap := h, toks := tk }) :
    LoopW prog w A env x body orelse Q (.ref I) s := by
  have hLI : env.locals ≠ I := Nat.ne_of_lt hI
  have hI0 : ∀ {o}, h₀.get? I = some o → False := fun e => Nat.lt_irrefl _ (Nat.lt_trans (Nat.lt_of_lt_of_le (Heap.lt_size e) F.above) hI)
  have hI0' : h₀.get? I = none := by cases q : h₀.get? I with | none => rfl | some o => exact (hI0 q).elim
  have hLw : env.locals ∉ wr := fun h => hLI (hwr _ h)
  refine ⟨fun k s' => ∃ h' tk m' news' i, s' = { s with heap := h', toks := tk } ∧ St i h' ∧ Fr h₀ env.locals h' m' ∧ News h₀ env.locals h' news' ∧ J i m' news' ∧ i ≤ n ∧ k = n + 1 - i ∧ s.toks ≤ tk, n + 1,
    ⟨s.heap, s.toks, m₀, news, 0, rfl, hst, F, N, j0, Nat.zero_le _, rfl, Nat.le_refl _⟩, ?_⟩
  intro k s' z91
  refine hideG fun g9 hg9 => ?_
  obtain ⟨h', tk, m', news', i, rfl, hst', F', N', hJ, hi, rfl, htk⟩ := z91
  refine hg9 ?_
  clear hg9 g9
  have next : ∀ h₁ : Heap, (∀ b o, b ∉ wr → h'.get? b = some o → h₁.get? b = some o) → Fr h₀ env.locals h₁ m' ∧ News h₀ env.locals h₁ news' := fun h₁ hk₁ =>
    ⟨⟨F'.ns.at' fun o e => hk₁ _ o hLw e, fun b o e => hk₁ b o (fun hb => hI0 (hwr b hb ▸ e)) (F'.keep b o e), F'.above⟩, fun p hp => ⟨hk₁ _ _ (fun hb => hJI _ _ _ hJ p hp (hwr _ hb)) (N' p hp).1, (N' p hp).2⟩⟩
  by_cases hlt : i < n
  · refine wpAny_with_toks (n := s.toks) htk (W.item i _ _ _ hlt hst' fun v h₁ tk₁ hP hst₁ hk₁ htk₁ => ?_)
    refine hideG fun g9 hg9 => ?_
    obtain ⟨F₁, N₁⟩ := next h₁ hk₁
    refine hg9 ?_
    clear hg9 g9
    dsimp only at htk₁ ⊢
    refine wpAny_storeName_local hx F₁.ns (fun h₂ hn₂ hs₂ => ?_) hp
    have F₂ := F₁.set hn₂ hs₂
    refine hideG fun g9 hg9 => ?_
    obtain ⟨o, ho⟩ := hIs _ _ hst₁
    refine hg9 ?_
    clear hg9 g9
    have ho₂ : h₂.get? I = some o := (hs₂.2 I (Ne.symm hLI)).trans ho
    have N₂ : News h₀ env.locals h₂ ((I, o) :: news') := fun p hp => by
      rcases List.mem_cons.mp hp with rfl | hp
      · exact ⟨ho₂, Ne.symm hLI, hI0'⟩
      · exact (N₁.set hs₂) p hp
    refine wpAny_with_toks (n := s.toks) (Nat.le_succ_of_le htk₁) (wpAny_mono (turn i v m' news' h₂ _ o hlt hP hJ (Nat.le_succ_of_le htk₁) hNI F₂ N₂) (fun f s₃ h₃ ht₃ => ?_) fun _ _ e _ => e)
    have fin : TurnEnd h₀ env.locals I o (J (i + 1)) { s with heap := h₂, toks := tk₁ + 1 } s₃ → s.toks ≤ s₃.toks → ∃ m, m < n + 1 - i ∧ ∃ h' tk m' news' i, s₃ = { s with heap := h', toks := tk } ∧ St i h' ∧ Fr h₀ env.locals h' m' ∧ News h₀ env.locals h' news' ∧ J i m' news' ∧ i ≤ n ∧ m = n + 1 - i ∧ s.toks ≤ tk := by
      intro z92 ht₃
      refine hideG fun g9 hg9 => ?_
      obtain ⟨h₃', tk₃, m₂, news₂, rfl, F₃, N₃, hI₃, j₃⟩ := z92
      refine hg9 ?_
      clear hg9 g9
      exact ⟨n + 1 - (i + 1), by (first | lia | omega), h₃', tk₃, m₂, news₂, i + 1, rfl, hfp _ _ _ _ hst₁ ho hI₃ F₃.keep, F₃, N₃, j₃, hlt, rfl, ht₃⟩
    cases f with
    | ret v => exact h₃
    | brk => exact h₃
    | next => exact fin h₃ ht₃
    | cont => exact fin h₃ ht₃
  · have hin : i = n := by (first | lia | omega)
    subst hin
    refine wpAny_with_toks (n := s.toks) htk (W.done _ _ _ hst' fun h₁ tk₁ hk₁ htk₁ => ?_)
    refine hideG fun g9 hg9 => ?_
    obtain ⟨F₁, N₁⟩ := next h₁ hk₁
    refine hg9 ?_
    clear hg9 g9
    exact done m' news' h₁ tk₁ hJ htk₁ F₁ N₁

theorem loop_range {r : Addr} {a b : Int} {n : Nat} {t u v : Tok} {m₀ : PySem.Str → Option Value} {news : List (Addr × Obj)} (J : Nat → (PySem.Str → Option Value) → List (Addr × Obj) → Prop)
    (hh : A.handled = none) (hx : env.kindOf x = some .local) (hp : (env.scope.kind == .class || (env.scope.kind == .module && env.locals != env.globals)) = false)
    (hr : IsRange s.heap r a b 1 t u v) (hsmall : Builtin.Range.small a b 1 = true) (hn : Builtin.Range.rangeSize a b 1 = (n : Int)) (F : Fr h₀ env.locals s.heap m₀) (N : News h₀ env.locals s.heap news) (j0 : J 0 m₀ news)
    (hJ : ∀ i m₁ news₁, J i m₁ news₁ → ∀ p ∈ news₁, p.1 ∈ news.map (·.1))
    (turn : ∀ i m₁ news₁ h tk I o t, i < n → J i m₁ news₁ → s.toks ≤ tk → env.locals < I → (∀ p ∈ news, p.1 < I) → Fr h₀ env.locals h (fun y => if y = x then some (.int (a + i) t) else m₁ y) → News h₀ env.locals h ((I, o) :: news₁) →
      wpAny (model prog w) A (execs body env) (LPost (TurnEnd h₀ env.locals I o (J (i + 1)) { s with heap := h, toks := tk }) Q) NoE { s with heap := h, toks := tk })
    (done : ∀ m₁ news₁ h tk, J n m₁ news₁ → s.toks ≤ tk → Fr h₀ env.locals h m₁ → News h₀ env.locals h news₁ → wpAny (model prog w) A (execs orelse env) Q NoE { s with heap := h, toks := tk }) :
    wpAny (model prog w) A (pyIter (.ref r)) (LoopW prog w A env x body orelse Q) NoE s := by
  refine wpAny_pyIter_range hr hsmall ?_
  rw [hn]
  have W := Walks.range (prog := prog) (w := w) hh s.heap.objs.size a 1 n
  have hNI : ∀ p ∈ news, p.1 < s.heap.objs.size := fun p hp => Heap.lt_size (N p hp).1
  refine loop_walks J W hx hp (fun b hb => List.mem_singleton.mp hb) F.ns.lt hNI (by show IsRangeIter _ _ _ _ _; simpa [IsRangeIter] using Heap.get?_push_size _ rfl) (F.push _) (fun p hp => ⟨Heap.get?_push_of_some _ (N p hp).1, (N p hp).2⟩) j0 ?_ ?_ ?_ ?_ done
  · intro i h h' o st e e' _
    have st' : h.get? s.heap.objs.size = some _ := st
    show h'.get? s.heap.objs.size = some _
    rw [e'] ; rw [e] at st'; exact st'
  · exact fun i h st => ⟨_, st⟩
  · intro i v m₁ news₁ h tk o hi z93 hj htk hlt F₁ N₁
    refine hideG fun g9 hg9 => ?_
    obtain ⟨t, rfl⟩ := z93
    refine hg9 ?_
    clear hg9 g9
    have e : a + (i : Int) * 1 = a + i := by (first | lia | omega)
    rw [e] at F₁
    exact turn i m₁ news₁ h tk _ o t hi hj htk F.ns.lt hNI F₁ N₁
  · intro i m₁ news₁ hj p hp e
    refine hideG fun g9 hg9 => ?_
    obtain ⟨q, hq, hqe⟩ := List.mem_map.mp (hJ _ _ _ hj p hp)
    refine hg9 ?_
    clear hg9 g9
    have := hNI q hq
    rw [hqe, e] at this
    exact Nat.lt_irrefl _ this

theorem range_small {a : Int} {n : Nat} (ha : 0 ≤ a ∧ a ≤ 1000) (hn : n ≤ 1000) : Builtin.Range.small a (a + n : Int) 1 = true ∧ Builtin.Range.rangeSize a (a + n : Int) 1 = (n : Int) := by
  refine ⟨small_one (by (first | lia | omega)) (by (first | lia | omega)) (by (first | lia | omega)) (by (first | lia | omega)), ?_⟩
  unfold Builtin.Range.rangeSize
  rw [if_pos (by decide)]
  by_cases h : n = 0
  · subst h; simp
  · rw [if_pos (by (first | lia | omega)), Int.ediv_one]; (first | lia | omega)
theorem range_small0 {n : Nat} (hn : n ≤ 1000) : Builtin.Range.small 0 (n : Int) 1 = true ∧ Builtin.Range.rangeSize 0 (n : Int) 1 = (n : Int) := by
  have := range_small (a := 0) (n := n) (by (first | lia | omega)) hn
  rw [Int.zero_add] at this
  exact this

end
end Mine

end

theorem Mine.reset_M3 : True ∧ True := by
  w_top off
  walk1 <;> trivial
section
open PySem PySem.W PyProof.Rows PySem.Calls
set_option Elab.async false
set_option maxRecDepth 100000
set_option maxHeartbeats 4000000
namespace Mine


noncomputable def faceL (c : Nat) : List Nat → List Nat
  | [] => [c]
  | h :: r => if spL h c = [c] then faceL c r else [38] ++ (List.replicate r.length [97, 109, 112, 59]).flatten ++ (spL h c).tail

theorem spL_len {hand c : Nat} (hh : hand < 5) : 1 ≤ (spL hand c).length ∧ (spL hand c).length ≤ 7 := by
  have n : (nameOf hand c).length ≤ 4 := by unfold nameOf; (repeat' split) <;> simp
  unfold spL
  split <;> simp <;> (first | lia | omega)

theorem face_ok {w : World} {A : Around} {s : Shared} {Q : Value → Shared → Prop} {E : Value → Shared → Prop} {c : Nat} {hs : List Nat} {l : Addr} {vs : List Value} {u : Tok} (G : Gd w s.heap) (hA : AOk A 3) (hh : ∀ x ∈ hs, x < 5) (hlen : hs.length ≤ 10) (ht : 0 < s.toks)
    (hl : s.heap.IsList l vs.toArray) (hi : IntsAre vs (hs.map Int.ofNat))
    (h : ∀ h' tk t', 0 < tk → Grow s.heap h' → Q (.str (sx (faceL c hs)) t') { s with heap := h', toks := tk }) :
   wpAny (model PG w) A (call (.ref 146) [.str (sx [c]) u, .ref l]) Q E s := by
  have G' := G
  refine hideG fun g9 hg9 => ?_
  obtain ⟨X, p, loose, mean, mg, mb, T⟩ := G
  refine hg9 ?_
  clear hg9 g9
  refine hideG fun g9 hg9 => ?_
  obtain ⟨ha, dp, fr, gd, un⟩ := A
  refine hg9 ?_
  clear hg9 g9
  refine hideG fun g9 hg9 => ?_
  obtain rfl : ha = none := hA.hand
  refine hg9 ?_
  clear hg9 g9
  refine wpAny_with_toks (Nat.le_refl s.toks) ?_
  refine wpAny_call ?_
  refine' enterK (fun _ _ e => e) (Nat.le_refl _) (news := []) (fun _ hp => nomatch hp) X T.nolimit ?ho ?hcd hA.room ?hbind ?hloc ?_ ?c1 ?c2 ?c3 ?c4
  ((case ho => k_is); (case hcd => k_is); (case hbind => exact BindsTo.of_eq rfl); (case hloc => exact locs rfl); (case c1 => exact rfl); (case c2 => exact rfl); (case c3 => exact rfl); (case c4 => decide))
  intro L h₁ tk0 htk F N hL hLt hk
  have F0 := Fr.cong (m' := fun y => if y = PySem.Str.ofString "spelled" then none else if y = PySem.Str.ofString "k" then none else if y = PySem.Str.ofString "hands" then some (.ref l) else if y = PySem.Str.ofString "sign" then some (.str (sx [c]) u) else none) F (fun y => by
    show List.lookup y [(PySem.Str.ofString "hands", _), (PySem.Str.ofString "sign", _)] = _
    rw [lkc, lk1]
    by_cases h1 : y = PySem.Str.ofString "spelled"
    · subst h1; rfl
    by_cases h2 : y = PySem.Str.ofString "k"
    · subst h2; rfl
    simp [h1, h2])
  clear F
  have hnl := hi.length
  rw [List.length_map] at hnl
  walk1
  refine for_raw ?_
  iterate 13 walk1
  intro hts
  rename_i hR F1 N1 hk1
  have hrs := range_small0 (n := (hs.map Int.ofNat).length) (by rw [List.length_map]; (first | lia | omega))
  refine loop_range (n := (hs.map Int.ofNat).length) (fun i m news => news = [] ∧ (∃ sp kv, m = fun y => if y = PySem.Str.ofString "spelled" then sp else if y = PySem.Str.ofString "k" then kv else if y = PySem.Str.ofString "hands" then some (.ref l) else if y = PySem.Str.ofString "sign" then some (.str (sx [c]) u) else none) ∧ faceL c hs = faceL c (hs.drop i))
    rfl rfl rfl hR hrs.1 hrs.2 F1 N1 ⟨rfl, ⟨_, _, rfl⟩, rfl⟩ (fun i m₁ news₁ hj p hp => by rw [hj.1] at hp; cases hp) ?_ ?_
  · intro i m₁ news₁ h2 tk2 I o t hi2 z91 htk2 hLI z92 F2 N2
    refine hideG fun g9 hg9 => ?_
    obtain ⟨rfl, ⟨sp, kv, rfl⟩, hf⟩ := z91
    clear z92
    refine hg9 ?_
    clear hg9 g9
    rw [List.length_map] at hi2
    have e0 : (0 : Int) + (i : Int) = (i : Int) := Int.zero_add _
    rw [e0] at F2
    change L < I at hLI
    change Fr s.heap L h2 _ at F2
    change News s.heap L h2 _ at N2
    clear N1 F1 hk1 hR hrs
    refine hold fun R1 hR1 => ?_
    iterate 14 walk1
    have e1 : (List.map Int.ofNat hs).getD ((i : Int)).toNat 0 = ((hs[i] : Nat) : Int) := by
      rw [Int.toNat_natCast]
      simp [List.getD, hi2]
    rw [e1]
    refine spelled_ok (G'.keeps F2.keep) hA.deeper (hh _ (List.getElem_mem hi2)) (Nat.lt_of_lt_of_le ht (Nat.le_trans htk (Nat.le_trans hts htk2))) ?_
    intro h3 tk3 t3 ht3 g3
    have F3 := Fr.grow F2 g3
    have N3 := News.grow N2 g3
    clear F2 N2 g3
    have hsl := spL_len (hand := hs[i]) (c := c) (hh _ (List.getElem_mem hi2))
    have hsl2 : (sx (spL hs[i] c)).length ≤ 7 := by rw [sx_len]; exact hsl.2
    iterate 10 walk1
    · rename_i hq
      have hne : spL hs[i] c ≠ [c] := fun q => by
        rw [q] at hq
        simp at hq
      clear hq
      repeat ((fail_if_success (with_reducible refine hR1 _ _ ?_)); walk1)
      (with_reducible rename Fr _ _ _ _ => F4)
      refine hR1 _ _ (LPost.ret ?_)
      dsimp only
      intro ht5
      have ef : faceL c hs = [38] ++ (List.replicate (hs.length - 1 - i) [97, 109, 112, 59]).flatten ++ (spL hs[i] c).tail := by
        rw [hf, List.drop_eq_getElem_cons hi2, faceL, if_neg hne, List.length_drop]
        congr 4
        (first | lia | omega)
      have ev : PySem.Str.ofString "&" ++ Txt.mul (PySem.Str.ofString "amp;") (((List.map Int.ofNat hs).length : Int) - 1 - (i : Int)) ++ Txt.slice (sx (spL hs[i] c)) (some 1) none = sx (faceL c hs) := by
        have e2 : (((List.map Int.ofNat hs).length : Int) - 1 - (i : Int)) = ((hs.length - 1 - i : Nat) : Int) := by rw [List.length_map]; (first | lia | omega)
        rw [e2, show PySem.Str.ofString "&" = sx [38] by decide +kernel, show PySem.Str.ofString "amp;" = sx [97, 109, 112, 59] by decide +kernel, mul_sx, ef]
        have e3 := slice_from_sx (spL hs[i] c) 1 hsl.1
        rw [show ((1 : Nat) : Int) = 1 from rfl] at e3
        rw [e3, sx_app, sx_app, List.drop_one]
      rw [ev]
      exact h _ _ _ (Nat.lt_of_lt_of_le ht ht5) ⟨Nat.le_of_lt (hL ▸ F4.ns.lt), F4.keep⟩
    · iterate 2 walk1
      rename_i F4 N4 hne
      have he : spL hs[i] c = [c] := by
        have : sx (spL hs[i] c) = sx [c] := by simpa using hne
        exact sx_inj this
      refine hR1 _ _ (LPost.nxt (TurnEnd.mk (news₂ := []) F4 N4 (.head _) (fun _ hp => nomatch hp) ⟨rfl, ⟨some (.str (sx (spL hs[i] c)) t3), some (.int i t), ?_⟩, ?_⟩))
      · funext y
        by_cases h1 : y = PySem.Str.ofString "spelled"
        · simp [h1]
        · by_cases h2 : y = PySem.Str.ofString "k" <;> simp [h1, h2]
      · rw [hf, List.drop_eq_getElem_cons hi2, faceL, if_pos he]
  · intro m₁ news₁ h2 tk2 z93 htk2 F2 N2
    refine hideG fun g9 hg9 => ?_
    obtain ⟨rfl, ⟨sp, kv, rfl⟩, hf⟩ := z93
    refine hg9 ?_
    clear hg9 g9
    rw [List.length_map, List.drop_length] at hf
    have hf : faceL c hs = [c] := hf
    change Fr s.heap L h2 _ at F2
    change News s.heap L h2 _ at N2
    repeat walk1
    rename_i ht5
    have := h _ _ u (Nat.lt_of_lt_of_le ht ht5) ⟨Nat.le_of_lt (hL ▸ F2.ns.lt), F2.keep⟩
    rw [hf] at this
    exact this
end Mine

end

theorem Mine.reset_M4 : True ∧ True := by
  w_top off
  walk1 <;> trivial
section
open PySem PySem.W PyProof.Rows PySem.Calls
set_option Elab.async false
set_option maxRecDepth 100000
set_option maxHeartbeats 4000000
namespace Mine

theorem enterKC {prog : Program} {w : World} {A : Around} {R : Result → Shared → Prop} {s : Shared} {K : Frag} {h₀ : Heap} {news : List (Addr × Obj)}
    {name qual : PySem.Str} {params : Arguments} {body : List Stmt} {scope : Scope} {dV kV doc pm cdv ct oc : Value} {an od : Option Addr} {osl : Array (Option Value)} {f : Addr} {args : Args} {binds : List (PySem.Str × Value)}
    (keep : ∀ b o, h₀.get? b = some o → s.heap.get? b = some o) (hsz : h₀.objs.size ≤ s.heap.objs.size)
    (N : ∀ p ∈ news, s.heap.get? p.1 = some p.2 ∧ h₀.get? p.1 = none)
    (X : K.In h₀) (hlim : h₀.NoLimit)
    (ho : K.lookup f = some ⟨oc, od, .func (fnOf name qual params body scope dV kV doc pm an cdv ct), osl⟩) (hcd : codeIn K cdv qual = true) (hroom : A.depth < recursionLimit)
    (hbind : BindsTo s (fnOf name qual params body scope dV kV doc pm an cdv ct) args binds)
    (hkind : (binds.all fun y => scope.names.lookup y.1 == some .local || scope.names.lookup y.1 == some .cell) = true)
    (hnd : ((cellsFrom 0 scope.names []).map (·.1)).Nodup)
    (h : ∀ L' h₁ tk cells, s.toks ≤ tk → Fr h₀ L' h₁ (bindL (envOfC qual scope L' f cdv).kindOf binds fun _ => none) → News h₀ L' h₁ (cells ++ news) →
      CellsAre (bindC (envOfC qual scope L' f cdv).kindOf binds fun _ => none) (cellsFrom (L' + 1) scope.names []) cells → (∀ p ∈ news, p.1 < L') → L' = s.heap.objs.size → L' < h₁.objs.size → (∀ b o, s.heap.get? b = some o → h₁.get? b = some o) →
      wpAny (model prog w) (A.deeper (envOfC qual scope L' f cdv)) (execs body (envOfC qual scope L' f cdv))
        (fun fl s' => R (.ok (.ret (match fl with | .ret v => v | _ => .none))) s') (fun _ _ => False)
        { s with heap := h₁, toks := tk })
    (hco : scope.isCoroutine = false) (hgen : scope.isGenerator = false) (hk : scope.kind = .function) : codeAny (model prog w) A (.call (.ref f) args) R s := by
  refine codeAny_with_toks (Nat.le_refl s.toks) ?_
  refine codeAny_call_function (fd := fnOf name qual params body scope dV kV doc pm an cdv ct) hroom (keep _ _ (X _ _ ho)) rfl hco hgen rfl ((codeRec_of X hcd).keeps keep) (hbind _ _ _ _ ?_)
  refine wpAny_with_toks (Nat.le_refl s.toks) ?_
  refine wpAny_newFunctionEnv_cells hk (kindsX hkind _) fun env' he s' x => ?_
  subst he
  intro htk
  refine ⟨(hlim.keeps keep).keeps x.toInCall.keep, codeAny_func ?_⟩
  obtain ⟨h₁, tk, rfl, _⟩ := x.done
  have hk₁ := x.toInCall.keep
  obtain ⟨cells, NC, Y⟩ := Cl.news (h₀ := s.heap) (Nat.le_refl _) fun n c hm => ⟨x.cell n c (lookup_of_mem_nodup (cellsFrom_names scope.names 0 (s.heap.objs.size + 1) [] [] rfl ▸ hnd) hm), x.above n c hm⟩
  refine wpAny_mono (h s.heap.objs.size h₁ tk cells htk ⟨x.toInCall.ns, fun b o e => hk₁ b o (keep _ _ e), hsz⟩ (fun p hp => ?_) Y (fun p hp => Heap.lt_size (N p hp).1) rfl x.toInCall.ns.lt hk₁) (fun fl s' hl _ => hl) fun _ _ y => y.elim
  rcases List.mem_append.mp hp with hp | hp
  · refine ⟨(NC p hp).1, (NC p hp).2.1, ?_⟩
    cases q : h₀.get? p.1 with
    | none => rfl
    | some o => have := keep _ _ q; rw [(NC p hp).2.2] at this; cases this
  · exact ⟨hk₁ _ _ (N p hp).1, Nat.ne_of_lt (Heap.lt_size (N p hp).1), (N p hp).2⟩

/-- the signs of a text, each a text of its own -/
noncomputable abbrev chs (l : List Nat) : List PySem.Str := l.map fun c => sx [c]

theorem strsAre_of {l : List Nat} {acc : List Value} (hl : acc.length = l.length) (h : ∀ (j : Nat) (v : Value), acc[j]? = some v → SignAt (sx l) j v) : StrsAre acc (chs l) := by
  induction l generalizing acc with
  | nil => cases acc with
    | nil => exact .nil
    | cons a r => cases hl
  | cons c r ih => cases acc with
    | nil => cases hl
    | cons a q =>
      obtain ⟨c', u, hc, rfl⟩ := h 0 a rfl
      have e : c' = c := by simpa [sx] using hc.symm
      subst e
      refine .cons _ u (ih (by simpa using hl) fun j v hv => ?_)
      obtain ⟨c', u, hc, rfl⟩ := h (j + 1) v (by simpa using hv)
      exact ⟨c', u, by simpa [sx] using hc, rfl⟩

theorem list_chars {prog : Program} {w : World} {A : Around} {E : Value → Shared → Prop} {s : Shared} {h₀ : Heap} {L : Addr} {m : PySem.Str → Option Value} {news : List (Addr × Obj)} {l : List Nat} {t : Tok} {Q : Value → Shared → Prop}
    (hh : A.handled = none) (F : Fr h₀ L s.heap m) (N : News h₀ L s.heap news) (hsz : l.length ≤ 1000000)
    (hQ : ∀ h' tk d vs n, Fr h₀ L h' m → News h₀ L h' ((d, listOf (List.toArray vs) n) :: news) → (∀ p ∈ news, p.1 < d) → L < d → StrsAre vs (chs l) → Q (.ref d) { s with heap := h', toks := tk }) :
    wpAny (model prog w) A (call (.type "list") [.str (sx l) t]) Q E s := by
  have hn : (sx l).cps.size ≤ sizeLine := by have := sx_len l; unfold Str.length at this; rw [this, sizeLine_eq]; (first | lia | omega)
  refine call_list_str hh (sx l) t (hn := hn) fun h' tk acc' c' hk hS' hacc => ?_
  have hL : L < s.heap.objs.size := F.ns.lt
  refine hQ h' tk _ acc'.toList c' (F.keeps hk) (fun p hp => ?_) (fun p hp => Heap.lt_size (N p hp).1) hL (strsAre_of ?_ fun j v hv => hacc.2 j v (by simpa using hv))
  · rcases List.mem_cons.mp hp with rfl | hp
    · refine ⟨by simpa using hS', Nat.ne_of_gt hL, Heap.get?_none_of_le (Nat.le_trans F.above (Nat.le_of_lt hL))⟩
    · exact ⟨hk _ _ (N p hp).1, (N p hp).2⟩
  · have h1 : acc'.size = (sx l).cps.size := hacc.1
    have h2 := sx_len l
    unfold Str.length at h2
    rw [Array.length_toList, h1, h2]
end Mine

end

theorem Mine.reset_M5 : True ∧ True := by
  w_top off
  walk1 <;> trivial
section

open PySem PySem.W PyProof.Rows PySem.Calls
open Builtin Builtin.ObjectAttr
set_option Elab.async false
set_option maxRecDepth 100000
set_option maxHeartbeats 4000000
namespace Mine

theorem fn_sa : Slot "function" "__setattr__" "object.__setattr__" :=
  .of (owner := "object") (n := "__setattr__") (by rw [typeLookup_type, builtinLookup_eq_fast]; kernel_rfl) (by decide +kernel) (by decide +kernel) (by decide +kernel)
    (by first | exact .inl (by decide +kernel) | exact .inr (by decide +kernel)) (by rw [isSubtype_type]; kernel_rfl)
theorem fn_mro : mroOf (.type "function") = pure [.type "function", .type "object"] := by kernel_rfl
theorem fn_passes (self : Value) : refuseLoop self "__setattr__" [.type "function", .type "object"] = pure () := by kernel_rfl
theorem fn_noread : typeLookup (.type "function") (PySem.Str.ofString "read") = pure none := by rw [typeLookup_type, builtinLookup_eq_fast]; kernel_rfl

theorem setattr_fn {prog : Program} {w : World} {A : Around} {E : Value → Shared → Prop} {s : Shared} {h₀ : Heap} {L f : Addr} {m : PySem.Str → Option Value} {v : Value} {Q : Unit → Shared → Prop} {name : PySem.Str}
    {pre post : List (Addr × Obj)} {fo od' : Obj} {fd : FuncData} {es : List DictEntry} {n : Nat} (hlk : typeLookup (.type "function") name = pure none)
    (F : Fr h₀ L s.heap m) (N : News h₀ L s.heap (pre ++ (f, fo) :: post)) (hc : fo.cls = .type "function") (hd : fo.dict = none) (hdt : fo.data = .func fd)
    (h1 : ∀ p ∈ pre, p.1 ≠ f) (h2 : ∀ p ∈ post, p.1 ≠ f) (e : Obj.putName name (PyData.keyHash w.params name) (.str name (s.toks + 1)) v emptyDict = od') (e' : od'.data = .dict es.toArray n) (hz : es.length ≤ 1000)
    (h : ∀ d h', Fr h₀ L h' m → News h₀ L h' ((d, od') :: (pre ++ (f, { fo with dict := some d }) :: post)) → (∀ p ∈ pre ++ (f, fo) :: post, p.1 < d) → Q () { s with heap := h', toks := s.toks + 1 + 1 }) :
    wpAny (model prog w) A (setAttr (.ref f) name v) Q E s := by
  obtain ⟨hh, g, dr, t, os⟩ := s
  have hf : hh.get? f = some fo := (N (f, fo) (by simp)).1
  have hlt : ∀ p ∈ pre ++ (f, fo) :: post, p.1 < hh.objs.size := fun p hp => Heap.lt_size (N p hp).1
  have nf : f ≠ hh.objs.size := Nat.ne_of_lt (Heap.lt_size hf)
  have F1 := F.push emptyDict
  have N1 := N.push F emptyDict
  obtain ⟨F2, N2⟩ := news_upd (pre := (hh.objs.size, emptyDict) :: pre) (f := fun o => { o with dict := some hh.objs.size }) (o' := { fo with dict := some hh.objs.size }) F1 N1
    (fun p hp => by
      rcases List.mem_cons.mp hp with rfl | hp
      · exact Ne.symm nf
      · exact h1 p hp) h2 rfl (by obtain ⟨_, _, dd, _⟩ := fo; cases hdt; rfl)
  obtain ⟨F3, N3⟩ := news_upd (pre := []) (post := pre ++ (f, { fo with dict := some hh.objs.size }) :: post) (f := Obj.putName name (PyData.keyHash w.params name) (.str name (t + 1)) v) F2 N2
    (fun _ hp => nomatch hp) (fun p hp => by
      rcases List.mem_append.mp hp with q | q
      · exact Nat.ne_of_lt (hlt p (List.mem_append_left _ q))
      · rcases List.mem_cons.mp q with rfl | q
        · exact nf
        · exact Nat.ne_of_lt (hlt p (List.mem_append_right _ (.tail _ q)))) e (by obtain ⟨_, _, dd, _⟩ := od'; cases e'; rfl)
  have T1 : (⟨hh, g, dr, t, os⟩ : Shared).TypeIs (.ref f) "function" := ⟨_, hf, hc⟩
  have Q3 := h hh.objs.size _ F3 N3 hlt
  unfold setAttr
  refine wpAny_bind (wpAny_mkText (wpAny_bind (wpAny_callSpecial?_slot (s := ⟨hh, g, dr, t + 1, os⟩) ⟨_, hf, hc⟩ fn_sa (wpAny_call ?_))))
  have SF := PySem.F.store_object
  refine codeAny_call_builtin SF.slot.plain SF.entry (fn_sa.check _ _ _ _ _ _ _ _ ⟨_, hf, hc⟩ (SF.args _ _ _) ?_)
  rw [osa_eq, refuse_eq]
  refine wpAny_bind (wpAny_bind (wpAny_typeOf ⟨_, hf, hc⟩ ?_))
  rw [fn_mro]
  refine wpAny_bind (wpAny_pure ?_)
  rw [fn_passes]
  refine wpAny_pure (wpAny_bind (wpAny_typeOf ⟨_, hf, hc⟩ ?_))
  rw [hlk]
  refine wpAny_bind (wpAny_pure (wpAny_bind (wpAny_pure ?_)))
  dsimp only
  unfold storeInOwnDict
  have own : ownStreamTells (.ref f) (.type "function") = pure () := by kernel_rfl
  rw [own]
  refine wpAny_bind (wpAny_pure ?_)
  dsimp only
  have c0 : (Value.type "function" == Value.type "module") ≠ true := by decide +kernel
  rw [if_neg c0]
  refine wpAny_bind ?_
  unfold ownDictForStores instanceDict
  refine wpAny_bind (wpAny_loadPart hf ?_)
  rw [hc]
  dsimp only
  rw [hd]
  dsimp only
  have c1 : ¬ ((!true || !typeHasDict (Value.type "function")) = true) := by decide +kernel
  rw [if_neg c1, hdt]
  dsimp only
  refine wpAny_bind (wpAny_alloc ?_)
  refine wpAny_bind (wpAny_update (Heap.get?_push_of_some _ hf) ?_)
  have c2 : finalisedInACycleAlone "function" = false := by decide +kernel
  unfold dictMade
  dsimp only
  rw [c2]
  refine wpAny_bind (wpAny_pure (wpAny_pure ?_))
  dsimp only
  unfold storeInDict
  have D := (N2 (hh.objs.size, emptyDict) (by simp)).1
  have D' := (N3 (hh.objs.size, od') (by simp)).1
  refine wpAny_bind (wpAny_pure (wpAny_bind ?_))
  unfold nsSet
  refine wpAny_bind (wpAny_bind (wpAny_askSetting (wpAny_pure (wpAny_bind (wpAny_mkText (wpAny_bind (wpAny_loadPart D ?_)))))))
  have c3 : aRefKeyMayBeTheName name #[] = false := by rw [aRefKeyMayBeTheName_at]; simp
  dsimp only
  rw [c3]
  refine wpAny_updatePart D ?_
  refine wpAny_bind (wpAny_lookBehind D' (by rw [e']; exact pastItsLine_dict (by rw [List.size_toArray, sizeLine_eq]; (first | lia | omega))) ?_)
  exact wpAny_pure (wpAny_pure Q3)
theorem setattr_fnU {prog : Program} {w : World} {A : Around} {E : Value → Shared → Prop} {s : Shared} {h₀ : Heap} {L f : Addr} {m : PySem.Str → Option Value} {v : Value} {Q : Unit → Shared → Prop} {name : PySem.Str}
    {news : List (Addr × Obj)} {G : Obj → List (Addr × Obj)} {fo od' : Obj} {fd : FuncData} {es : List DictEntry} {n : Nat} (hlk : typeLookup (.type "function") name = pure none)
    (F : Fr h₀ L s.heap m) (N : News h₀ L s.heap news) (U : UpdF f fo news G) (hc : fo.cls = .type "function") (hd : fo.dict = none) (hdt : fo.data = .func fd)
    (e : Obj.putName name (PyData.keyHash w.params name) (.str name (s.toks + 1)) v emptyDict = od') (e' : od'.data = .dict es.toArray n) (hz : es.length ≤ 1000)
    (h : ∀ d h', Fr h₀ L h' m → News h₀ L h' ((d, od') :: G { fo with dict := some d }) → (∀ p ∈ news, p.1 < d) → Q () { s with heap := h', toks := s.toks + 1 + 1 }) :
    wpAny (model prog w) A (setAttr (.ref f) name v) Q E s := by
  obtain ⟨own, rest, rfl, hgr, h1, h2⟩ := U.split
  refine setattr_fn hlk F N hc hd hdt h1 h2 e e' hz fun d h' F' N' hl => h d h' F' ?_ hl
  rw [hgr]
  exact N'
end Mine

end

theorem Mine.reset_M6 : True ∧ True := by
  w_top off
  walk1 <;> trivial
section
open PySem PySem.W PyProof.Rows PySem.Calls
set_option Elab.async false
set_option maxRecDepth 100000
set_option maxHeartbeats 4000000
namespace Mine

/-- the names of a lexer's own dict, its values free -/
noncomputable abbrev lexD (w : World) (k1 k2 k3 k4 t1 t3 : Tok) (line : Int) (f pb : Addr) : Obj :=
  dictOf [⟨PyData.keyHash w.params (PySem.Str.ofString "lineno"), .str (PySem.Str.ofString "lineno") k1, .int line t1⟩,
    ⟨PyData.keyHash w.params (PySem.Str.ofString "instream"), .str (PySem.Str.ofString "instream") k2, .ref f⟩,
    ⟨PyData.keyHash w.params (PySem.Str.ofString "whitespace"), .str (PySem.Str.ofString "whitespace") k3, .str (PySem.Str.ofString "\n\t\r ") t3⟩,
    ⟨PyData.keyHash w.params (PySem.Str.ofString "pushback"), .str (PySem.Str.ofString "pushback") k4, .ref pb⟩] 4

theorem init_ok {w : World} {A : Around} {s : Shared} {R : Result → Shared → Prop} {x dx f : Addr} (G : Gd w (hideAll s.heap [x, dx])) (hA : AOk A 3) (ht : 0 < s.toks)
    (hx : s.heap.get? x = some (instObj 60 dx)) (hdx : s.heap.get? dx = some emptyDict) (hne : dx < x)
    (h : ∀ h' tk pb k1 k2 k3 k4 t1 t3, 0 < tk → h'.get? x = some (instObj 60 dx) → h'.get? dx = some (lexD w k1 k2 k3 k4 t1 t3 1 f pb) → h'.get? pb = some (listOf #[] 0) → x < pb →
      s.heap.objs.size ≤ h'.objs.size → (∀ b o, s.heap.get? b = some o → b ≠ dx → h'.get? b = some o) → R (.ok (.ret .none)) { s with heap := h', toks := tk }) :
   codeAny (model PG w) A (.call (.ref 36) ⟨[.ref x, .ref f], []⟩) R s := by
  have G' := G
  refine hideG fun g9 hg9 => ?_
  obtain ⟨X, p, loose, mean, mg, mb, T⟩ := G
  refine hg9 ?_
  clear hg9 g9
  refine hideG fun g9 hg9 => ?_
  obtain ⟨ha, dp, fr, gd, un⟩ := A
  refine hg9 ?_
  clear hg9 g9
  refine hideG fun g9 hg9 => ?_
  obtain rfl : ha = none := hA.hand
  refine hg9 ?_
  clear hg9 g9
  refine codeAny_with_toks (Nat.le_refl s.toks) ?_
  refine' enterK (h₀ := hideAll s.heap [x, dx]) (fun _ _ e => of_hideAll _ e) (Nat.le_of_eq (hideAll_size _ _)) (news := [(x, instObj 60 dx), (dx, emptyDict)]) (fun q hq => by
    rcases List.mem_cons.mp hq with rfl | hq
    · exact ⟨hx, hideAll_none _ (.head _)⟩
    rcases List.mem_singleton.mp hq with rfl
    exact ⟨hdx, hideAll_none _ (.tail _ (.head _))⟩) X T.nolimit ?ho ?hcd hA.room ?hbind ?hloc ?_ ?c1 ?c2 ?c3 ?c4
  ((case ho => k_is); (case hcd => k_is); (case hbind => exact BindsTo.of_eq rfl); (case hloc => exact locs rfl); (case c1 => exact rfl); (case c2 => exact rfl); (case c3 => exact rfl); (case c4 => decide))
  intro L h₁ tk0 htk F N hL hLt hk
  k_lt2 hne
  have F0 := Fr.cong (m' := fun y => if y = PySem.Str.ofString "fp" then some (.ref f) else if y = PySem.Str.ofString "self" then some (.ref x) else none) F (fun y => by
    show List.lookup y [(PySem.Str.ofString "fp", _), (PySem.Str.ofString "self", _)] = _
    rw [lkc, lk1])
  clear F
  repeat walk1
  rename_i l1 _ F8 N8 ht9
  dsimp only
  refine h _ _ _ _ _ _ _ _ _ (Nat.lt_of_lt_of_le ht ht9) (N8 (x, _) (.tail _ (.head _))).1 (N8 (dx, _) (.tail _ (.tail _ (.head _)))).1 (N8 (_, _) (.head _)).1 l1.1 ?_ ?_
  · exact Nat.le_of_lt (hL ▸ F8.ns.lt)
  · intro b o e hb
    by_cases q : b = x
    · subst q
      rw [hx] at e
      cases e
      exact (N8 (b, _) (.tail _ (.head _))).1
    · exact F8.keep b o (hideAll_get _ e (by simp [hb, q]))
end Mine

end

theorem Mine.reset_M7 : True ∧ True := by
  w_top off
  walk1 <;> trivial
section
open PySem PySem.W PyProof.Rows PySem.Calls
set_option Elab.async false
set_option maxRecDepth 100000
set_option maxHeartbeats 600000
namespace Mine

theorem enterL {prog : Program} {w : World} {A : Around} {R : Result → Shared → Prop} {s : Shared} {h₀ : Heap} {news : List (Addr × Obj)} {name qual : PySem.Str} {params : Arguments} {body : Expr} {scope : Scope}
    {cl : List (PySem.Str × Addr)} {pm ctv : Value} {c' f : Addr} {args : Args} {binds : List (PySem.Str × Value)}
    (keep : ∀ b o, h₀.get? b = some o → s.heap.get? b = some o) (hsz : h₀.objs.size ≤ s.heap.objs.size)
    (N : ∀ p ∈ news, s.heap.get? p.1 = some p.2 ∧ h₀.get? p.1 = none) (hlim : h₀.NoLimit)
    (ho : s.heap.get? f = some (kla_obj name qual params body scope cl pm c' ctv)) (hcd : s.heap.CodeRec (.ref c') qual) (hroom : A.depth < recursionLimit)
    (hbind : bindArgs (kla_fn name qual params body scope cl pm (.ref c') ctv) args = pure binds) (hloc : ∀ y ∈ binds, scope.names.lookup y.1 = some .local)
    (h : ∀ L' h₁ tk, s.toks ≤ tk → Fr h₀ L' h₁ (fun y => binds.reverse.lookup y) → News h₀ L' h₁ news → L' = s.heap.objs.size → L' < h₁.objs.size → (∀ b o, s.heap.get? b = some o → h₁.get? b = some o) →
      wpAny (model prog w) (A.deeper (envX qual scope L' f (.ref c') cl)) (eval body (envX qual scope L' f (.ref c') cl))
        (fun v s' => R (.ok (.ret v)) s') (fun _ _ => False) { s with heap := h₁, toks := tk })
    (hco : scope.isCoroutine = false) (hgen : scope.isGenerator = false) (hk : scope.kind = .function) (hcell : ∀ x ∈ scope.names, x.2 ≠ .cell) : codeAny (model prog w) A (.call (.ref f) args) R s := by
  refine kla_callFunE hroom ho rfl hco hgen rfl hcd ?_
  rw [hbind]
  refine wpAny_pure (wpAny_newFunctionEnv hcell hloc (fun h₁ hns hsb => ⟨(hlim.keeps keep).fresh _ hsb, ?_⟩) hk)
  show codeAny _ _ (.expr body (envX qual scope s.heap.objs.size f (.ref c') cl)) _ _
  have hk₁ : ∀ b o, s.heap.get? b = some o → h₁.get? b = some o := fun b o e => hsb.extBut b o (Nat.ne_of_lt (Heap.lt_size e)) (Heap.get?_push_of_some _ e)
  exact kla_codeExpr (wpAny_mono (h s.heap.objs.size h₁ _ (Nat.le_add_right _ _) ⟨hns, fun b o e => hk₁ b o (keep b o e), hsz⟩
    (fun p hp => ⟨hk₁ _ _ (N p hp).1, Nat.ne_of_lt (Heap.lt_size (N p hp).1), (N p hp).2⟩) rfl hns.lt hk₁) (fun v s' hl => hl) fun _ _ y => y.elim)

noncomputable abbrev lexQ : PySem.Str := PySem.Str.ofString "_law_lexer" ++ PySem.Str.ofString ".<locals>." ++ PySem.Str.ofString "<lambda>"
noncomputable abbrev rdParams : Arguments :=
  letI a : Arguments := _
  letI b : Expr := _
  letI c : Scope := _
  haveI h : PySem.Challenge.pw_wn0077_01.main.body[16]? = some (.FunctionDef _ _ [_, _, .Assign [_] (.Lambda a b c _) _, _] _ _ _ _ _ _ _) := rfl
  a
noncomputable abbrev rdBody : Expr :=
  letI a : Arguments := _
  letI b : Expr := _
  letI c : Scope := _
  haveI h : PySem.Challenge.pw_wn0077_01.main.body[16]? = some (.FunctionDef _ _ [_, _, .Assign [_] (.Lambda a b c _) _, _] _ _ _ _ _ _ _) := rfl
  b
noncomputable abbrev rdScope : Scope :=
  letI a : Arguments := _
  letI b : Expr := _
  letI c : Scope := _
  haveI h : PySem.Challenge.pw_wn0077_01.main.body[16]? = some (.FunctionDef _ _ [_, _, .Assign [_] (.Lambda a b c _) _, _] _ _ _ _ _ _ _) := rfl
  c
noncomputable abbrev rdObj (cl : Addr) (pm ct : Value) (c' : Addr) : Obj := kla_obj (Str.ofString "<lambda>") lexQ rdParams rdBody rdScope [(Str.ofString "left", cl)] pm c' ct

theorem isTrue_name (x : PySem.Str) (pos : Pos) (env : Env) (whole : Sem Value) : PySem.isTrue (.Name x pos) env whole = (do let v ← whole; standAt pos; holding [v] (truthy v)) := rfl
theorem isTrue_nm {M : Model} {A : Around} {E : Value → Shared → Prop} {s : Shared} {x : PySem.Str} {pos : Pos} {env : Env} {whole : Sem Value} {Q : Bool → Shared → Prop} (h : wpAny M A whole (fun v s₁ => wpAny M A (truthy v) Q E s₁) E s) :
    wpAny M A (PySem.isTrue (.Name x pos) env whole) Q E s := by
  rw [isTrue_name]
  exact wpAny_bind (wpAny_mono h (fun v s₁ h₁ => wpAny_bind (wpAny_standAt (wpAny_holding h₁))) fun _ _ x => x)

theorem seq0 (n : Nat) : seqIndex? 0 (n + 1) = some 0 := by
  unfold seqIndex?
  have : (0 : Int) < ((n + 1 : Nat) : Int) := by (first | lia | omega)
  simp
  try (first | lia | omega)

theorem truthy_own {prog : Program} {w : World} {A : Around} {E : Value → Shared → Prop} {s : Shared} {h₀ : Heap} {L l : Addr} {vs : List Value} {n : Nat} {news : List (Addr × Obj)} {Q : Bool → Shared → Prop}
    (N : News h₀ L s.heap news) (hm : (l, listOf vs.toArray n) ∈ news) (hz : vs.length ≤ 1000000) (h : Q (!vs.isEmpty) { s with toks := s.toks + 1 + 1 }) : wpAny (model prog w) A (truthy (.ref l)) Q E s :=
  wpAny_truthy_list (items := vs.toArray) ⟨_, (N _ hm).1, rfl, n, rfl⟩ (by rw [List.size_toArray]; (first | lia | omega)) (by rw [List.isEmpty_toArray]; exact h)

local macro_rules | `(tactic| walk_at "eval Name") => `(tactic| (refine nameX_F (by assumption) (by rfl) (by k_mem) (by assumption) ?_ rfl (by rfl)))
theorem rd_ok {w : World} {A : Around} {s : Shared} {Q : Value → Shared → Prop} {E : Value → Shared → Prop} {g c l c' : Addr} {pm ct : Value} {oc : Obj} {vs : List Value} {n : Nat} {u : Tok}
    (G : Gd w (hideAll s.heap [c, l])) (hA : AOk A 3) (ht : 0 < s.toks) (hg : s.heap.get? g = some (rdObj c pm ct c')) (hc' : s.heap.CodeRec (.ref c') lexQ) (hc : s.heap.get? c = some oc) (hcd : oc.data = .cell (some (.ref l)))
    (hl : s.heap.get? l = some (listOf vs.toArray n)) (hcl : c < l) {left : List Nat} (hS : StrsAre vs (chs left)) (hsz : vs.length ≤ 1000000)
    (h : ∀ h' tk t' vs' n', 0 < tk → StrsAre vs' (chs (left.drop 1)) → vs'.length ≤ 1000000 → h'.get? l = some (listOf vs'.toArray n') → s.heap.objs.size ≤ h'.objs.size → (∀ b o, s.heap.get? b = some o → b ≠ l → h'.get? b = some o) →
      Q (.str (sx (left.take 1)) t') { s with heap := h', toks := tk }) :
   wpAny (model PG w) A (call (.ref g) [.int 1 u]) Q E s := by
  have G' := G
  refine hideG fun g9 hg9 => ?_
  obtain ⟨X, p, loose, mean, mg, mb, T⟩ := G
  refine hg9 ?_
  clear hg9 g9
  refine hideG fun g9 hg9 => ?_
  obtain ⟨ha, dp, fr, gd, un⟩ := A
  refine hg9 ?_
  clear hg9 g9
  refine hideG fun g9 hg9 => ?_
  obtain rfl : ha = none := hA.hand
  refine hg9 ?_
  clear hg9 g9
  refine wpAny_with_toks (Nat.le_refl s.toks) ?_
  refine wpAny_call ?_
  refine' enterL (h₀ := hideAll s.heap [c, l]) (fun _ _ e => of_hideAll _ e) (Nat.le_of_eq (hideAll_size _ _)) (news := [(c, oc), (l, listOf vs.toArray n)]) (fun q hq => by
    rcases List.mem_cons.mp hq with rfl | hq
    · exact ⟨hc, hideAll_none _ (.head _)⟩
    rcases List.mem_singleton.mp hq with rfl
    exact ⟨hl, hideAll_none _ (.tail _ (.head _))⟩) T.nolimit hg hc' hA.room (binds := [(Str.ofString "size", .int 1 u)]) rfl (locs rfl) ?_ rfl rfl rfl (by decide)
  intro L h₁ tk0 htk F N hL hLt hk
  have F0 := Fr.cong (m' := fun y => if y = PySem.Str.ofString "size" then some (.int 1 u) else none) F (fun y => by
    show List.lookup y [(PySem.Str.ofString "size", _)] = _
    rw [lk1])
  clear F
  k_lt2 hcl
  iterate 2 walk1
  refine isTrue_nm ?_
  refine nameX_F N (by rfl) (.head _) hcd ?_ rfl (by rfl)
  have hvs : vs.length ≤ 1000000 := hsz
  refine truthy_own N (.tail _ (.head _)) hvs ?_
  have hS' := hS
  cases vs with
  | nil =>
    obtain rfl : left = [] := by cases left with
      | nil => rfl
      | cons _ _ => cases hS
    dsimp only [List.isEmpty_nil, Bool.not_true]
    rw [if_neg (by decide)]
    repeat walk1
    rename_i ht9
    refine h _ _ _ [] n (Nat.lt_of_lt_of_le ht ht9) .nil (by simp) (N (l, _) (.tail _ (.head _))).1 (Nat.le_of_lt (hL ▸ F0.ns.lt)) ?_
    intro b o e _
    exact hk b o e
  | cons y r =>
    dsimp only [List.isEmpty_cons, Bool.not_false]
    rw [if_pos (by rfl)]
    iterate 9 walk1
    refine meth_line (hl := ?hl) (hb := ?hb) (hf := ?hf) ?_
    (case hl => exact rfl)
    (case hb => exact rfl)
    (case hf => exact rfl)
    refine nameX_F N (by rfl) (.head _) hcd ?_ rfl (by rfl)
    refine kl_method N (.tail _ (.head _)) PySem.F.slot_list_pop PySem.F.type_list_pop ?_
    iterate 4 walk1
    cases left with
    | nil => cases hS
    | cons d left =>
    cases hS with
    | cons _ t9 hS2 =>
    refine kl_popAt (k := 0) (p := []) (q := r) (y := _) F0 N rfl (by rw [List.size_toArray, List.length_cons]; exact seq0 _) rfl (.tail (Nat.ne_of_lt hcl) (.head (List.forall_mem_nil _))) ?_ ?_
    · rw [sizeLine_eq]
      have : (Value.str (sx [d]) t9 :: r).length ≤ 1000000 := hsz
      show (Value.str (sx [d]) t9 :: r).length ≤ _
      (first | lia | omega)
    intro h2 F2 N2 ht9
    refine h h2 _ _ r (n + 1) (Nat.lt_of_lt_of_le ht ht9) hS2 (by simp at hsz; (first | lia | omega)) (N2 (l, _) (.tail _ (.head _))).1 (Nat.le_of_lt (hL ▸ F2.ns.lt)) ?_
    intro b o e hb
    by_cases q : b = c
    · subst q
      rw [hc] at e
      cases e
      exact (N2 (b, oc) (.head _)).1
    · exact F2.keep b o (hideAll_get _ e (by simp [hb, q]))
end Mine

end

theorem Mine.reset_M8 : True ∧ True := by
  w_top off
  walk1 <;> trivial
section
open PySem PySem.W PyProof.Rows PySem.Calls
set_option Elab.async false
set_option maxRecDepth 100000
set_option maxHeartbeats 4000000
namespace Mine

/-- where a lexer's objects lie -/
structure LA where
  (x dx pb f fd g c l c' : Nat)
noncomputable def LA.mut (a : LA) : List Nat := [a.dx, a.pb, a.l]
noncomputable def LA.own (a : LA) : List Nat := [a.x, a.dx, a.pb, a.f, a.fd, a.g, a.c, a.l]
noncomputable def LA.all (a : LA) : List Nat := [a.x, a.dx, a.pb, a.f, a.fd, a.g, a.c, a.l, a.c']
structure LA.Ok (a : LA) : Prop where
  (o1 : a.c < a.l) (o2 : a.l < a.f) (o3 : a.f < a.g) (o4 : a.g < a.fd) (o5 : a.fd < a.dx) (o6 : a.dx < a.x) (o7 : a.x < a.pb) (p1 : a.c' ≠ a.dx) (p2 : a.c' ≠ a.pb) (p3 : a.c' ≠ a.l)

structure LexIn (w : World) (h : Heap) (a : LA) (line : Nat) (left : List Nat) (pbk : List (List Nat)) : Prop where
  xo : h.get? a.x = some (instObj 60 a.dx)
  dxo : ∃ k1 k2 k3 k4 t1 t3, h.get? a.dx = some (lexD w k1 k2 k3 k4 t1 t3 line a.f a.pb)
  pbo : ∃ vs n, h.get? a.pb = some (listOf (List.toArray vs) n) ∧ StrsAre vs (pbk.map sx)
  lo : ∃ vs n, h.get? a.l = some (listOf (List.toArray vs) n) ∧ StrsAre vs (chs left)
  fo : ∃ fdt sl, h.get? a.f = some ⟨.type "function", some a.fd, .func fdt, sl⟩
  fdo : ∃ k, h.get? a.fd = some (dictOf [⟨PyData.keyHash w.params (PySem.Str.ofString "read"), .str (PySem.Str.ofString "read") k, .ref a.g⟩] 1)
  go : ∃ pm ct, h.get? a.g = some (rdObj a.c pm ct a.c')
  co' : h.CodeRec (.ref a.c') lexQ
  co : ∃ oc, h.get? a.c = some oc ∧ oc.data = .cell (some (.ref a.l))

noncomputable abbrev tbl2 (c1 c2 : Nat) : Obj := tabObj #[rawInt 155, rawInt 13, .ref c1, rawInt 156, rawInt 18, .ref c2]

theorem put_empty (name : PySem.Str) (h : Int) (k v : Value) : Obj.putName name h k v emptyDict = dictOf [⟨h, k, v⟩] 1 := by rfl
local macro_rules | `(tactic| walk_at "call type:list") => `(tactic| (refine' list_chars rfl ?F ?N (by assumption) ?_; (case F => k_asm); (case N => k_asm); intro h' tk' d' vs' n' F' N' l1 l2 hS'; (try k_lt l1); (try k_lt2 l2)))
local macro_rules | `(tactic| walk_at "setAttr ref") => `(tactic| (refine' setattr_fnU fn_noread ?F ?N ?U ?a1 ?a2 ?a3 ?e ?e2 ?z ?_; (case F => k_asm); (case N => k_asm); (case U => k_updF); (case a1 => rfl); (case a2 => rfl); (case a3 => rfl); (case e => exact put_empty _ _ _ _); (case e2 => rfl); (case z => exact Nat.le_of_ble_eq_true rfl); intro d' h' F' N' l1; (try dsimp only at N'); (try k_lt l1)))

theorem Gd.hide {w : World} {g h : Heap} {as : List Addr} (G : Gd w g) (k : ∀ b o, g.get? b = some o → h.get? b = some o) (ha : ∀ a ∈ as, g.get? a = none) : Gd w (hideAll h as) :=
  G.keeps fun b o e => hideAll_get as (k b o e) fun hm => by rw [ha b hm] at e; cases e
theorem AOk.under {A : Around} {k : Nat} {C : Addr} {rest : List Value} (h : AOk A (k + 1)) : AOk (A.under (.builtin "type.__call__" ⟨.ref C :: rest, []⟩)) k :=
  ⟨h.hand, by have := h.depth; show A.depth + 1 + k < _; (first | lia | omega), by
    have := h.units
    have e : Code.cUnits (.builtin "type.__call__" ⟨.ref C :: rest, []⟩) = 1 := by kernel_rfl
    show A.units + Code.cUnits _ + 8 * k < _
    rw [e]
    (first | lia | omega)⟩

theorem class_ok {w : World} {A : Around} {s : Shared} {Q : Value → Shared → Prop} {E : Value → Shared → Prop} {h₀ : Heap} {L f : Addr} {m : PySem.Str → Option Value} {news : List (Addr × Obj)} (G : Gd w h₀) (hA : AOk A 4) (ht : 0 < s.toks)
    (F : Fr h₀ L s.heap m) (N : News h₀ L s.heap news)
    (h : ∀ h' tk x dx pb k1 k2 k3 k4 t1 t3, 0 < tk → h'.get? x = some (instObj 60 dx) → h'.get? dx = some (lexD w k1 k2 k3 k4 t1 t3 1 f pb) → h'.get? pb = some (listOf #[] 0) → (∀ p ∈ news, p.1 < dx) → dx < x → x < pb →
      s.heap.objs.size ≤ h'.objs.size → (∀ b o, s.heap.get? b = some o → h'.get? b = some o) → Q (.ref x) { s with heap := h', toks := tk }) :
    wpAny (model PG w) A (call (.ref 60) [.ref f]) Q E s := by
  have G' := G
  refine hideG fun g9 hg9 => ?_
  obtain ⟨X, p, loose, mean, mg, mb, T⟩ := G
  refine hg9 ?_
  clear hg9 g9
  refine wpAny_call ?_
  refine hideG fun g9 hg9 => ?_
  obtain ⟨hh, g, dr, tk, os⟩ := s
  refine hg9 ?_
  clear hg9 g9
  have XX := X.keeps F.keep
  have ini : typeIn (kk.heap_1 w.params) (.ref 36) = some (.type "function") := by k_is
  refine make_core (makes_of XX (by k_is)) (looks_findIn XX (r := some (.ref 36)) (by k_is)) (fun self => bind_fn XX self ini) (.inl rfl) ?_
  have l0 : hh.objs.size < hh.objs.size + 1 := Nat.lt_succ_self _
  have k1 : ∀ b o, hh.get? b = some o → ((hh.push emptyDict).push (instObj 60 hh.objs.size)).get? b = some o := fun b o e => Heap.get?_push_of_some _ (Heap.get?_push_of_some _ e)
  have hx : ((hh.push emptyDict).push (instObj 60 hh.objs.size)).get? (hh.objs.size + 1) = some (instObj 60 hh.objs.size) := by heap_get
  have hd : ((hh.push emptyDict).push (instObj 60 hh.objs.size)).get? (hh.objs.size) = some emptyDict := by heap_get
  have fr : ∀ a, hh.objs.size ≤ a → h₀.get? a = none := fun a ha => Heap.get?_none_of_le (Nat.le_trans F.above (Nat.le_trans (Nat.le_of_lt F.ns.lt) ha))
  have g1 : Gd w (hideAll ((hh.push emptyDict).push (instObj 60 hh.objs.size)) [hh.objs.size + 1, hh.objs.size]) := G'.hide (fun b o e => k1 b o (F.keep b o e)) fun a ha => by
    rcases List.mem_cons.mp ha with rfl | ha
    · exact fr _ (Nat.le_succ _)
    · rcases List.mem_singleton.mp ha with rfl
      exact fr _ (Nat.le_refl _)
  refine init_ok g1 (AOk.under hA) ht hx hd l0 fun h' tk' pb a1 a2 a3 a4 b1 b3 htk hx2 hdx hpb l3 hs hk => ?_
  refine ⟨rfl, ?_⟩
  dsimp only
  refine h h' tk' _ _ pb _ _ _ _ _ _ htk hx2 hdx hpb (fun p hp => Heap.lt_size (N p hp).1) l0 l3 ?_ fun b o e => hk b o (k1 b o e) (Nat.ne_of_lt (Heap.lt_size e))
  simp only [Heap.size_push] at hs
  show hh.objs.size ≤ _
  (first | lia | omega)

theorem lexer_first {w : World} {A : Around} {s : Shared} {Q : Value → Shared → Prop} {E : Value → Shared → Prop} {l : List Nat} {t : Tok} (G : Gd w (hideAll s.heap [127])) (hA : AOk A 6) (hl : l.length ≤ 1000000) (ht : 0 < s.toks)
    (hT : s.heap.get? 127 = some (tabObj #[])) (hC : CodeHd (hideAll s.heap [127]) 131 127)
    (h : ∀ h' tk a c1, 0 < tk → a.Ok → LexIn w h' a 1 l [] → h'.get? 127 = some (tbl2 c1 a.c') → (∀ q ∈ a.all, s.heap.objs.size ≤ q) → s.heap.objs.size ≤ h'.objs.size → (∀ b o, s.heap.get? b = some o → b ≠ 127 → h'.get? b = some o) →
      Q (.ref a.x) { s with heap := h', toks := tk }) :
   wpAny (model PG w) A (call (.ref 132) [.str (sx l) t]) Q E s := by
  have G' := G
  refine hideG fun g9 hg9 => ?_
  obtain ⟨X, p, loose, mean, mg, mb, T⟩ := G
  refine hg9 ?_
  clear hg9 g9
  refine hideG fun g9 hg9 => ?_
  obtain ⟨ha, dp, fr, gd, un⟩ := A
  refine hg9 ?_
  clear hg9 g9
  refine hideG fun g9 hg9 => ?_
  obtain rfl : ha = none := hA.hand
  refine hg9 ?_
  clear hg9 g9
  refine wpAny_with_toks (Nat.le_refl s.toks) ?_
  refine wpAny_call ?_
  refine' enterKC (h₀ := hideAll s.heap [127]) (fun _ _ e => of_hideAll _ e) (Nat.le_of_eq (hideAll_size _ _)) (news := [(127, tabObj #[])]) (fun q hq => by
    rcases List.mem_singleton.mp hq with rfl
    exact ⟨hT, hideAll_none _ (.head _)⟩) X T.nolimit ?ho ?hcd hA.room ?hbind ?hkind ?hnd ?_ ?c1 ?c2 ?c3
  ((case ho => k_is); (case hcd => k_is); (case hbind => exact BindsTo.of_eq rfl); (case hkind => exact rfl); (case hnd => decide +kernel); (case c1 => exact rfl); (case c2 => exact rfl); (case c3 => exact rfl))
  intro L h₁ tk0 cells htk F N Y hlt hL hLt hk
  k_lt hlt
  k_cells Y
  simp only [List.cons_append, List.nil_append] at N
  dsimp only
  repeat walk1
  (with_reducible rename Fr _ _ _ _ => F8)
  (with_reducible rename News _ _ _ _ => N8)
  clear hT
  rename_i gq d' hd' l6
  refine class_ok G' (AOk.le hA.deeper (by decide)) (Nat.succ_pos _) F8 N8 fun h9 tk9 x dx pb k1 k2 k3 k4 t1 t3 ht9 hx hdx hpb ll l7 l8 hsz hk9 _ => ?_
  k_lt ll
  k_lt2 l7
  k_lt2 l8
  have n0 := (N8 _ (.head _)).1
  have n1 := (N8 _ (.tail _ (.head _))).1
  have n2 := (N8 _ (.tail _ (.tail _ (.head _)))).1
  have n3 := (N8 _ (.tail _ (.tail _ (.tail _ (.head _))))).1
  have n4 := (N8 _ (.tail _ (.tail _ (.tail _ (.tail _ (.head _)))))).1
  have n5 := (N8 _ (.tail _ (.tail _ (.tail _ (.tail _ (.tail _ (.head _))))))).1
  have n6 := (N8 _ (.tail _ (.tail _ (.tail _ (.tail _ (.tail _ (.tail _ (.head _)))))))).1
  have n7 := (N8 _ (.tail _ (.tail _ (.tail _ (.tail _ (.tail _ (.tail _ (.tail _ (.head _))))))))).1
  have fk := F8.keep
  have fs := F8.ns.lt
  clear F8 N8
  have lx : LexIn w h9 ⟨x, dx, pb, _, _, _, _, _, _⟩ 1 l [] :=
    ⟨hx, ⟨_, _, _, _, _, _, hdx⟩, ⟨[], 0, hpb, .nil⟩, ⟨_, _, hk9 _ _ n5, by assumption⟩, ⟨_, _, hk9 _ _ n3⟩, ⟨_, hk9 _ _ n0⟩, ⟨_, _, hk9 _ _ n1⟩, ⟨_, _, _, _, rfl, hk9 _ _ n2, by assumption, by assumption⟩, ⟨_, hk9 _ _ n6, by assumption⟩⟩
  refine h h9 tk9 _ _ ht9 ?_ lx (hk9 _ _ n7) ?_ ?_ ?_
  · clear n0 n1 n2 n3 n4 n5 n6 n7 lx hx hdx hpb
    constructor <;> (dsimp only; try simp only [Nat.lt_irrefl]) <;> (first | lia | omega)
  · intro q hq
    simp only [LA.all, List.mem_cons, List.not_mem_nil, or_false] at hq
    clear n0 n1 n2 n3 n4 n5 n6 n7 lx hx hdx hpb
    rw [← hL]
    have up : ∀ {a : Nat}, L + 1 < a → L ≤ a := fun h => Nat.le_of_lt (Nat.lt_of_succ_lt h)
    clear G' X T hA h hk9 hsz fk fs hk
    repeat ((with_reducible rename _ ∧ _ => hh); obtain ⟨_, _⟩ := hh)
    have hx1 : L + 1 < x := Nat.lt_trans (m := dx) (by assumption) (by assumption)
    have hpb1 : L + 1 < pb := Nat.lt_trans hx1 (by assumption)
    rcases hq with rfl | rfl | rfl | rfl | rfl | rfl | rfl | rfl | rfl <;> first | exact up (by assumption) | exact Nat.le_succ _ | (refine up (Nat.lt_trans (m := _) ?_ (by assumption : @LT.lt Nat _ _ q)); assumption)
  · exact Nat.le_trans (Nat.le_of_lt (hL ▸ fs)) hsz
  · intro b o e hb
    exact hk9 _ _ (fk b o (hideAll_get _ e (by simpa using hb)))
theorem reset_M9 : True ∧ True := by
  w_top off
  walk1 <;> trivial
theorem lexer_more {w : World} {A : Around} {s : Shared} {Q : Value → Shared → Prop} {E : Value → Shared → Prop} {l : List Nat} {t : Tok} (G : Gd w (hideAll s.heap [127])) (hA : AOk A 6) (hl : l.length ≤ 1000000) (ht : 0 < s.toks)
    {c1 c2 : Nat} (hT : s.heap.get? 127 = some (tbl2 c1 c2)) (hc2 : s.heap.CodeRec (.ref c2) lexQ) (hn2 : c2 ≠ 127) (hC : CodeHd (hideAll s.heap [127]) 131 127)
    (h : ∀ h' tk a, 0 < tk → a.Ok → LexIn w h' a 1 l [] → a.c' = c2 → h'.get? 127 = some (tbl2 c1 c2) → (∀ q ∈ a.own, s.heap.objs.size ≤ q) → s.heap.objs.size ≤ h'.objs.size → (∀ b o, s.heap.get? b = some o → b ≠ 127 → h'.get? b = some o) →
      Q (.ref a.x) { s with heap := h', toks := tk }) :
   wpAny (model PG w) A (call (.ref 132) [.str (sx l) t]) Q E s := by
  have G' := G
  refine hideG fun g9 hg9 => ?_
  obtain ⟨X, p, loose, mean, mg, mb, T⟩ := G
  refine hg9 ?_
  clear hg9 g9
  refine hideG fun g9 hg9 => ?_
  obtain ⟨ha, dp, fr, gd, un⟩ := A
  refine hg9 ?_
  clear hg9 g9
  refine hideG fun g9 hg9 => ?_
  obtain rfl : ha = none := hA.hand
  refine hg9 ?_
  clear hg9 g9
  refine wpAny_with_toks (Nat.le_refl s.toks) ?_
  refine wpAny_call ?_
  refine' enterKC (h₀ := hideAll s.heap [127]) (fun _ _ e => of_hideAll _ e) (Nat.le_of_eq (hideAll_size _ _)) (news := [(127, tbl2 c1 c2)]) (fun q hq => by
    rcases List.mem_singleton.mp hq with rfl
    exact ⟨hT, hideAll_none _ (.head _)⟩) X T.nolimit ?ho ?hcd hA.room ?hbind ?hkind ?hnd ?_ ?c1 ?c2 ?c3
  ((case ho => k_is); (case hcd => k_is); (case hbind => exact BindsTo.of_eq rfl); (case hkind => exact rfl); (case hnd => decide +kernel); (case c1 => exact rfl); (case c2 => exact rfl); (case c3 => exact rfl))
  intro L h₁ tk0 cells htk F N Y hlt hL hLt hk
  k_lt hlt
  k_cells Y
  simp only [List.cons_append, List.nil_append] at N
  dsimp only
  repeat walk1
  (with_reducible rename Fr _ _ _ _ => F8)
  (with_reducible rename News _ _ _ _ => N8)
  clear hT
  rename_i d' hd' l6
  refine class_ok G' (AOk.le hA.deeper (by decide)) (Nat.succ_pos _) F8 N8 fun h9 tk9 x dx pb k1 k2 k3 k4 t1 t3 ht9 hx hdx hpb ll l7 l8 hsz hk9 _ => ?_
  k_lt ll
  k_lt2 l7
  k_lt2 l8
  have n0 := (N8 _ (.head _)).1
  have n1 := (N8 _ (.tail _ (.head _))).1
  have n2 := (N8 _ (.tail _ (.tail _ (.head _)))).1
  have n5 := (N8 _ (.tail _ (.tail _ (.tail _ (.head _))))).1
  have n6 := (N8 _ (.tail _ (.tail _ (.tail _ (.tail _ (.head _)))))).1
  have n7 := (N8 _ (.tail _ (.tail _ (.tail _ (.tail _ (.tail _ (.head _))))))).1
  have fk := F8.keep
  have fs := F8.ns.lt
  clear F8 N8
  refine hideG fun g9 hg9 => ?_
  obtain ⟨c2', oc, vs, tq, ec, hoc, hdc, hq⟩ := hc2
  refine hg9 ?_
  clear hg9 g9
  obtain rfl := PySem.Value.ref.inj ec
  have hlt2 : c2 < s.heap.objs.size := Heap.lt_size hoc
  have kk : ∀ b o, s.heap.get? b = some o → b ≠ 127 → h9.get? b = some o := fun b o e hb => hk9 _ _ (fk b o (hideAll_get _ e (by simpa using hb)))
  have lx : LexIn w h9 ⟨x, dx, pb, _, _, _, _, _, _⟩ 1 l [] :=
    ⟨hx, ⟨_, _, _, _, _, _, hdx⟩, ⟨[], 0, hpb, .nil⟩, ⟨_, _, hk9 _ _ n5, by assumption⟩, ⟨_, _, hk9 _ _ n2⟩, ⟨_, hk9 _ _ n0⟩, ⟨_, _, hk9 _ _ n1⟩, ⟨c2, oc, vs, tq, rfl, kk _ _ hoc hn2, hdc, hq⟩, ⟨_, hk9 _ _ n6, by assumption⟩⟩
  refine h h9 tk9 _ ht9 ?_ lx rfl (hk9 _ _ n7) ?_ ?_ kk
  · clear n0 n1 n2 n5 n6 n7 lx hx hdx hpb
    rw [← hL] at hlt2
    constructor <;> (dsimp only; try simp only [Nat.lt_irrefl]) <;> (first | lia | omega)
  · intro q hq
    simp only [LA.own, List.mem_cons, List.not_mem_nil, or_false] at hq
    clear n0 n1 n2 n5 n6 n7 lx hx hdx hpb
    rw [← hL]
    have up : ∀ {a : Nat}, L + 1 < a → L ≤ a := fun h => Nat.le_of_lt (Nat.lt_of_succ_lt h)
    clear G' X T hA h hk9 hsz fk fs hk
    repeat ((with_reducible rename _ ∧ _ => hh); obtain ⟨_, _⟩ := hh)
    have hx1 : L + 1 < x := Nat.lt_trans (m := dx) (by assumption) (by assumption)
    have hpb1 : L + 1 < pb := Nat.lt_trans hx1 (by assumption)
    rcases hq with rfl | rfl | rfl | rfl | rfl | rfl | rfl | rfl <;> first | exact up (by assumption) | exact Nat.le_succ _ | (refine up (Nat.lt_trans (m := _) ?_ (by assumption : @LT.lt Nat _ _ q)); assumption)
  · exact Nat.le_trans (Nat.le_of_lt (hL ▸ fs)) hsz
end Mine

end

theorem Mine.reset_M10 : True ∧ True := by
  w_top off
  walk1 <;> trivial
section
open PySem PySem.W PyProof.Rows PySem.Calls
open Builtin Builtin.ObjectAttr
set_option Elab.async false
set_option maxRecDepth 100000
set_option maxHeartbeats 1000000
namespace Mine

theorem fn_ga : Slot "function" "__getattribute__" "object.__getattribute__" :=
  .of (owner := "object") (n := "__getattribute__") (by rw [typeLookup_type, builtinLookup_eq_fast]; kernel_rfl) (by decide +kernel) (by decide +kernel) (by decide +kernel)
    (by first | exact .inl (by decide +kernel) | exact .inr (by decide +kernel)) (by rw [isSubtype_type]; kernel_rfl)
theorem fn_nohook : typeLookup (.type "function") "__getattr__" = pure none := by rw [typeLookup_type, builtinLookup_eq_fast]; kernel_rfl
theorem obj_ga_entry : entryFor table "object.__getattribute__" = some Builtin.«object.__getattribute__» := entryFor_of_tree (by kernel_rfl)
theorem obj_ga_canon : (Manifest.canonical "object.__getattribute__" != "object.__getattribute__") = false := by decide +kernel
theorem obj_ga_args (a b : Value) : argsOk "object.__getattribute__" ⟨[a, b], []⟩ := by unfold argsOk; kernel_rfl
theorem getmethod_fn {prog : Program} {w : World} {A : Around} {E : Value → Shared → Prop} {s : Shared} {Q : Value × List Value → Shared → Prop} {f fd g : Addr} {fdt : FuncData} {sl : Array (Option Value)} {name : PySem.Str} {od : Obj} {pl : Sem Bool}
    (hlk : typeLookup (.type "function") name = pure none) (hf : s.heap.get? f = some ⟨.type "function", some fd, .func fdt, sl⟩) (hd : s.heap.get? fd = some od) (hl0 : lookIn name od = some (some (.ref g)))
    (h : Q (.ref g, []) { s with toks := s.toks + 1 }) : wpAny (model prog w) A (getMethod (.ref f) name pl) Q E s := by
  have hl := nsLook_of hl0
  have T1 : ∀ t, (⟨s.heap, s.gens, s.drawn, t, s.os⟩ : Shared).TypeIs (.ref f) "function" := fun t => ⟨_, hf, rfl⟩
  refine hideG fun g9 hg9 => ?_
  obtain ⟨hh, gg, dr, t, os⟩ := s
  refine hg9 ?_
  clear hg9 g9
  unfold getMethod
  refine wpAny_bind (wpAny_specialOf (T1 _) fn_ga.lookup ?_)
  show wpAny _ _ (if (Manifest.canonical "object.__getattribute__" != "object.__getattribute__") = true then _ else _) _ _ _
  rw [obj_ga_canon, if_neg Bool.false_ne_true]
  refine wpAny_bind (wpAny_specialOf (T1 _) fn_nohook ?_)
  refine wpAny_bind (wpAny_specialOf (T1 _) hlk ?_)
  unfold getAttr getAttrBy
  refine wpAny_bind (wpAny_bind (wpAny_mkText (wpAny_holding (wpAny_bind (wpAny_typeOf (T1 _) (wpAny_bind (wpAny_of_eq fn_ga.lookup ?_)))))))
  show wpAny _ _ (getAttrByItsOwn (.ref f) (.str name t) (.type "function") (.builtin "object.__getattribute__") true false) _ _ _
  unfold getAttrByItsOwn hookBefore callGetattribute boundAndCalled
  refine wpAny_bind (wpAny_of_eq (show (if onTheHeap (.type "function") then typeLookup (.type "function") "__getattr__" else pure none) = pure none from rfl) ?_)
  refine wpAny_bind (wpAny_attempt (wpAny_holding ?_))
  show wpAny _ _ (bindSpecial (.builtin "object.__getattribute__") (.ref f) >>= _) _ _ _
  refine wpAny_bind (wpAny_of_eq (fn_ga.bind _) ?_)
  refine wpAny_call (codeAny_call_builtin fn_ga.plain obj_ga_entry (fn_ga.check _ _ _ _ _ _ _ _ (T1 _) (obj_ga_args _ _) ?_))
  rw [List.singleton_append]
  unfold Builtin.«object.__getattribute__»
  with_unfolding_all show wpAny _ _ (typeOf (.ref f) >>= _) _ _ _
  refine wpAny_bind (wpAny_typeOf (T1 _) ?_)
  with_unfolding_all show wpAny _ _ (find (.ref f) (.type "function") name >>= _) _ _ _
  refine wpAny_bind ?_
  unfold find
  refine wpAny_bind (wpAny_of_eq hlk (wpAny_bind (wpAny_pure (wpAny_bind (wpAny_pure ?_)))))
  show wpAny _ _ (ownThenClass (.ref f) name none none) _ _ _
  unfold ownThenClass inOwnDict ObjectAttr.ownDict loadHead
  refine wpAny_bind (wpAny_bind (wpAny_bind (wpAny_loadPart hf ?_)))
  unfold instanceDict
  refine wpAny_bind (wpAny_loadPart hf (wpAny_pure ?_))
  unfold inDict nsGet
  refine wpAny_bind (wpAny_loadPart hd ?_)
  rw [hl]
  refine wpAny_pure (wpAny_bind (wpAny_rule (wpAny_pure (wpAny_pure ?_))))
  exact wpAny_pure (wpAny_pure h)
end Mine

end

theorem Mine.reset_M11 : True ∧ True := by
  w_top off
  walk1 <;> trivial
section
open PySem PySem.W PyProof.Rows PySem.Calls
set_option Elab.async false
set_option maxRecDepth 100000
set_option maxHeartbeats 4000000
namespace Mine

theorem Fr.but {h₀ h h' : Heap} {L : Addr} {m : PySem.Str → Option Value} {as : List Addr} (F : Fr h₀ L h m) (k : ∀ b o, h.get? b = some o → b ∉ as → h'.get? b = some o) (ha : ∀ a ∈ as, h₀.get? a = none ∧ a ≠ L) : Fr h₀ L h' m := by
  refine hideG fun g9 hg9 => ?_
  obtain ⟨oL, es, ep, hL, r⟩ := F.ns
  refine hg9 ?_
  clear hg9 g9
  exact ⟨⟨oL, es, ep, k _ _ hL fun hm => (ha _ hm).2 rfl, r⟩, fun b o e => k b o (F.keep b o e) (fun hm => by rw [(ha _ hm).1] at e; cases e), F.above⟩

/-- the list of a lexer's four objects that a body sees -/
theorem LexIn.keeps {w : World} {h h' : Heap} {a : LA} {as : List Addr} {line : Nat} {left : List Nat} {pbk : List (List Nat)} (X : LexIn w h a line left pbk) (k : ∀ b o, h.get? b = some o → b ∉ as → h'.get? b = some o) (hd : ∀ b ∈ as, b ∉ a.all) : LexIn w h' a line left pbk := by
  have kk : ∀ b o, b ∈ a.all → h.get? b = some o → h'.get? b = some o := fun b o hb e => k b o e fun hm => hd b hm hb
  refine hideG fun g9 hg9 => ?_
  obtain ⟨h1, ⟨k1, k2, k3, k4, t1, t3, h2⟩, ⟨vp, np, h3, s3⟩, ⟨vl, nl, h4, s4⟩, ⟨fdt, sl, h5⟩, ⟨kr, h6⟩, ⟨pm, ct, h7⟩, ⟨c, oc, vs, tq, ec, h8, hdc, hq⟩, ⟨oce, h9, h9d⟩⟩ := X
  refine hg9 ?_
  clear hg9 g9
  have ec' : a.c' = c := by cases ec; rfl
  subst ec'
  exact ⟨kk _ _ (by simp [LA.all]) h1, ⟨k1, k2, k3, k4, t1, t3, kk _ _ (by simp [LA.all]) h2⟩, ⟨vp, np, kk _ _ (by simp [LA.all]) h3, s3⟩, ⟨vl, nl, kk _ _ (by simp [LA.all]) h4, s4⟩, ⟨fdt, sl, kk _ _ (by simp [LA.all]) h5⟩,
    ⟨kr, kk _ _ (by simp [LA.all]) h6⟩, ⟨pm, ct, kk _ _ (by simp [LA.all]) h7⟩, ⟨_, oc, vs, tq, rfl, kk _ _ (by simp [LA.all]) h8, hdc, hq⟩, ⟨oce, kk _ _ (by simp [LA.all]) h9, h9d⟩⟩

theorem LexIn.after {w : World} {h₀ h' : Heap} {a : LA} {L : Addr} {m : PySem.Str → Option Value} {line line' : Nat} {left left' : List Nat} {pbk pbk' : List (List Nat)} {news : List (Addr × Obj)} {vp vl : List Value} {np nl : Nat} {k1 k2 k3 k4 t1 t3 : Tok}
    (I : LexIn w h₀ a line left pbk) (O : a.Ok) (F : Fr (hideAll h₀ [a.x, a.dx, a.pb, a.l]) L h' m) (N : News (hideAll h₀ [a.x, a.dx, a.pb, a.l]) L h' news)
    (m1 : (a.x, instObj 60 a.dx) ∈ news) (m2 : (a.dx, lexD w k1 k2 k3 k4 t1 t3 line' a.f a.pb) ∈ news) (m3 : (a.pb, listOf vp.toArray np) ∈ news) (m4 : (a.l, listOf vl.toArray nl) ∈ news) (s3 : StrsAre vp (pbk'.map sx)) (s4 : StrsAre vl (chs left')) :
    LexIn w h' a line' left' pbk' ∧ ∀ b o, h₀.get? b = some o → b ∉ a.mut → h'.get? b = some o := by
  have kk : ∀ b o, h₀.get? b = some o → b ∉ a.mut → h'.get? b = some o := fun b o e hb => by
    by_cases q : b = a.x
    · subst q
      have := I.xo
      rw [e] at this
      cases this
      exact (N _ m1).1
    · exact F.keep b o (hideAll_get _ e (by simp [LA.mut] at hb ⊢; exact ⟨q, hb⟩))
  refine ⟨?_, kk⟩
  refine hideG fun g9 hg9 => ?_
  obtain ⟨h1, -, -, -, ⟨fdt, sl, h5⟩, ⟨kr, h6⟩, ⟨pm, ct, h7⟩, ⟨c, oc, vs, tq, ec, h8, hdc, hq⟩, ⟨oce, h9, h9d⟩⟩ := I
  refine hg9 ?_
  clear hg9 g9
  have ec' : a.c' = c := by cases ec; rfl
  subst ec'
  refine hideG fun g9 hg9 => ?_
  obtain ⟨o1, o2, o3, o4, o5, o6, o7, p1, p2, p3⟩ := O
  refine hg9 ?_
  clear hg9 g9
  refine ⟨(N _ m1).1, ⟨_, _, _, _, _, _, (N _ m2).1⟩, ⟨_, _, (N _ m3).1, s3⟩, ⟨_, _, (N _ m4).1, s4⟩, ⟨_, _, kk _ _ h5 ?_⟩, ⟨_, kk _ _ h6 ?_⟩, ⟨_, _, kk _ _ h7 ?_⟩, ⟨_, _, _, _, rfl, kk _ _ h8 ?_, hdc, hq⟩, ⟨_, kk _ _ h9 ?_, h9d⟩⟩ <;> (simp only [LA.mut, List.mem_cons, List.not_mem_nil, or_false, not_or]; refine ⟨?_, ?_, ?_⟩ <;> first | exact p1 | exact p2 | exact p3 | exact Nat.ne_of_lt (by (first | lia | omega)) | exact Nat.ne_of_gt (by (first | lia | omega)))

theorem rd_look (hh : Int) (k : Tok) (v : Value) : lookIn (PySem.Str.ofString "read") (dictOf [⟨hh, .str (PySem.Str.ofString "read") k, v⟩] 1) = some (some v) := by kernel_rfl

theorem readchC_ok {w : World} {A : Around} {s : Shared} {R : Result → Shared → Prop} {a : LA} {line : Nat} {left : List Nat} {pbk : List (List Nat)} (G : Gd w (hideAll s.heap a.all)) (hA : AOk A 5)
    (O : a.Ok) (I : LexIn w s.heap a line left pbk) (hl : left.length ≤ 1000000)
    (h : ∀ h' tk t', s.toks ≤ tk → LexIn w h' a (if left.take 1 = [10] then line + 1 else line) (left.drop 1) pbk → s.heap.objs.size ≤ h'.objs.size → (∀ b o, s.heap.get? b = some o → b ∉ a.mut → h'.get? b = some o) →
      R (.ok (.ret (.str (sx (left.take 1)) t'))) { s with heap := h', toks := tk }) :
    codeAny (model PG w) A (.call (.ref 43) ⟨[.ref a.x], []⟩) R s := by
  have I' := I
  refine hideG fun g9 hg9 => ?_
  obtain ⟨x, dx, pb, f, fd, g, c, l, c'⟩ := a
  refine hg9 ?_
  clear hg9 g9
  refine hideG fun g9 hg9 => ?_
  obtain ⟨o1, o2, o3, o4, o5, o6, o7, p1, p2, p3⟩ := O
  refine hg9 ?_
  clear hg9 g9
  dsimp only at o1 o2 o3 o4 o5 o6 o7 p1 p2 p3
  refine hideG fun g9 hg9 => ?_
  obtain ⟨h1, ⟨k1, k2, k3, k4, t1, t3, h2⟩, ⟨vp, np, h3, s3⟩, ⟨vl, nl, h4, s4⟩, ⟨fdt, sl, h5⟩, ⟨kr, h6⟩, ⟨pm, ct, h7⟩, h8, ⟨oce, h9, h9d⟩⟩ := I
  refine hg9 ?_
  clear hg9 g9
  dsimp only at h1 h2 h3 h4 h5 h6 h7 h8 h9 h9d
  have Gb : Gd w (hideAll s.heap [x, dx, pb, l]) := G.hide (fun _ _ e => of_hideAll _ e) fun b hb => hideAll_none _ (by
    simp only [List.mem_cons, List.not_mem_nil, or_false] at hb
    rcases hb with e | e | e | e <;> simp [LA.all, e])
  have G' := Gb
  refine hideG fun g9 hg9 => ?_
  obtain ⟨X, p, loose, mean, mg, mb, T⟩ := Gb
  refine hg9 ?_
  clear hg9 g9
  refine hideG fun g9 hg9 => ?_
  obtain ⟨ha, dp, fr, gd, un⟩ := A
  refine hg9 ?_
  clear hg9 g9
  refine hideG fun g9 hg9 => ?_
  obtain rfl : ha = none := hA.hand
  refine hg9 ?_
  clear hg9 g9
  refine codeAny_with_toks (Nat.le_refl s.toks) ?_
  refine' enterK (h₀ := hideAll s.heap [x, dx, pb, l]) (fun _ _ e => of_hideAll _ e) (Nat.le_of_eq (hideAll_size _ _)) (news := [(x, instObj 60 dx), (dx, lexD w k1 k2 k3 k4 t1 t3 line f pb), (pb, listOf vp.toArray np), (l, listOf vl.toArray nl)]) (fun q hq => by
    have e : q.1 ∈ [x, dx, pb, l] := by have := List.mem_map_of_mem (f := Prod.fst) hq; exact this
    refine ⟨?_, hideAll_none _ e⟩
    simp only [List.mem_cons, List.not_mem_nil, or_false] at hq
    rcases hq with rfl | rfl | rfl | rfl <;> assumption) X T.nolimit ?ho ?hcd hA.room ?hbind ?hloc ?_ ?c1 ?c2 ?c3 ?c4
  ((case ho => k_is); (case hcd => k_is); (case hbind => exact BindsTo.of_eq rfl); (case hloc => exact locs rfl); (case c1 => exact rfl); (case c2 => exact rfl); (case c3 => exact rfl); (case c4 => decide))
  intro L h₁ tk0 htk F N hL hLt hk
  have F0 := Fr.cong (m' := fun y => if y = PySem.Str.ofString "ch" then none else if y = PySem.Str.ofString "self" then some (.ref x) else none) F (fun y => by
    show List.lookup y [(PySem.Str.ofString "self", _)] = _
    rw [lk1]
    by_cases q : y = PySem.Str.ofString "ch"
    · subst q; rfl
    · simp [q])
  clear F
  iterate 6 walk1
  have kb : ∀ b o, s.heap.get? b = some o → b ∉ [x, dx, pb, l] → h₁.get? b = some o := fun b o e _ => hk b o e
  dsimp only
  refine getmethod_fn fn_noread (hk _ _ h5) (hk _ _ h6) (rd_look _ _ _) ?_
  dsimp only
  have fn7 : FnAt g h₁ := ⟨_, _, _, _, hk _ _ h7⟩
  refine callWith_F fn7 ?_
  iterate 3 walk1
  refine ⟨fn7, ?_⟩
  have R7 := h8.keeps hk
  have n9 := (N (l, _) (.tail _ (.tail _ (.tail _ (.head _))))).1
  have Gr : Gd w (hideAll h₁ [c, l]) := G.hide (fun b o e => hk b o (of_hideAll _ e)) fun b hb => hideAll_none _ (by
    simp only [List.mem_cons, List.not_mem_nil, or_false] at hb
    rcases hb with e | e <;> simp [LA.all, e])
  refine rd_ok (pm := pm) (ct := ct) (c' := c') (c := c) (l := l) Gr (AOk.le hA.deeper (by decide)) (Nat.succ_pos _) (hk _ _ h7) R7 (hk _ _ h9) h9d n9 o1 s4 ?_ ?_
  · have := s4.length
    rw [List.length_map] at this
    (first | lia | omega)
  intro h2' tk2 t2 vs2 n2 ht2 sS2 hz2 hl2 hs2 hk2
  have F2 : Fr _ L h2' _ := Fr.but (as := [l]) F0 (fun b o e hb => hk2 b o e (by simpa using hb)) (fun b hb => by
    rcases List.mem_singleton.mp hb with rfl
    exact ⟨hideAll_none _ (by simp), by rw [hL]; exact Nat.ne_of_lt (Heap.lt_size h4)⟩)
  have N2 : News (hideAll s.heap [x, dx, pb, l]) L h2' [(x, instObj 60 dx), (dx, lexD w k1 k2 k3 k4 t1 t3 line f pb), (pb, listOf vp.toArray np), (l, listOf vs2.toArray n2)] := by
    intro q hq
    simp only [List.mem_cons, List.not_mem_nil, or_false] at hq
    rcases hq with rfl | rfl | rfl | rfl
    · exact ⟨hk2 _ _ (N _ (.head _)).1 (by first | exact Nat.ne_of_lt (by (first | lia | omega)) | exact Nat.ne_of_gt (by (first | lia | omega))), (N _ (.head _)).2⟩
    · exact ⟨hk2 _ _ (N _ (.tail _ (.head _))).1 (by first | exact Nat.ne_of_lt (by (first | lia | omega)) | exact Nat.ne_of_gt (by (first | lia | omega))), (N _ (.tail _ (.head _))).2⟩
    · exact ⟨hk2 _ _ (N _ (.tail _ (.tail _ (.head _)))).1 (by first | exact Nat.ne_of_lt (by (first | lia | omega)) | exact Nat.ne_of_gt (by (first | lia | omega))), (N _ (.tail _ (.tail _ (.head _)))).2⟩
    · exact ⟨hl2, (N (l, _) (.tail _ (.tail _ (.tail _ (.head _))))).2⟩
  clear N F0 n9
  have hlen : (sx (left.take 1)).length ≤ 7 := by rw [sx_len]; exact Nat.le_trans (List.length_take_le _ _) (by decide)
  clear hk2 hl2 hk kb
  clear h2 h3 h4 h5 h6 h7 h8 h9 h9d R7 Gr fn7 G h1
  have gen := fun {h' : Heap} {m : PySem.Str → Option Value} {news : List (Addr × Obj)} {line' : Nat} {k1 k2 k3 k4 t1 t3 : Tok} (F : Fr (hideAll s.heap [x, dx, pb, l]) L h' m) (N : News (hideAll s.heap [x, dx, pb, l]) L h' news) m1 (m2 : (dx, lexD w k1 k2 k3 k4 t1 t3 line' f pb) ∈ news) m3 m4 =>
    LexIn.after (a := ⟨x, dx, pb, f, fd, g, c, l, c'⟩) (vp := vp) (vl := vs2) (np := np) (nl := n2) I' ⟨o1, o2, o3, o4, o5, o6, o7, p1, p2, p3⟩ F N m1 m2 m3 m4 s3 sS2
  iterate 10 walk1
  · rename_i hnl
    repeat walk1
    rename_i F3 N3 ht9
    have e1 : left.take 1 = [10] := by
      have : sx (left.take 1) = sx [10] := by rw [← show PySem.Str.ofString "\n" = sx [10] by decide +kernel]; simpa using hnl
      exact sx_inj this
    rw [if_pos e1] at h
    refine hideG fun g9 hg9 => ?_
    obtain ⟨r1, r2⟩ := gen (line' := line + 1) F3 N3 (.head _) (.tail _ (.head _)) (.tail _ (.tail _ (.head _))) (.tail _ (.tail _ (.tail _ (.head _))))
    refine hg9 ?_
    clear hg9 g9
    exact h _ _ _ ht9 r1 (Nat.le_of_lt (hL ▸ F3.ns.lt)) r2
  · rename_i hnl
    repeat walk1
    rename_i F3 N3 hnl ht9
    have e1 : left.take 1 ≠ [10] := by
      intro e
      rw [e, show PySem.Str.ofString "\n" = sx [10] by decide +kernel] at hnl
      simp at hnl
    rw [if_neg e1] at h
    refine hideG fun g9 hg9 => ?_
    obtain ⟨r1, r2⟩ := gen (line' := line) F3 N3 (.head _) (.tail _ (.head _)) (.tail _ (.tail _ (.head _))) (.tail _ (.tail _ (.tail _ (.head _))))
    refine hg9 ?_
    clear hg9 g9
    exact h _ _ _ ht9 r1 (Nat.le_of_lt (hL ▸ F3.ns.lt)) r2
end Mine

end

theorem Mine.reset_M12 : True ∧ True := by
  w_top off
  walk1 <;> trivial
section
open PySem PySem.W PyProof.Rows PySem.Calls
set_option Elab.async false
set_option maxRecDepth 100000
set_option maxHeartbeats 4000000
namespace Mine

theorem strsAre_snoc {vs : List Value} {ts : List PySem.Str} {x : PySem.Str} {u : Tok} (h : StrsAre vs ts) : StrsAre (vs ++ [.str x u]) (ts ++ [x]) := by
  induction h with
  | nil => exact .cons _ _ .nil
  | cons y t _ ih => exact .cons _ _ ih

theorem push_ok {w : World} {A : Around} {s : Shared} {Q : Value → Shared → Prop} {E : Value → Shared → Prop} {a : LA} {line : Nat} {left : List Nat} {pbk : List (List Nat)} (G : Gd w (hideAll s.heap a.all)) (hA : AOk A 5)
    (O : a.Ok) (I : LexIn w s.heap a line left pbk) (hl : pbk.length ≤ 1000) {tx : List Nat} {u : Tok}
    (h : ∀ h' tk, s.toks ≤ tk → LexIn w h' a line left (pbk ++ [tx]) → s.heap.objs.size ≤ h'.objs.size → (∀ b o, s.heap.get? b = some o → b ∉ a.mut → h'.get? b = some o) →
      Q .none { s with heap := h', toks := tk }) :
    wpAny (model PG w) A (call (.ref 57) [.ref a.x, .str (sx tx) u]) Q E s := by
  have I' := I
  refine hideG fun g9 hg9 => ?_
  obtain ⟨x, dx, pb, f, fd, g, c, l, c'⟩ := a
  refine hg9 ?_
  clear hg9 g9
  refine hideG fun g9 hg9 => ?_
  obtain ⟨o1, o2, o3, o4, o5, o6, o7, p1, p2, p3⟩ := O
  refine hg9 ?_
  clear hg9 g9
  dsimp only at o1 o2 o3 o4 o5 o6 o7 p1 p2 p3
  refine hideG fun g9 hg9 => ?_
  obtain ⟨h1, ⟨k1, k2, k3, k4, t1, t3, h2⟩, ⟨vp, np, h3, s3⟩, ⟨vl, nl, h4, s4⟩, ⟨fdt, sl, h5⟩, ⟨kr, h6⟩, ⟨pm, ct, h7⟩, h8, ⟨oce, h9, h9d⟩⟩ := I
  refine hg9 ?_
  clear hg9 g9
  dsimp only at h1 h2 h3 h4 h5 h6 h7 h8 h9 h9d
  have Gb : Gd w (hideAll s.heap [x, dx, pb, l]) := G.hide (fun _ _ e => of_hideAll _ e) fun b hb => hideAll_none _ (by
    simp only [List.mem_cons, List.not_mem_nil, or_false] at hb
    rcases hb with e | e | e | e <;> simp [LA.all, e])
  have G' := Gb
  refine hideG fun g9 hg9 => ?_
  obtain ⟨X, p, loose, mean, mg, mb, T⟩ := Gb
  refine hg9 ?_
  clear hg9 g9
  refine hideG fun g9 hg9 => ?_
  obtain ⟨ha, dp, fr, gd, un⟩ := A
  refine hg9 ?_
  clear hg9 g9
  refine hideG fun g9 hg9 => ?_
  obtain rfl : ha = none := hA.hand
  refine hg9 ?_
  clear hg9 g9
  refine wpAny_with_toks (Nat.le_refl s.toks) ?_
  refine wpAny_call ?_
  refine' enterK (h₀ := hideAll s.heap [x, dx, pb, l]) (fun _ _ e => of_hideAll _ e) (Nat.le_of_eq (hideAll_size _ _)) (news := [(x, instObj 60 dx), (dx, lexD w k1 k2 k3 k4 t1 t3 line f pb), (pb, listOf vp.toArray np), (l, listOf vl.toArray nl)]) (fun q hq => by
    have e : q.1 ∈ [x, dx, pb, l] := by have := List.mem_map_of_mem (f := Prod.fst) hq; exact this
    refine ⟨?_, hideAll_none _ e⟩
    simp only [List.mem_cons, List.not_mem_nil, or_false] at hq
    rcases hq with rfl | rfl | rfl | rfl <;> assumption) X T.nolimit ?ho ?hcd hA.room ?hbind ?hloc ?_ ?c1 ?c2 ?c3 ?c4
  ((case ho => k_is); (case hcd => k_is); (case hbind => exact BindsTo.of_eq rfl); (case hloc => exact locs rfl); (case c1 => exact rfl); (case c2 => exact rfl); (case c3 => exact rfl); (case c4 => decide))
  intro L h₁ tk0 htk F N hL hLt hk
  have F0 := Fr.cong (m' := fun y => if y = PySem.Str.ofString "token" then some (.str (sx tx) u) else if y = PySem.Str.ofString "self" then some (.ref x) else none) F (fun y => by
    show List.lookup y [(PySem.Str.ofString "token", _), (PySem.Str.ofString "self", _)] = _
    rw [lkc, lk1])
  clear F
  have hvp := s3.length
  rw [List.length_map] at hvp
  clear h2 h3 h4 h5 h6 h7 h8 h9 h9d h1 hk
  iterate 11 walk1
  refine append_K F0 N (.tail ?_ (.tail ?_ (.head ?_))) ?_ ?_
  · exact Nat.ne_of_lt o7
  · exact Nat.ne_of_lt (by (first | lia | omega))
  · intro q hq
    simp only [List.mem_cons, List.not_mem_nil, or_false] at hq
    subst hq
    exact Nat.ne_of_lt (by (first | lia | omega))
  · intro h2 F2 N2
    repeat walk1
    rename_i ht9
    obtain ⟨r1, r2⟩ := LexIn.after (a := ⟨x, dx, pb, f, fd, g, c, l, c'⟩) (vp := vp ++ [.str (sx tx) u]) (vl := vl) (line' := line) (pbk' := pbk ++ [tx]) I' ⟨o1, o2, o3, o4, o5, o6, o7, p1, p2, p3⟩ F2 N2 (.head _) (.tail _ (.head _)) (np := np + 1) (by simp) (.tail _ (.tail _ (.tail _ (.head _)))) (by rw [List.map_append]; exact strsAre_snoc s3) s4
    exact h _ _ ht9 r1 (Nat.le_of_lt (hL ▸ F2.ns.lt)) r2
  · rw [List.size_toArray, sizeLine_eq]
    (first | lia | omega)
end Mine

end

theorem Mine.reset_M13 : True ∧ True := by
  w_top off
  walk1 <;> trivial
section
open PySem PySem.W PyProof.Rows PySem.Calls
set_option Elab.async false
set_option maxRecDepth 100000
set_option maxHeartbeats 4000000
namespace Mine

theorem gettok_push {w : World} {A : Around} {s : Shared} {Q : Value → Shared → Prop} {E : Value → Shared → Prop} {a : LA} {line : Nat} {left : List Nat} {pbk : List (List Nat)} (G : Gd w (hideAll s.heap a.all)) (hA : AOk A 5)
    {tx : List Nat} (O : a.Ok) (I : LexIn w s.heap a line left (tx :: pbk)) (hl : pbk.length ≤ 1000)
    (h : ∀ h' tk u, s.toks ≤ tk → LexIn w h' a line left pbk → s.heap.objs.size ≤ h'.objs.size → (∀ b o, s.heap.get? b = some o → b ∉ a.mut → h'.get? b = some o) →
      Q (.str (sx tx) u) { s with heap := h', toks := tk }) :
    wpAny (model PG w) A (call (.ref 50) [.ref a.x]) Q E s := by
  have I' := I
  refine hideG fun g9 hg9 => ?_
  obtain ⟨x, dx, pb, f, fd, g, c, l, c'⟩ := a
  refine hg9 ?_
  clear hg9 g9
  refine hideG fun g9 hg9 => ?_
  obtain ⟨o1, o2, o3, o4, o5, o6, o7, p1, p2, p3⟩ := O
  refine hg9 ?_
  clear hg9 g9
  dsimp only at o1 o2 o3 o4 o5 o6 o7 p1 p2 p3
  refine hideG fun g9 hg9 => ?_
  obtain ⟨h1, ⟨k1, k2, k3, k4, t1, t3, h2⟩, ⟨vp, np, h3, s3⟩, ⟨vl, nl, h4, s4⟩, ⟨fdt, sl, h5⟩, ⟨kr, h6⟩, ⟨pm, ct, h7⟩, h8, ⟨oce, h9, h9d⟩⟩ := I
  refine hg9 ?_
  clear hg9 g9
  dsimp only at h1 h2 h3 h4 h5 h6 h7 h8 h9 h9d
  have Gb : Gd w (hideAll s.heap [x, dx, pb, l]) := G.hide (fun _ _ e => of_hideAll _ e) fun b hb => hideAll_none _ (by
    simp only [List.mem_cons, List.not_mem_nil, or_false] at hb
    rcases hb with e | e | e | e <;> simp [LA.all, e])
  have G' := Gb
  refine hideG fun g9 hg9 => ?_
  obtain ⟨X, p, loose, mean, mg, mb, T⟩ := Gb
  refine hg9 ?_
  clear hg9 g9
  refine hideG fun g9 hg9 => ?_
  obtain ⟨ha, dp, fr, gd, un⟩ := A
  refine hg9 ?_
  clear hg9 g9
  refine hideG fun g9 hg9 => ?_
  obtain rfl : ha = none := hA.hand
  refine hg9 ?_
  clear hg9 g9
  refine wpAny_with_toks (Nat.le_refl s.toks) ?_
  refine wpAny_call ?_
  refine' enterK (h₀ := hideAll s.heap [x, dx, pb, l]) (fun _ _ e => of_hideAll _ e) (Nat.le_of_eq (hideAll_size _ _)) (news := [(x, instObj 60 dx), (dx, lexD w k1 k2 k3 k4 t1 t3 line f pb), (pb, listOf vp.toArray np), (l, listOf vl.toArray nl)]) (fun q hq => by
    have e : q.1 ∈ [x, dx, pb, l] := by have := List.mem_map_of_mem (f := Prod.fst) hq; exact this
    refine ⟨?_, hideAll_none _ e⟩
    simp only [List.mem_cons, List.not_mem_nil, or_false] at hq
    rcases hq with rfl | rfl | rfl | rfl <;> assumption) X T.nolimit ?ho ?hcd hA.room ?hbind ?hloc ?_ ?c1 ?c2 ?c3 ?c4
  ((case ho => k_is); (case hcd => k_is); (case hbind => exact BindsTo.of_eq rfl); (case hloc => exact locs rfl); (case c1 => exact rfl); (case c2 => exact rfl); (case c3 => exact rfl); (case c4 => decide))
  intro L h₁ tk0 htk F N hL hLt hk
  have F0 := Fr.cong (m' := fun y => if y = PySem.Str.ofString "self" then some (.ref x) else none) F (fun y => by
    show List.lookup y [(PySem.Str.ofString "self", _)] = _
    rw [lk1])
  clear F
  rw [List.map_cons] at s3
  cases s3 with
  | @cons _ u vp _ s3 =>
  have hvp := s3.length
  rw [List.length_map] at hvp
  clear h2 h3 h4 h5 h6 h7 h8 h9 h9d h1 hk
  iterate 6 walk1
  refine truthy_own N (.tail _ (.tail _ (.head _))) (by rw [List.length_cons]; (first | lia | omega)) ?_
  rw [if_pos (by rfl)]
  iterate 12 walk1
  refine kl_popAt (k := 0) (p := []) (q := vp) (y := .str (sx tx) u) F0 N rfl (by rw [List.size_toArray, List.length_cons]; exact seq0 _) rfl (.tail ?_ (.tail ?_ (.head ?_))) ?_ ?_
  · exact Nat.ne_of_lt o7
  · exact Nat.ne_of_lt (by (first | lia | omega))
  · intro q hq
    simp only [List.mem_cons, List.not_mem_nil, or_false] at hq
    subst hq
    exact Nat.ne_of_lt (by (first | lia | omega))
  · rw [sizeLine_eq]
    show (Value.str (sx tx) u :: vp).length ≤ _
    rw [List.length_cons]
    (first | lia | omega)
  · intro h2 F2 N2 ht9
    refine hideG fun g9 hg9 => ?_
    obtain ⟨r1, r2⟩ := LexIn.after (a := ⟨x, dx, pb, f, fd, g, c, l, c'⟩) (vp := vp) (vl := vl) (line' := line) (pbk' := pbk) I' ⟨o1, o2, o3, o4, o5, o6, o7, p1, p2, p3⟩ F2 N2 (.head _) (.tail _ (.head _)) (np := np + 1) (.tail _ (.tail _ (.head _))) (.tail _ (.tail _ (.tail _ (.head _)))) s3 s4
    refine hg9 ?_
    clear hg9 g9
    exact h _ _ _ ht9 r1 (Nat.le_of_lt (hL ▸ F2.ns.lt)) r2
end Mine

end

theorem Mine.reset_C0 : True ∧ True := by
  w_top off
  walk1 <;> trivial
section
open PySem PySem.W PyProof.Rows PySem.Calls PyProof.Rows.LCg PyProof.Rows.LCt
set_option Elab.async false
set_option maxRecDepth 100000
set_option maxHeartbeats 1000000
namespace Mine

section
variable {prog : Program} {w : World} {A : Around} {E : Value → Shared → Prop} {s : Shared} {h₀ : Heap} {L : Addr} {m : PySem.Str → Option Value} {env : Env}

/-- a list comprehension's turns, by what holds between them -/
theorem comp_inv {elt : Expr} {x : PySem.Str} {scope : Scope} {cl : List (PySem.Str × Addr)} {S : List (Addr × Obj) → Prop} {P : Nat → Value → Prop} {Fin : List Value → List (Addr × Obj) → Prop} {n : Nat} {news₀ : List (Addr × Obj)}
    (J : Nat → List Value → List (Addr × Obj) → Prop) (j0 : J 0 [] news₀)
    (turn : ∀ i ys news v I oI C oC D m₂ h tk (E' : Value → Shared → Prop), i < n → P i v → J i ys news → NsObj oC m₂ → m₂ x = some v → Fr h₀ L h m → News h₀ L h ((I, oI) :: (C, oC) :: (D, lst ys) :: news) → Off3 I C D news → ((@Ne Nat I C) ∧ (@Ne Nat I D) ∧ (@Ne Nat C D)) →
      wpAny (model prog w) A (eval elt (compEnvC scope cl C env)) (CompEnd h₀ L m { s with heap := h, toks := tk } I oI C oC D (lst ys) S (fun y news' => J (i + 1) (ys ++ [y]) news')) E' { s with heap := h, toks := tk })
    (fin : ∀ ys news, J n ys news → Fin ys news) : CompRest prog w A h₀ L m env elt x scope cl s S P Fin n 0 [] news₀ := by
  have key : ∀ (k i : Nat) (ys : List Value) (news : List (Addr × Obj)), i + k = n → J i ys news → CompRest prog w A h₀ L m env elt x scope cl s S P Fin k i ys news := by
    intro k
    induction k with
    | zero =>
      intro i ys news hi hJ
      refine hideG fun g9 hg9 => ?_
      obtain rfl : i = n := by (first | lia | omega)
      refine hg9 ?_
      clear hg9 g9
      exact CompRest.zero (fin _ _ hJ)
    | succ k ih =>
      intro i ys news hi hJ
      refine CompRest.succ ?_
      intro v I oI C oC D m₂ h tk E' hv hC hx F N off ne
      refine wpAny_mono (turn i ys news v I oI C oC D m₂ h tk E' (by (first | lia | omega)) hv hJ hC hx F N off ne) (fun y s₂ hq => ?_) fun _ _ e => e
      refine hideG fun g9 hg9 => ?_
      obtain ⟨h', tk', nw, e, F', N', off', hS, r⟩ := hq
      refine hg9 ?_
      clear hg9 g9
      exact ⟨h', tk', nw, e, F', N', off', hS, ih (i + 1) _ _ (by (first | lia | omega)) r⟩
  exact key n 0 [] news₀ (by (first | lia | omega)) j0

theorem comp_invT {ct elt : Expr} {x : PySem.Str} {scope : Scope} {cl : List (PySem.Str × Addr)} {S : List (Addr × Obj) → Prop} {P : Nat → Value → Prop} {Fin : List Value → List (Addr × Obj) → Prop} {n : Nat} {news₀ : List (Addr × Obj)}
    (J : Nat → List Value → List (Addr × Obj) → Prop) (j0 : J 0 [] news₀)
    (turn : ∀ i ys news v I oI C oC D m₂ h tk (E' : Value → Shared → Prop), i < n → P i v → J i ys news → NsObj oC m₂ → m₂ x = some v → Fr h₀ L h m → News h₀ L h ((I, oI) :: (C, oC) :: (D, lst ys) :: news) → Off3 I C D news → ((@Ne Nat I C) ∧ (@Ne Nat I D) ∧ (@Ne Nat C D)) →
      wpAny (model prog w) A (isTrue ct (compEnvC scope cl C env) (eval ct (compEnvC scope cl C env))) (fun ok s' => if ok = true then
        wpAny (model prog w) A (eval elt (compEnvC scope cl C env)) (CompEnd h₀ L m { s with heap := h, toks := tk } I oI C oC D (lst ys) S (fun y news' => J (i + 1) (ys ++ [y]) news')) E' s'
        else CompEnd h₀ L m { s with heap := h, toks := tk } I oI C oC D (lst ys) S (fun _ news' => J (i + 1) ys news') Value.none s') E' { s with heap := h, toks := tk })
    (fin : ∀ ys news, J n ys news → Fin ys news) : CompRestT prog w A h₀ L m env ct elt x scope cl s S P Fin n 0 [] news₀ := by
  have key : ∀ (k i : Nat) (ys : List Value) (news : List (Addr × Obj)), i + k = n → J i ys news → CompRestT prog w A h₀ L m env ct elt x scope cl s S P Fin k i ys news := by
    intro k
    induction k with
    | zero =>
      intro i ys news hi hJ
      refine hideG fun g9 hg9 => ?_
      obtain rfl : i = n := by (first | lia | omega)
      refine hg9 ?_
      clear hg9 g9
      exact CompRestT.zero (fin _ _ hJ)
    | succ k ih =>
      intro i ys news hi hJ
      refine CompRestT.succ ?_
      intro v I oI C oC D m₂ h tk E' hv hC hx F N off ne
      have conv : ∀ {y : Value} {s₂ : Shared} {ys' : List Value}, CompEnd h₀ L m { s with heap := h, toks := tk } I oI C oC D (lst ys) S (fun _ news' => J (i + 1) ys' news') y s₂ →
          CompEnd h₀ L m { s with heap := h, toks := tk } I oI C oC D (lst ys) S (fun _ news' => CompRestT prog w A h₀ L m env ct elt x scope cl s S P Fin k (i + 1) ys' news') y s₂ := by
        intro y s₂ ys' z91
        refine hideG fun g9 hg9 => ?_
        obtain ⟨h', tk', nw, e, F', N', off', hS, r⟩ := z91
        refine hg9 ?_
        clear hg9 g9
        exact ⟨h', tk', nw, e, F', N', off', hS, ih (i + 1) _ _ (by (first | lia | omega)) r⟩
      refine wpAny_mono (turn i ys news v I oI C oC D m₂ h tk E' (by (first | lia | omega)) hv hJ hC hx F N off ne) (fun ok s₂ hq => ?_) fun _ _ e => e
      cases ok with
      | true =>
        rw [if_pos rfl] at hq ⊢
        refine wpAny_mono hq (fun y s₃ hq => ?_) fun _ _ e => e
        refine hideG fun g9 hg9 => ?_
        obtain ⟨h', tk', nw, e, F', N', off', hS, r⟩ := hq
        refine hg9 ?_
        clear hg9 g9
        exact ⟨h', tk', nw, e, F', N', off', hS, ih (i + 1) _ _ (by (first | lia | omega)) r⟩
      | false =>
        rw [if_neg (by decide)] at hq ⊢
        exact conv hq
  exact key n 0 [] news₀ (by (first | lia | omega)) j0

theorem str_st {I : Addr} {T : String} {tx : PySem.Str} {t : Tok} : ∀ i (h h' : Heap) (o : Obj) (nw : List (Addr × Obj)), h.IsStrIter I T tx t i → h.get? I = some o → h'.get? I = some o → (∀ b o, h₀.get? b = some o → h'.get? b = some o) → News h₀ L h' nw → True → h'.IsStrIter I T tx t i :=
  fun i h h' o nw st e e' _ _ _ => by
    refine hideG fun g9 hg9 => ?_
    obtain ⟨o', q, r⟩ := st
    refine hg9 ?_
    clear hg9 g9
    rw [e] at q; cases q
    exact ⟨o, e', r⟩

/-- a list comprehension over a text's signs -/
theorem ListComp_S {elt iter : Expr} {x : PySem.Str} {px : Pos} {scope : Scope} {cl : List (PySem.Str × Addr)} {pos : Pos} {Q : Value → Shared → Prop} (F₀ : Fr h₀ L s.heap m)
    (hclos : closureFor scope env = pure cl) (hcell : ∀ y ∈ scope.names, y.2 ≠ .cell) (hkind : scope.kind = .function)
    (hnames : ∀ y ∈ scope.names, y.2 = .local → scope.names.lookup y.1 = some .local) (hx : scope.names.lookup x = some .local)
    (h : wpAny (model prog w) A (eval iter env) (fun xv s₁ => ∃ l t news, xv = .str (sx l) t ∧ A.handled = none ∧ Fr h₀ L s₁.heap m ∧ News h₀ L s₁.heap news ∧ l.length ≤ 1000000 ∧
      ∀ s₂ : Shared, (∃ h, s₂ = { s₁ with heap := h }) → CompRest prog w A h₀ L m env elt x scope cl s₂ (fun _ => True) (SignAt (sx l)) (FinE h₀ L m s₂ Q) l.length 0 [] news) E s)
    (hs : ∀ x, foldedSetIterable iter env x = pure x := by intro _; rfl) :
    wpAny (model prog w) A (eval (.ListComp elt [⟨.Name x px, iter, [], 0⟩] scope pos) env) Q E s := by
  rw [eval_ListComp]
  refine wpAny_comprehension_free (use := none) rfl hs hclos hkind hnames (wpAny_mono h (fun xv s₁ h₁ => ?_) fun _ _ e => e)
  refine hideG fun g9 hg9 => ?_
  obtain ⟨l, t, news, rfl, hh, F, N, hsz, R⟩ := h₁
  refine hg9 ?_
  clear hg9 g9
  have hlen : (sx l).cps.size = l.length := by have := sx_len l; unfold Str.length at this; exact this
  have go : ∀ (T : String) (o : Obj), Walks prog w A s₁.heap.objs.size [s₁.heap.objs.size] [s₁.heap.objs.size] (sx l).cps.size (SignAt (sx l)) (fun i h => h.IsStrIter s₁.heap.objs.size T (sx l) t i) →
      (s₁.heap.push o).IsStrIter s₁.heap.objs.size T (sx l) t 0 → wpAny (model prog w) A (newList []) (fun acc s₃ => wpAny (model prog w) A (newFunctionEnv scope env.globals cl [] env.qual none .none (some env)) (fun cenv s₄ =>
        codeAny (model prog w) A (.compStart (.ListComp elt [⟨.Name x px, iter, [], 0⟩] scope pos) 0 (.ref s₁.heap.objs.size) acc { cenv with scope := relabel scope env })
          (compPost (model prog w) A E none Q acc cenv.locals) s₄) E s₃) E { s₁ with heap := s₁.heap.push o } := by
    intro T o W hst
    rw [hlen] at W
    refine block_U (h₀ := h₀) (L := L) (m := m) (RR := fun acc C => compPost (model prog w) A E none Q acc C) W (by rw [sizeLine_eq]; (first | lia | omega)) (fun i h st => by obtain ⟨o, e, _⟩ := st; exact ⟨o, e⟩) str_st hcell hkind hx hst (fun b hb => ?_)
      (F.keeps fun _ _ e => Heap.get?_push_of_some _ e) (N.grown fun _ _ e => Heap.get?_push_of_some _ e) (Nat.ne_of_lt F.ns.lt) (next_is_new F) (fun p hp => Nat.ne_of_lt (Heap.lt_size (N p hp).1)) trivial (R _ ⟨_, rfl⟩) ?_
    · rw [List.mem_singleton.mp hb]
      show s₁.heap.objs.size < (s₁.heap.push _).objs.size
      rw [Heap.size_push]; exact Nat.lt_succ_self _
    · intro D C h' tk m' ys news' F' N' o1 hn hC₀ hD₀ hCL hDL hCD offC fin
      refine ⟨m', hn, fun h'' hs'' => fin D h'' tk (F'.change hs'' hCL hC₀) (fun p hp => ?_) o1⟩
      refine ⟨hs''.extBut _ _ ?_ (N' p hp).1, (N' p hp).2⟩
      rcases List.mem_cons.mp hp with rfl | hp
      · exact Ne.symm hCD
      · exact offC p hp
  cases ha : (sx l).cps.all (· < 128)
  · exact wpAny_pyIter_wide ha (go "str_iterator" _ (Walks.strWide hh _ (sx l) t) ⟨_, Heap.get?_push_size _ rfl, rfl, rfl⟩)
  · exact wpAny_pyIter_ascii ha (go "str_ascii_iterator" _ (Walks.strAscii hh _ (sx l) t) ⟨_, Heap.get?_push_size _ rfl, rfl, rfl⟩)
end
end Mine

end

theorem Mine.reset_T0 : True ∧ True := by
  w_top off
  walk1 <;> trivial
section
open PySem PySem.W PyProof.Rows PySem.Calls
set_option Elab.async false
set_option maxRecDepth 100000
set_option maxHeartbeats 1000000
namespace Mine
/-- a statement's end, held whole -/
noncomputable def Mid (P : Shared → Prop) (f : Flow) (s : Shared) : Prop := f = .next ∧ P s
theorem mid_any {M : Model} {A : Around} {t : Sem Flow} {E : Value → Shared → Prop} {s : Shared} {Q : Flow → Shared → Prop} (P : Shared → Prop) (h1 : wpAny M A t (Mid P) E s) (h2 : ∀ s', P s' → Q .next s') : wpAny M A t Q E s :=
  wpAny_mono h1 (fun f s' q => by obtain ⟨rfl, p⟩ := q; exact h2 s' p) fun _ _ e => e
theorem mid_cons {M : Model} {A : Around} {st : Stmt} {r : List Stmt} {env : Env} {E : Value → Shared → Prop} {s : Shared} {Q : Flow → Shared → Prop} (P : Shared → Prop) (h1 : wpAny M A (exec st env) (Mid P) E s) (h2 : ∀ s', P s' → wpAny M A (execs r env) Q E s') : wpAny M A (execs (st :: r) env) Q E s :=
  wpAny_execs_cons (mid_any P h1 h2)
theorem intsAre_get : ∀ {vs : List Value} {ys : List Int}, IntsAre vs ys → ∀ {j : Nat} {v : Value}, vs[j]? = some v → ∃ x u, ys[j]? = some x ∧ v = .int x u
  | _, _, .nil, _, _, h => by simp at h
  | _, _, .cons x t r, 0, v, h => ⟨x, t, rfl, by simpa using h.symm⟩
  | _, _, .cons x t r, j + 1, v, h => intsAre_get r (j := j) (by simpa using h)
theorem strsAre_get : ∀ {vs : List Value} {ys : List PySem.Str}, StrsAre vs ys → ∀ {j : Nat} {v : Value}, vs[j]? = some v → ∃ x u, ys[j]? = some x ∧ v = .str x u
  | _, _, .nil, _, _, h => by simp at h
  | _, _, .cons x t r, 0, v, h => ⟨x, t, rfl, by simpa using h.symm⟩
  | _, _, .cons x t r, j + 1, v, h => strsAre_get r (j := j) (by simpa using h)
section
variable {prog : Program} {w : World} {A : Around} {E : Value → Shared → Prop} {s : Shared} {Q : Value → Shared → Prop} {l : Addr} {vs : List Value} {u : Tok} {value slice : Expr}

theorem isStrOf_at (k : PySem.Str) : ∀ {vs : List Value} {ns : List PySem.Str}, StrsAre vs ns → ∀ (j : Nat) (h1 : j < vs.length) (h2 : j < ns.length), isStrOf k vs[j] = (ns[j] == k)
  | _, _, .cons n t _, 0, _, _ => rfl
  | _, _, .cons n t r, j + 1, h1, h2 => isStrOf_at k r j (Nat.lt_of_succ_lt_succ h1) (Nat.lt_of_succ_lt_succ h2)
theorem ne_lt_idxOf {k : PySem.Str} : ∀ {ns : List PySem.Str} {j : Nat}, j < ns.idxOf k → ∀ (h2 : j < ns.length), (ns[j] == k) = false
  | n :: r, 0, h, _ => by
    by_cases e : n = k
    · subst e; simp at h
    · simpa using e
  | n :: r, j + 1, h, h2 => by
    by_cases e : n = k
    · subst e; simp at h
    · have hb : (n == k) = false := by simpa using e
      have h' : j < r.idxOf k := by
        rw [List.idxOf_cons, hb] at h
        exact Nat.lt_of_succ_lt_succ h
      exact ne_lt_idxOf h' (Nat.lt_of_succ_lt_succ h2)
theorem index_sx {ns : List PySem.Str} {k : PySem.Str} {t : Tok} (hl : s.heap.IsList l vs.toArray) (hi : StrsAre vs ns) (hn : ns.length ≤ 1000000) (hk : k ∈ ns) (h : Q (.int (ns.idxOf k : Nat) s.toks) { s with toks := s.toks + 1 }) :
    wpAny (model prog w) A (call (.builtin "list.index") [.ref l, .str k t]) Q E s := by
  obtain ⟨⟨cls, dd, data, sl⟩, ho, hc, n, hd⟩ := id hl
  simp only at hc hd
  subst hc hd
  have hlen := hi.length
  have hj : ns.idxOf k < ns.length := List.idxOf_lt_length_iff.mpr hk
  refine call_meets PySem.F.slot_list_index ⟨_, ho, rfl⟩ PySem.F.entry_list_index (PySem.F.args_list_index_2 _ _)
    (SeqAt.list_indexAt l vs.toArray n dd sl (.str k t) (isStrOf k) (ns.idxOf k) (by simpa [hlen] using hj) (by (first | lia | omega)) ?_ ?_) ⟨ho, fun y hy => (eq_isStrOf k t hi y (by simpa using hy)).at _ _, h⟩
  · show isStrOf k vs[ns.idxOf k] = true
    rw [isStrOf_at k hi _ (by (first | lia | omega)) hj]
    simpa using List.getElem_idxOf hj
  · intro j hjs hlt
    show isStrOf k vs[j] = false
    rw [isStrOf_at k hi j (by simpa using hjs) (by (first | lia | omega))]
    exact ne_lt_idxOf hlt _
theorem len_sx {cards : List (List Nat)} (hl : s.heap.IsList l vs.toArray) (hi : StrsAre vs (cards.map sx)) (hn : cards.length ≤ 1000000) (h : Q (.int cards.length (s.toks + 1)) { s with toks := s.toks + 1 + 1 }) :
    wpAny (model prog w) A (call (.builtin "len") [.ref l]) Q E s :=
  len_strsA hl hi (by rw [List.length_map]; (first | lia | omega)) (by rw [List.length_map]; exact h)
theorem item_sx {cards : List (List Nat)} {i : Nat} (hl : s.heap.IsList l vs.toArray) (hi : StrsAre vs (cards.map sx)) (hn : i < cards.length) (hs1 : cards.length ≤ 1000000) (h : ∀ t, Q (.str (sx cards[i]) t) s)
    (hs : subscripted slice false (.ref l) (.int i u) = operate [.ref l, .int i u] (getItem (.ref l) (.int i u)) := by with_unfolding_all rfl) (hg : ∀ r, letTemporaryGo value (.ref l) r = pure () := by intro _; with_unfolding_all rfl) :
    wpAny (model prog w) A (subscriptTail value slice (.ref l) (.int i u)) Q E s := by
  have e : (cards.map sx).getD i Str.empty = sx cards[i] := by simp [List.getD, hn]
  refine item_strsA hl hi (by (first | lia | omega)) (by rw [List.length_map]; (first | lia | omega)) (by (first | lia | omega)) (fun t => ?_) hs hg
  rw [Int.toNat_natCast, e]
  exact h t
theorem item_sxR {cards : List (List Nat)} {i : Nat} (hl : s.heap.IsList l vs.toArray) (hi : StrsAre vs (cards.map sx)) (hn : i < cards.length) (hs1 : cards.length ≤ 1000000) (h : ∀ t, Q (.str (sx cards[i]) t) s)
    (hs : subscripted slice false (.ref l) (.int i u) = operate [.ref l, .int i u] (getItem (.ref l) (.int i u)) := by with_unfolding_all rfl) :
    wpAny (model prog w) A (subscriptTail value slice (.ref l) (.int i u)) Q E s := by
  have e : (cards.map sx).getD i Str.empty = sx cards[i] := by simp [List.getD, hn]
  refine item_strsR hl hi (by (first | lia | omega)) (by rw [List.length_map]; (first | lia | omega)) (by (first | lia | omega)) (fun t => ?_) hs
  rw [Int.toNat_natCast, e]
  exact h t
theorem item_nat {ds : List Nat} {i : Nat} (hl : s.heap.IsList l vs.toArray) (hi : IntsAre vs (ds.map Int.ofNat)) (hn : i < ds.length) (hs1 : ds.length ≤ 1000000) (h : ∀ t, Q (.int (ds[i] : Nat) t) s)
    (hs : subscripted slice false (.ref l) (.int i u) = operate [.ref l, .int i u] (getItem (.ref l) (.int i u)) := by with_unfolding_all rfl) :
    wpAny (model prog w) A (subscriptTail value slice (.ref l) (.int i u)) Q E s := by
  have e : (ds.map Int.ofNat).getD i 0 = ((ds[i] : Nat) : Int) := by simp [List.getD, hn]
  refine item_list_intsR hl hi (by (first | lia | omega)) (by rw [List.length_map]; (first | lia | omega)) (by (first | lia | omega)) (fun t => ?_) hs
  rw [Int.toNat_natCast, e]
  exact h t
theorem sx_item {l : List Nat} {i : Nat} (h : i < l.length) : Txt.item (sx l) (i : Int) = sx [l[i]] := by
  have hl := sx_len l
  have e : (seqIndex? (i : Int) (sx l).length).bind ((sx l).cps[·]?) = some l[i] := StrLaws.at_nonneg (by (first | lia | omega)) (by simp [sx, h])
  unfold Txt.item Txt.charAt
  rw [e]; rfl
theorem sx_item_first {l : List Nat} (h : 0 < l.length) : Txt.item (sx l) 0 = sx [l.getD 0 0] := by
  have := sx_item (l := l) (i := 0) h
  rw [show ((0 : Nat) : Int) = 0 from rfl] at this
  rw [this, List.getD_eq_getElem?_getD, List.getElem?_eq_getElem h]; rfl
theorem sx_item_last {l : List Nat} (h : 0 < l.length) : Txt.item (sx l) (-1) = sx [l.getD (l.length - 1) 0] := by
  have hl := sx_len l
  have hlt : l.length - 1 < l.length := by (first | lia | omega)
  have e : (seqIndex? (-1 : Int) (sx l).length).bind ((sx l).cps[·]?) = some l[l.length - 1] := StrLaws.at_neg (by decide) (by (first | lia | omega)) (by
    have e2 : ((-1 : Int) + ((sx l).length : Int)).toNat = l.length - 1 := by (first | lia | omega)
    rw [e2]; simp [sx, hlt])
  unfold Txt.item Txt.charAt
  rw [e, List.getD_eq_getElem?_getD, List.getElem?_eq_getElem hlt]; rfl
theorem item_text {l : List Nat} {i : Nat} {t : Tok} (hn : i < l.length) (hs1 : l.length ≤ 1000000) (h : ∀ t' tk, Q (.str (sx [l[i]]) t') { s with toks := tk })
    (hs : subscripted slice false (.str (sx l) t) (.int i u) = operate [.str (sx l) t, .int i u] (getItem (.str (sx l) t) (.int i u)) := by with_unfolding_all rfl)
    (ht : ∀ r, letTemporaryGo value (.str (sx l) t) r = pure () := by intro _; with_unfolding_all rfl) :
    wpAny (model prog w) A (subscriptTail value slice (.str (sx l) t) (.int i u)) Q E s :=
  KXi.item (sx_len l) (by (first | lia | omega)) (by (first | lia | omega)) (by (first | lia | omega)) (fun _ => by rw [sx_item hn]; exact h _ _) hs ht
theorem join_nil (ps : List (List Nat)) : Txt.join (PySem.Str.ofString "") (ps.map sx) = sx ps.flatten := by
  rw [show PySem.Str.ofString "" = sx [] by decide +kernel]
  show Builtin.Str.glued (sx []) (ps.map sx) = _
  rw [StrLaws.glued_eq_join]
  induction ps with
  | nil => rfl
  | cons p r ih =>
    cases r with
    | nil => simp [Str.join]
    | cons q r =>
      show sx p ++ sx [] ++ Str.join (sx []) ((q :: r).map sx) = _
      rw [ih, sx_app, sx_app, List.append_nil, List.flatten_cons (l := p)]
theorem in_mem {c : Nat} {mk : List Nat} {b : Bool} {t : Tok} (hb : decide (c ∈ mk) = b) (h : Q (.bool b) s) : wpAny (model prog w) A (compareOp .In (.str (sx [c]) u) (.str (sx mk) t)) Q E s := by
  refine in_str ?_
  rw [found_sx]
  have : (!decide (c ∉ mk)) = b := by rw [← hb]; by_cases q : c ∈ mk <;> simp [q]
  rw [this]
  exact h
theorem add_sx {a b : List Nat} {t : Tok} (hz : a.length + b.length ≤ 1000000) (h : ∀ t' tk, Q (.str (sx (a ++ b)) t') { s with toks := tk }) : wpAny (model prog w) A (binaryOp .Add (.str (sx a) t) (.str (sx b) u)) Q E s :=
  add_str (fun t' tk => by rw [sx_app]; exact h t' tk) (by rw [sx_len, sx_len, sizeLine_eq]; (first | lia | omega))
theorem set_K {h₀ : Heap} {L D : Addr} {m : PySem.Str → Option Value} {news news' : List (Addr × Obj)} {vs : List Value} {n k : Nat} {x : Value} {t : Tok} {Q : Unit → Shared → Prop} (F : Fr h₀ L s.heap m) (N : News h₀ L s.heap news) (U : Upd D (listOf vs.toArray n) (listOf (vs.set k x).toArray n) news news') (h1 : k < vs.length) (hz : vs.length ≤ 1000000)
    (h : ∀ h', Fr h₀ L h' m → News h₀ L h' news' → Q () { s with heap := h' }) :
    wpAny (model prog w) A (setItem (.ref D) (.int (k : Int) t) x) Q E s := by
  obtain ⟨pre, post, rfl, rfl, a, b⟩ := U.split
  have z := N (D, listOf vs.toArray n) (List.mem_append.mpr (.inr (.head _)))
  have hs : vs.toArray.size = vs.length := by rw [List.size_toArray]
  refine ki_setAt z.1 (by (first | lia | omega)) (by (first | lia | omega)) (by (first | lia | omega)) (h _ (F.change (Heap.SameBut.update ..) z.2.1 z.2.2) (ki_turn _ N a b ?_ ?_))
  · show vs.toArray.setIfInBounds ((k : Int)).toNat x = (vs.set k x).toArray
    rw [Int.toNat_natCast]
    apply Array.toList_inj.mp
    simp
  · simp
theorem strsAre_set {x : PySem.Str} {u : Tok} : ∀ {vs : List Value} {ns : List PySem.Str}, StrsAre vs ns → ∀ j : Nat, StrsAre (vs.set j (.str x u)) (ns.set j x)
  | _, _, .nil, _ => .nil
  | _, _, .cons _ _ h, 0 => .cons x u h
  | _, _, .cons i t h, j + 1 => .cons i t (strsAre_set h j)
theorem item_textE {l : List Nat} {i : Nat} {t : Tok} {x : PySem.Str} {k : Int} (ex : x = sx l) (ek : k = (i : Int)) (hn : i < l.length) (hs1 : l.length ≤ 1000000) (h : ∀ t' tk, Q (.str (sx [l[i]]) t') { s with toks := tk })
    (hs : subscripted slice false (.str x t) (.int k u) = operate [.str x t, .int k u] (getItem (.str x t) (.int k u)) := by with_unfolding_all rfl)
    (ht : ∀ r, letTemporaryGo value (.str x t) r = pure () := by intro _; with_unfolding_all rfl) :
    wpAny (model prog w) A (subscriptTail value slice (.str x t) (.int k u)) Q E s := by
  subst ex ek; exact item_text hn hs1 h hs ht
theorem item_natE {ds : List Nat} {i : Nat} {k : Int} (hl : s.heap.IsList l vs.toArray) (hi : IntsAre vs (ds.map Int.ofNat)) (ek : k = (i : Int)) (hn : i < ds.length) (hs1 : ds.length ≤ 1000000) (h : ∀ t, Q (.int (ds[i] : Nat) t) s)
    (hs : subscripted slice false (.ref l) (.int k u) = operate [.ref l, .int k u] (getItem (.ref l) (.int k u)) := by with_unfolding_all rfl) :
    wpAny (model prog w) A (subscriptTail value slice (.ref l) (.int k u)) Q E s := by
  subst ek; exact item_nat hl hi hn hs1 h hs
theorem add_sxE {a b : List Nat} {t : Tok} {x y : PySem.Str} (ex : x = sx a) (ey : y = sx b) (hz : a.length + b.length ≤ 1000000) (h : ∀ t' tk, Q (.str (sx (a ++ b)) t') { s with toks := tk }) : wpAny (model prog w) A (binaryOp .Add (.str x t) (.str y u)) Q E s := by
  subst ex ey; exact add_sx hz h
theorem mul_sxE {a : List Nat} {t : Tok} {x : PySem.Str} {k : Int} {n : Nat} (ex : x = sx a) (ek : k = (n : Int)) (hz : a.length ≤ 16) (hn : n ≤ 1000) (h : ∀ t' tk, Q (.str (sx (List.replicate n a).flatten) t') { s with toks := tk }) : wpAny (model prog w) A (binaryOp .Mult (.str x t) (.int k u)) Q E s := by
  subst ex ek
  refine KXi.mul (sx_len a) hz (by (first | lia | omega)) (by (first | lia | omega)) fun t' tk _ _ => ?_
  rw [mul_sx]
  exact h t' tk
end
end Mine

end

theorem Mine.reset_P1 : True ∧ True := by
  w_top off
  walk1 <;> trivial
section
open PySem PySem.W PyProof.Rows PySem.Calls
set_option Elab.async false
set_option maxRecDepth 100000
set_option maxHeartbeats 1000000
namespace Mine
/-- a written text's signs -/
noncomputable abbrev os (x : String) : List Nat := (PySem.Str.ofString x).cps.toList

noncomputable def nmL (i : Nat) : List Nat := match i with
  | 0 => os "OPTIMIZED" | 1 => os "NEWLOCALS" | 2 => os "VARARGS" | 3 => os "VARKEYWORDS" | 4 => os "NESTED" | 5 => os "GENERATOR" | 6 => os "NOFREE" | 7 => os "COROUTINE" | 8 => os "ITERABLE_COROUTINE" | 9 => os "ASYNC_GENERATOR"
  | i => os "0x" ++ [(os "1248").getD (i % 4) 0] ++ List.replicate (i / 4) 48
/-- the set figures below i -/
noncomputable def bitsTo (N i : Nat) : List Nat := (List.range i).filter fun j => decide (N / 2 ^ j % 2 = 1)
noncomputable def lastL (a : Int) : List Nat := if a = 0 then os "0x0" else (if a < 0 then os "-" else []) ++ os "0x" ++ [(os "123456789abcdef").getD (a.natAbs - 1) 0] ++ os "00000000"
noncomputable def wordsL (N : Nat) (a : Int) : List (List Nat) := (bitsTo N 32).map nmL ++ (if a ≠ 0 ∨ N = 0 then [lastL a] else [])

theorem bitsTo_one {N i : Nat} (h : N / 2 ^ i % 2 = 1) : bitsTo N (i + 1) = bitsTo N i ++ [i] := by
  unfold bitsTo
  rw [List.range_succ, List.filter_append]
  simp [h]
theorem bitsTo_nil {N i : Nat} (h : N / 2 ^ i % 2 ≠ 1) : bitsTo N (i + 1) = bitsTo N i := by
  unfold bitsTo
  rw [List.range_succ, List.filter_append]
  simp [h]
theorem bitsTo_all {N i : Nat} (h : N / 2 ^ i = 0) {k : Nat} (hk : i ≤ k) : bitsTo N k = bitsTo N i := by
  induction k with
  | zero => have : i = 0 := by (first | lia | omega)
            subst this; rfl
  | succ k ih =>
    by_cases e : i = k + 1
    · subst e; rfl
    · have hk' : i ≤ k := by (first | lia | omega)
      rw [bitsTo_nil, ih hk']
      have : N / 2 ^ k = 0 := by
        have hlt : N < 2 ^ i := by
          rcases Nat.lt_or_ge N (2 ^ i) with h1 | h1
          · exact h1
          · have := Nat.div_pos h1 (Nat.two_pow_pos i); (first | lia | omega)
        exact Nat.div_eq_of_lt (Nat.lt_of_lt_of_le hlt (Nat.pow_le_pow_right (by decide) hk'))
      rw [this]; decide

/-- the flags, from figure i on -/
noncomputable def flI (N : Nat) (a : Int) (i : Nat) : Int := ((N : Int) + a * 2 ^ 32) / 2 ^ i * 2 ^ i

theorem pow_split {i : Nat} (hi : i ≤ 32) : (2 : Int) ^ 32 = 2 ^ (32 - i) * 2 ^ i := by
  rw [← Int.pow_add, Nat.sub_add_cancel hi]
theorem quot_eq {N : Nat} {a : Int} {i : Nat} (hi : i ≤ 32) : ((N : Int) + a * 2 ^ 32) / 2 ^ i = ((N / 2 ^ i : Nat) : Int) + a * 2 ^ (32 - i) := by
  rw [pow_split hi, ← Int.mul_assoc, Int.add_mul_ediv_right _ _ (Int.ne_of_gt (kbt_pos i))]
  rw [Int.natCast_ediv N (2 ^ i), kbt_cast]
theorem par_eq {N : Nat} {a : Int} {i : Nat} (hi : i < 32) : ((N : Int) + a * 2 ^ 32) / 2 ^ i % 2 = ((N / 2 ^ i % 2 : Nat) : Int) := by
  rw [quot_eq (Nat.le_of_lt hi), show 32 - i = (31 - i) + 1 by (first | lia | omega), Int.pow_succ, ← Int.mul_assoc, Int.add_mul_emod_self_right, Int.natCast_emod]
  rfl
theorem flI_zero {N : Nat} {a : Int} : flI N a 0 = (N : Int) + a * 2 ^ 32 := by simp [flI]
theorem flI_quot {N : Nat} {a : Int} {i : Nat} : flI N a i / 2 ^ i = ((N : Int) + a * 2 ^ 32) / 2 ^ i := by
  unfold flI; exact Int.mul_ediv_cancel _ (Int.ne_of_gt (kbt_pos i))
theorem next_quot {y : Int} {i : Nat} : y / 2 ^ (i + 1) = y / 2 ^ i / 2 := by
  rw [Int.pow_succ, Int.ediv_ediv_of_nonneg (Int.le_of_lt (kbt_pos i))]
theorem flI_and {N : Nat} {a : Int} {i : Nat} (hi : i < 32) : Builtin.bitAnd (flI N a i) (2 ^ i) = ((N / 2 ^ i % 2 : Nat) : Int) * 2 ^ i := by
  rw [kbt_bit, flI_quot, par_eq hi]
theorem flI_nil {N : Nat} {a : Int} {i : Nat} (hi : i < 32) (h : N / 2 ^ i % 2 ≠ 1) : flI N a (i + 1) = flI N a i := by
  have p : ((N : Int) + a * 2 ^ 32) / 2 ^ i % 2 = 0 := by rw [par_eq hi]; (first | lia | omega)
  unfold flI
  rw [next_quot, Int.pow_succ (2 : Int) i, Int.mul_comm (2 ^ i) 2, ← Int.mul_assoc]
  generalize ((N : Int) + a * 2 ^ 32) / 2 ^ i = q at *
  congr 1
  (first | lia | omega)
theorem flI_one {N : Nat} {a : Int} {i : Nat} (hi : i < 32) (h : N / 2 ^ i % 2 = 1) : Builtin.bitXor (flI N a i) (2 ^ i) = flI N a (i + 1) := by
  have p : ((N : Int) + a * 2 ^ 32) / 2 ^ i % 2 = 1 := by rw [par_eq hi, h]; rfl
  rw [bitXor_and, flI_and hi, h]
  unfold flI
  rw [next_quot, Int.pow_succ (2 : Int) i]
  generalize ((N : Int) + a * 2 ^ 32) / 2 ^ i = q at *
  have e : q = 2 * (q / 2) + 1 := by (first | lia | omega)
  rw [Int.mul_comm (2 ^ i : Int) 2, ← Int.mul_assoc (q / 2)]
  have e2 : q / 2 * 2 = q - 1 := by (first | lia | omega)
  rw [e2, Int.sub_mul]
  (first | lia | omega)
theorem flI_end {N : Nat} {a : Int} (hN : N < 2 ^ 32) : flI N a 32 = a * 2 ^ 32 := by
  unfold flI
  rw [quot_eq (Nat.le_refl _), Nat.div_eq_of_lt hN]
  simp
theorem flI_stop {N : Nat} {a : Int} {i : Nat} (hi : i ≤ 32) (hN : N < 2 ^ 32) : flI N a i = 0 ↔ a = 0 ∧ N / 2 ^ i = 0 := by
  unfold flI
  have hp := kbt_pos i
  constructor
  · intro h
    have h1 : ((N : Int) + a * 2 ^ 32) / 2 ^ i = 0 := by
      rcases Int.mul_eq_zero.mp h with h | h
      · exact h
      · (first | lia | omega)
    have h2 : ((N : Int) + a * 2 ^ 32) = (((N : Int) + a * 2 ^ 32)) % 2 ^ i := by
      have := Int.emod_add_mul_ediv ((N : Int) + a * 2 ^ 32) (2 ^ i)
      rw [h1] at this; (first | lia | omega)
    have h3 := Int.emod_nonneg ((N : Int) + a * 2 ^ 32) (Int.ne_of_gt hp)
    have h4 := Int.emod_lt_of_pos ((N : Int) + a * 2 ^ 32) hp
    have h5 : (2 : Int) ^ i ≤ 2 ^ 32 := by
      rw [← kbt_cast, ← kbt_cast]
      exact Int.ofNat_le.mpr (Nat.pow_le_pow_right (by decide) hi)
    have ha : a = 0 := by
      have e : (2 : Int) ^ 32 = 4294967296 := by decide
      rw [e] at *
      (first | lia | omega)
    subst ha
    refine ⟨rfl, ?_⟩
    rw [quot_eq hi] at h1
    simp at h1
    exact_mod_cast h1
  · rintro ⟨rfl, h⟩
    rw [quot_eq hi, h]; simp
end Mine

end

theorem Mine.reset_M24 : True ∧ True := by
  w_top off
  walk1 <;> trivial
section
open PySem PySem.W PyProof.Rows PySem.Calls
set_option Elab.async false
set_option maxRecDepth 100000
set_option maxHeartbeats 1000000
namespace Mine


theorem dsz (N : Nat) (a : Int) (i : Nat) (hN : N < 2 ^ 32) (ha : a.natAbs ≤ 15) (hi : i ≤ 32) : (flI N a i).natAbs ≤ 1000000000000 := by
  have h1 := Int.ediv_mul_le ((N : Int) + a * 2 ^ 32) (Int.ne_of_gt (kbt_pos i))
  have h2 := Int.lt_ediv_add_one_mul_self ((N : Int) + a * 2 ^ 32) (kbt_pos i)
  rw [Int.add_mul, Int.one_mul] at h2
  have h5 : (2 : Int) ^ i ≤ 2 ^ 32 := by
    rw [← kbt_cast, ← kbt_cast]
    exact Int.ofNat_le.mpr (Nat.pow_le_pow_right (by decide) hi)
  unfold flI
  have e : (2 : Int) ^ 32 = 4294967296 := by decide
  have e' : (2 : Nat) ^ 32 = 4294967296 := by decide
  rw [e'] at hN
  generalize ((N : Int) + a * 2 ^ 32) / 2 ^ i * 2 ^ i = q at *
  rw [e] at *
  (first | lia | omega)

noncomputable def pst : PyData → Option PySem.Str
  | .str x => some x
  | _ => none
theorem pst_some {d : PyData} {x : PySem.Str} (h : pst d = some x) : d = .str x := by
  cases d <;> simp [pst] at h ⊢
  exact h
theorem lastL_hex (a : Int) (ha : a.natAbs ≤ 15) : baseText "0x" 16 (a * 2 ^ 32) = sx (lastL a) := by
  have key : ∀ j : _root_.Fin 31, baseText "0x" 16 (((j.val : Int) - 15) * 2 ^ 32) = sx (lastL ((j.val : Int) - 15)) := by decide +kernel
  have := key ⟨(a + 15).toNat, by (first | lia | omega)⟩
  have e : (((a + 15).toNat : Nat) : Int) - 15 = a := by (first | lia | omega)
  dsimp only at this
  rw [e] at this
  exact this
theorem nmL_len (i : Nat) (hi : i < 32) : (nmL i).length ≤ 20 := by
  have key : ∀ j : _root_.Fin 32, (nmL j.val).length ≤ 20 := by decide +kernel
  exact key ⟨i, hi⟩
theorem lastL_len (a : Int) : (lastL a).length ≤ 20 := by
  unfold lastL
  split
  · decide +kernel
  · split
    · simp only [List.length_append, List.length_cons, List.length_nil]
      have e1 : (os "-").length = 1 := by decide +kernel
      have e2 : (os "0x").length = 2 := by decide +kernel
      have e3 : (os "00000000").length = 8 := by decide +kernel
      (first | lia | omega)
    · simp only [List.length_append, List.length_cons, List.length_nil]
      have e2 : (os "0x").length = 2 := by decide +kernel
      have e3 : (os "00000000").length = 8 := by decide +kernel
      (first | lia | omega)
theorem bitsTo_lt {N k j : Nat} (h : j ∈ bitsTo N k) : j < k := by
  unfold bitsTo at h
  exact List.mem_range.mp (List.mem_filter.mp h).1
theorem wordsL_len {N : Nat} {a : Int} : ∀ x ∈ wordsL N a, x.length ≤ 20 := by
  intro x hx
  unfold wordsL at hx
  rcases List.mem_append.mp hx with hx | hx
  · refine hideG fun g9 hg9 => ?_
    obtain ⟨j, hj, rfl⟩ := List.mem_map.mp hx
    refine hg9 ?_
    clear hg9 g9
    exact nmL_len j (bitsTo_lt hj)
  · split at hx
    · rw [List.mem_singleton.mp hx]; exact lastL_len a
    · cases hx
theorem wordsL_num (N : Nat) (a : Int) : (wordsL N a).length ≤ 33 := by
  unfold wordsL
  rw [List.length_append, List.length_map]
  have : (bitsTo N 32).length ≤ 32 := by unfold bitsTo; exact Nat.le_trans (List.length_filter_le _ _) (by rw [List.length_range]; exact Nat.le_refl _)
  split
  · rw [List.length_singleton]; (first | lia | omega)
  · rw [List.length_nil]; (first | lia | omega)
theorem sumLen_le (ys : List (List Nat)) (k : Nat) (h : ∀ x ∈ ys, x.length ≤ k) : ((ys.map sx).map (·.length)).sum ≤ ys.length * k := by
  induction ys with
  | nil => simp
  | cons y r ih =>
    have h1 := h y (.head _)
    have h2 := ih fun x hx => h x (.tail _ hx)
    rw [List.map_cons, List.map_cons, List.sum_cons, List.length_cons, Nat.add_mul, sx_len]
    (first | lia | omega)
theorem words_w (N : Nat) (a : Int) : (((wordsL N a).map sx).map (·.length)).sum + ((wordsL N a).map sx).length ≤ 1048576 := by
  have h1 := sumLen_le (wordsL N a) 20 wordsL_len
  have h2 := wordsL_num N a
  rw [List.length_map]
  (first | lia | omega)
theorem map_pf (f1 k1 f2 k2 n fl : Option Value) : (fun y : PySem.Str => if y = PySem.Str.ofString "flag" then f1 else if y = PySem.Str.ofString "i" then k1 else (fun y : PySem.Str => if y = PySem.Str.ofString "flag" then f2 else if y = PySem.Str.ofString "i" then k2 else if y = PySem.Str.ofString "names" then n else if y = PySem.Str.ofString "flags" then fl else none) y) =
    fun y => if y = PySem.Str.ofString "flag" then f1 else if y = PySem.Str.ofString "i" then k1 else if y = PySem.Str.ofString "names" then n else if y = PySem.Str.ofString "flags" then fl else none := by
  funext y
  by_cases q : y = PySem.Str.ofString "flag"
  · simp [q]
  by_cases q2 : y = PySem.Str.ofString "i"
  · simp [q2]
  simp [q, q2]
theorem map_pf2 (f1 k1 n fl g : Option Value) : (fun y : PySem.Str => if y = PySem.Str.ofString "flags" then g else (if y = PySem.Str.ofString "flag" then f1 else if y = PySem.Str.ofString "i" then k1 else if y = PySem.Str.ofString "names" then n else if y = PySem.Str.ofString "flags" then fl else none)) =
    fun y => if y = PySem.Str.ofString "flag" then f1 else if y = PySem.Str.ofString "i" then k1 else if y = PySem.Str.ofString "names" then n else if y = PySem.Str.ofString "flags" then g else none := by
  funext y
  by_cases q : y = PySem.Str.ofString "flags"
  · subst q
    rw [if_pos rfl, if_neg (by decide +kernel), if_neg (by decide +kernel), if_neg (by decide +kernel), if_pos rfl]
  · rw [if_neg q, if_neg q, if_neg q]

/-- what holds between two flags -/
inductive PfInv (nm : Addr) (N : Nat) (a : Int) (i : Nat) (m : PySem.Str → Option Value) (news : List (Addr × Obj)) : Prop
  | mk (kv fv : Option Value) (u : Tok) (em : m = fun y => if y = PySem.Str.ofString "flag" then fv else if y = PySem.Str.ofString "i" then kv else if y = PySem.Str.ofString "names" then some (.ref nm) else if y = PySem.Str.ofString "flags" then some (.int (flI N a i) u) else none) (vs : List Value) (n : Nat) (en : news = [(nm, listOf (List.toArray vs) n)]) (hS : StrsAre vs (((bitsTo N i).map nmL).map sx)) (hz : a = 0 → N ≠ 0 → N / 2 ^ i ≠ 0) : PfInv nm N a i m news

theorem pf_ok {w : World} {A : Around} {s : Shared} {Q : Value → Shared → Prop} {E : Value → Shared → Prop} (G : Gd w s.heap) (hA : AOk A 4) {N : Nat} {a x : Int} {t : Tok} (hN : N < 2 ^ 32) (ha : a.natAbs ≤ 15) (hx : x = (N : Int) + a * 2 ^ 32)
    (h : ∀ h' tk u, s.toks ≤ tk → Grow s.heap h' → Q (.str (Txt.join (PySem.Str.ofString ", ") ((wordsL N a).map sx)) u) { s with heap := h', toks := tk }) :
   wpAny (model PG w) A (call (.ref 22) [.int x t]) Q E s := by
  have G' := G
  refine hideG fun g9 hg9 => ?_
  obtain ⟨X, p, loose, mean, mg, mb, T⟩ := G
  refine hg9 ?_
  clear hg9 g9
  refine hideG fun g9 hg9 => ?_
  obtain ⟨hh, dp, fr, gd, un⟩ := A
  refine hg9 ?_
  clear hg9 g9
  refine hideG fun g9 hg9 => ?_
  obtain rfl : hh = none := hA.hand
  refine hg9 ?_
  clear hg9 g9
  refine wpAny_with_toks (Nat.le_refl s.toks) ?_
  refine wpAny_call ?_
  refine' enterK (fun _ _ e => e) (Nat.le_refl _) (news := []) (fun _ hp => nomatch hp) X T.nolimit ?ho ?hcd hA.room ?hbind ?hloc ?_ ?c1 ?c2 ?c3 ?c4
  ((case ho => k_is); (case hcd => k_is); (case hbind => exact BindsTo.of_eq rfl); (case hloc => exact locs rfl); (case c1 => exact rfl); (case c2 => exact rfl); (case c3 => exact rfl); (case c4 => decide))
  intro L h₁ tk0 htk F N0 hL hLt hk
  have F0 := Fr.cong (m' := fun y => if y = PySem.Str.ofString "flags" then some (.int x t) else none) F (fun y => by
    show List.lookup y [(PySem.Str.ofString "flags", _)] = _
    rw [lk1])
  clear F
  repeat ((fail_if_success (with_reducible show wpAny _ _ (exec (Stmt.For _ _ _ _ _) _) _ _ _)); walk1)
  rename_i nm h2' _ _ F2 N2
  refine for_raw ?_
  iterate 7 walk1
  intro hts
  rename_i hR F1 N1 hk1
  refine loop_range (n := 32) (PfInv nm N a)
    rfl rfl rfl hR (by decide) (by decide) F1 N1 ⟨none, none, t, ?_, [], _, rfl, .nil, ?_⟩ ?_ ?_ ?_
  · funext y
    rw [flI_zero, ← hx]
    by_cases q : y = PySem.Str.ofString "flag"
    · subst q; rfl
    by_cases q2 : y = PySem.Str.ofString "i"
    · subst q2; rfl
    simp [q, q2]
  · intro _ h0; simpa using h0
  · intro i m₁ news₁ z91 p hp
    refine hideG fun g9 hg9 => ?_
    obtain ⟨-, -, -, -, vs, n, rfl, -⟩ := z91
    refine hg9 ?_
    clear hg9 g9
    rcases List.mem_singleton.mp hp with rfl
    simp
  · intro i m₁ news₁ h3 tk3 I o t3 hi2 z92 htk3 hLI hnI F3 N3
    refine hideG fun g9 hg9 => ?_
    obtain ⟨kv, fv, u, rfl, vs, n, rfl, hS, hz⟩ := z92
    refine hg9 ?_
    clear hg9 g9
    change Fr s.heap L h3 _ at F3
    change News s.heap L h3 _ at N3
    clear N1 F1 hk1 hR
    have e0 : (0 : Int) + (i : Int) = (i : Int) := Int.zero_add _
    rw [e0] at F3
    have hq := dsz N a i hN ha (Nat.le_of_lt hi2)
    generalize hfq : flI N a i = fq at F3 hq
    refine hold fun R1 hR1 => ?_
    iterate 5 walk1
    refine lshift_int_small (by (first | lia | omega)) (by (first | lia | omega)) (by decide) ?_
    have eP : (1 : Int) * 2 ^ ((i : Int)).toNat = 2 ^ i := by rw [Int.one_mul, Int.toNat_natCast]
    rw [eP]
    have pP : (2 : Int) ^ i ≤ 2147483648 := by
      have := Nat.pow_le_pow_right (n := 2) (by decide) (show i ≤ 31 by (first | lia | omega))
      rw [← kbt_cast]
      exact Int.ofNat_le.mpr this
    have pP0 := kbt_pos i
    generalize hP : (2 : Int) ^ i = P at *
    iterate 8 walk1
    have eA : Builtin.bitAnd fq P = ((N / 2 ^ i % 2 : Nat) : Int) * P := by rw [← hfq, ← hP]; exact flI_and hi2
    rw [eA]
    by_cases hb : N / 2 ^ i % 2 = 1
    · have eB : ((N / 2 ^ i % 2 : Nat) : Int) * P = P := by rw [hb]; exact Int.one_mul P
      rw [eB]
      iterate 25 walk1
      rotate_left
      · exfalso
        rename_i hz9
        (first | lia | omega)
      (with_reducible rename KTD.Keyed _ _ _ => kyX)
      (with_reducible rename Fr _ _ _ _ => F4)
      (with_reducible rename News _ _ _ _ => N4)
      refine call_get2_intTab (kyX.keep F4.keep PG w) (PyProof.V.Flat.str _ _) fun v hv => ?_
      rw [KTD.lookup_keyed] at hv
      have hv2 : ∃ tv, v = .str (sx (nmL i)) tv := by
        rw [← hP] at hv
        have key : ∀ j : _root_.Fin 32, pst ((KTD.datumAt ((2 : Int) ^ j.val) [(1, PyData.str { cps := #[79, 80, 84, 73, 77, 73, 90, 69, 68] }), (2, PyData.str { cps := #[78, 69, 87, 76, 79, 67, 65, 76, 83] }), (4, PyData.str { cps := #[86, 65, 82, 65, 82, 71, 83] }), (8, PyData.str { cps := #[86, 65, 82, 75, 69, 89, 87, 79, 82, 68, 83] }), (16, PyData.str { cps := #[78, 69, 83, 84, 69, 68] }), (32, PyData.str { cps := #[71, 69, 78, 69, 82, 65, 84, 79, 82] }), (64, PyData.str { cps := #[78, 79, 70, 82, 69, 69] }), (128, PyData.str { cps := #[67, 79, 82, 79, 85, 84, 73, 78, 69] }), (256, PyData.str { cps := #[73, 84, 69, 82, 65, 66, 76, 69, 95, 67, 79, 82, 79, 85, 84, 73, 78, 69] }), (512, PyData.str { cps := #[65, 83, 89, 78, 67, 95, 71, 69, 78, 69, 82, 65, 84, 79, 82] })]).getD (PyData.str (baseText "0x" 16 ((2 : Int) ^ j.val)))) = some (sx (nmL j.val)) := by decide +kernel
        have := pst_some (key ⟨i, hi2⟩)
        rw [this] at hv
        exact PyProof.V.Flat.str_inv hv
      refine hideG fun g9 hg9 => ?_
      obtain ⟨tv, rfl⟩ := hv2
      refine hg9 ?_
      clear hg9 g9
      clear hv kyX
      have l0 : (nm : Nat) < I := hnI _ (.head _)
      have hvl := hS.length
      rw [List.length_map, List.length_map] at hvl
      have hbl : (bitsTo N i).length ≤ i := by unfold bitsTo; exact Nat.le_trans (List.length_filter_le _ _) (by rw [List.length_range]; exact Nat.le_refl _)
      walk1
      refine append_K F4 N4 (.tail (Nat.ne_of_gt l0) (.head (List.forall_mem_nil _))) ?_ ?_
      rotate_left
      · rw [List.size_toArray, sizeLine_eq]
        (first | lia | omega)
      intro h5 F5 N5
      rw [map_pf] at F5
      iterate 15 walk1
      · repeat ((fail_if_success (with_reducible refine hR1 _ _ ?_)); walk1)
        (with_reducible rename Fr _ _ _ _ => F6)
        (with_reducible rename News _ _ _ _ => N6)
        rename_i hne
        have ef : Builtin.bitXor fq P = flI N a (i + 1) := by rw [← hfq, ← hP]; exact flI_one hi2 hb
        rw [ef] at F6 hne
        rw [map_pf2] at F6
        refine hR1 _ _ (LPost.nxt (TurnEnd.mk (news₂ := [(nm, _)]) F6 N6 (.head _) (fun p hp => .tail _ hp) ⟨some (.int i t3), _, _, rfl, vs ++ [.str (sx (nmL i)) tv], _, by rw [List.push_toArray], ?_, ?_⟩))
        · rw [bitsTo_one hb, List.map_append, List.map_append]
          exact strsAre_snoc hS
        · intro h0 h1 e
          exact hne ((flI_stop (by (first | lia | omega)) hN).mpr ⟨h0, e⟩)
      · (with_reducible rename Fr _ _ _ _ => F6)
        (with_reducible rename News _ _ _ _ => N6)
        rename_i hne
        have ef : Builtin.bitXor fq P = flI N a (i + 1) := by rw [← hfq, ← hP]; exact flI_one hi2 hb
        rw [ef] at F6 hne
        rw [map_pf2] at F6
        refine hideG fun g9 hg9 => ?_
        obtain ⟨h0, h1⟩ := (flI_stop (by (first | lia | omega)) hN).mp hne
        refine hg9 ?_
        clear hg9 g9
        have ew : wordsL N a = (bitsTo N (i + 1)).map nmL := by
          unfold wordsL
          rw [bitsTo_all h1 (by (first | lia | omega)), if_neg, List.append_nil]
          rintro (h2 | h2)
          · exact h2 h0
          · subst h2
            simp at hb
        have hS2 : StrsAre (vs ++ [Value.str (sx (nmL i)) tv]) ((wordsL N a).map sx) := by
          rw [ew, bitsTo_one hb, List.map_append, List.map_append]
          exact strsAre_snoc hS
        walk1
        walk1
        refine hR1 _ _ (LPost.brk ?_)
        dsimp only
        repeat walk1
        rw [List.push_toArray] at N6
        refine join_listW (items := (vs ++ [Value.str (sx (nmL i)) tv]).toArray) (ys := (wordsL N a).map sx) ⟨_, (N6 (nm, _) (.tail _ (.head _))).1, rfl, _, rfl⟩ hS2 (by decide +kernel) (words_w N a) ?_
        intro t' k
        dsimp only
        intro ht9
        exact h _ _ _ ht9 ⟨Nat.le_of_lt (hL ▸ F6.ns.lt), F6.keep⟩
    · have hb0 : N / 2 ^ i % 2 = 0 := by (first | lia | omega)
      have eB : ((N / 2 ^ i % 2 : Nat) : Int) * P = 0 := by rw [hb0]; exact Int.zero_mul P
      rw [eB]
      repeat ((fail_if_success (with_reducible refine hR1 _ _ ?_)); walk1)
      (with_reducible rename Fr _ _ _ _ => F4)
      (with_reducible rename News _ _ _ _ => N4)
      rw [map_pf] at F4
      have ef : flI N a (i + 1) = fq := by rw [← hfq]; exact flI_nil hi2 hb
      refine hR1 _ _ (LPost.nxt (TurnEnd.mk (news₂ := [(nm, _)]) F4 N4 (.head _) (fun p hp => .tail _ hp) ⟨some (.int i t3), _, u, by rw [ef], _, _, rfl, by rw [bitsTo_nil hb]; exact hS, ?_⟩))
      · intro h0 h1 e
        have := hz h0 h1
        have e2 : N / 2 ^ (i + 1) = N / 2 ^ i / 2 := by rw [Nat.pow_succ, Nat.div_div_eq_div_mul]
        (first | lia | omega)
  · intro m₁ news₁ h3 tk3 z93 htk3 F3 N3
    refine hideG fun g9 hg9 => ?_
    obtain ⟨kv, fv, u, rfl, vs, n, rfl, hS, hz⟩ := z93
    refine hg9 ?_
    clear hg9 g9
    change Fr s.heap L h3 _ at F3
    change News s.heap L h3 _ at N3
    clear N1 F1 hk1 hR
    rw [flI_end hN] at F3
    have hvl := hS.length
    rw [List.length_map, List.length_map] at hvl
    have hbl : (bitsTo N 32).length ≤ 32 := by unfold bitsTo; exact Nat.le_trans (List.length_filter_le _ _) (by rw [List.length_range]; exact Nat.le_refl _)
    have hN0 : N / 2 ^ 32 = 0 := Nat.div_eq_of_lt hN
    have ew : wordsL N a = (bitsTo N 32).map nmL ++ [lastL a] := by
      unfold wordsL
      rw [if_pos]
      by_cases h0 : a = 0
      · right
        exact Classical.byContradiction fun h1 => hz h0 h1 hN0
      · exact .inl h0
    iterate 15 walk1
    refine append_K F3 N3 (.head (List.forall_mem_nil _)) ?_ ?_
    rotate_left
    · rw [List.size_toArray, sizeLine_eq, hvl]
      (first | lia | omega)
    intro h5 F5 N5
    have hS2 : StrsAre (vs ++ [Value.str (baseText "0x" 16 (a * 2 ^ 32)) tk3]) ((wordsL N a).map sx) := by
      rw [ew, List.map_append, lastL_hex a ha]
      exact strsAre_snoc hS
    rw [List.push_toArray] at N5
    repeat walk1
    refine join_listW (items := (vs ++ [Value.str (baseText "0x" 16 (a * 2 ^ 32)) tk3]).toArray) (ys := (wordsL N a).map sx) ⟨_, (N5 (nm, _) (.head _)).1, rfl, _, rfl⟩ hS2 (by decide +kernel) (words_w N a) ?_
    intro t' k
    dsimp only
    intro ht9
    exact h _ _ _ ht9 ⟨Nat.le_of_lt (hL ▸ F5.ns.lt), F5.keep⟩
end Mine

end

theorem Mine.reset_P2 : True ∧ True := by
  w_top off
  walk1 <;> trivial
section
open PySem PySem.W PyProof.Rows PySem.Calls PySem.Builtin PySem.Builtin.Str
set_option Elab.async false
set_option maxRecDepth 100000
set_option maxHeartbeats 1000000
namespace Mine
open PySem.StrLaws

theorem chainG_unique {s sub : PySem.Str} {hi : Nat} : ∀ {a : Nat} {c1 c2 : List Nat} {f1 f2 : Nat}, ChainG s sub hi a c1 f1 → ChainG s sub hi a c2 f2 → (∀ k, f1 ≤ k → ¬ At s sub hi k) → (∀ k, f2 ≤ k → ¬ At s sub hi k) → c1 = c2
  | a, [], [], f1, f2, _, _, _, _ => rfl
  | a, [], c :: r, f1, f2, h1, h2, n1, _ => by
    have e : f1 = a := h1
    subst e
    exact absurd h2.2.1 (n1 c h2.1)
  | a, c :: r, [], f1, f2, h1, h2, _, n2 => by
    have e : f2 = a := h2
    subst e
    exact absurd h1.2.1 (n2 c h1.1)
  | a, c :: r, d :: q, f1, f2, h1, h2, n1, n2 => by
    have e : c = d := by
      rcases Nat.lt_trichotomy c d with h | h | h
      · exact absurd h1.2.1 (h2.2.2.1 c h1.1 h)
      · exact h
      · exact absurd h2.2.1 (h1.2.2.1 d h2.1 h)
    subst e
    rw [chainG_unique h1.2.2.2 h2.2.2.2 n1 n2]

noncomputable def joinL : List (List Nat) → List Nat
  | [] => []
  | [p] => p
  | p :: q :: r => p ++ [44, 32] ++ joinL (q :: r)
theorem join_sx : ∀ ws : List (List Nat), Txt.join (PySem.Str.ofString ", ") (ws.map sx) = sx (joinL ws) := by
  intro ws
  rw [show PySem.Str.ofString ", " = sx [44, 32] by decide +kernel]
  show Builtin.Str.glued (sx [44, 32]) (ws.map sx) = _
  rw [StrLaws.glued_eq_join]
  induction ws with
  | nil => rfl
  | cons p r ih =>
    cases r with
    | nil => rfl
    | cons q r =>
      show sx p ++ sx [44, 32] ++ Str.join (sx [44, 32]) ((q :: r).map sx) = _
      rw [ih, sx_app, sx_app]; rfl

theorem at_sx {l : List Nat} {k : Nat} : At (sx l) (sx [44, 32]) (sx l).length k ↔ l[k]? = some 44 ∧ l[k + 1]? = some 32 := by
  unfold At
  rw [subAt_eq, sx_len, sx_len, sx_toList, sx_toList]
  simp only [List.length_cons, List.length_nil]
  constructor
  · rintro ⟨h1, h2⟩
    have h3 : (l.drop k).take 2 = [44, 32] := by simpa using h2
    constructor
    · have := congrArg (fun x => x[0]?) h3
      simpa [List.getElem?_take, List.getElem?_drop] using this
    · have := congrArg (fun x => x[1]?) h3
      simpa [List.getElem?_take, List.getElem?_drop] using this
  · rintro ⟨h1, h2⟩
    have hk : k + 1 < l.length := by
      rcases Nat.lt_or_ge (k + 1) l.length with h | h
      · exact h
      · rw [List.getElem?_eq_none h] at h2; cases h2
    refine ⟨by (first | lia | omega), ?_⟩
    have h3 : (l.drop k).take 2 = [44, 32] := by
      rw [List.drop_eq_getElem_cons (by (first | lia | omega)), List.drop_eq_getElem_cons hk]
      rw [List.getElem?_eq_getElem (by (first | lia | omega))] at h1 h2
      simp only [List.take_succ_cons, List.take_zero]
      rw [Option.some.inj h1, Option.some.inj h2]
    rw [h3]; rfl

/-- where the joints stand -/
noncomputable def cutsL (a : Nat) : List (List Nat) → List Nat
  | [] => []
  | [_] => []
  | p :: q :: r => (a + p.length) :: cutsL (a + p.length + 2) (q :: r)

theorem not_at_word {pre p tail : List Nat} (hp : 44 ∉ p) {k : Nat} (h1 : pre.length ≤ k) (h2 : k < pre.length + p.length) : ¬ At (sx (pre ++ p ++ tail)) (sx [44, 32]) (sx (pre ++ p ++ tail)).length k := by
  rw [at_sx]
  rintro ⟨h, -⟩
  rw [List.append_assoc, List.getElem?_append_right h1, List.getElem?_append_left (by (first | lia | omega))] at h
  exact hp (List.mem_of_getElem? h)

theorem cuts_chain : ∀ (ws : List (List Nat)) (pre : List Nat) (l : List Nat), ws ≠ [] → (∀ p ∈ ws, 44 ∉ p) → l = pre ++ joinL ws →
    ∃ f, ChainG (sx l) (sx [44, 32]) (sx l).length pre.length (cutsL pre.length ws) f ∧ (∀ k, f ≤ k → ¬ At (sx l) (sx [44, 32]) (sx l).length k) ∧ partsFrom (sx l) 2 pre.length (cutsL pre.length ws) = ws.map sx
  | [], _, _, h, _, _ => absurd rfl h
  | [p], pre, l, _, hw, e => by
    have hp := hw p (.head _)
    have e' : l = pre ++ p ++ [] := by rw [e]; simp [joinL]
    refine ⟨pre.length, rfl, ?_, ?_⟩
    · intro k hk ha
      rcases Nat.lt_or_ge k (pre.length + p.length) with h | h
      · rw [e'] at ha; exact not_at_word hp hk h ha
      · have := ha.1
        rw [sx_len, sx_len, e'] at this
        simp at this
        (first | lia | omega)
    · show [strSub (sx l) pre.length (sx l).length] = [sx p]
      congr 1
      have := strSub_toList (sx l) pre.length (sx l).length
      rw [← sx_of (strSub (sx l) pre.length (sx l).length), this, sx_toList, sx_len, e']
      congr 1
      simp
  | p :: q :: r, pre, l, _, hw, e => by
    have hp := hw p (.head _)
    have e2 : l = (pre ++ p ++ [44, 32]) ++ joinL (q :: r) := by rw [e]; simp [joinL]
    have e3 : l = pre ++ p ++ ([44, 32] ++ joinL (q :: r)) := by rw [e2]; simp
    obtain ⟨f, hc, hn, hpf⟩ := cuts_chain (q :: r) (pre ++ p ++ [44, 32]) l (by simp) (fun x hx => hw x (.tail _ hx)) e2
    have el : (pre ++ p ++ [44, 32]).length = pre.length + p.length + 2 := by simp; (first | lia | omega)
    rw [el] at hc hpf
    refine ⟨f, ⟨Nat.le_add_right _ _, ?_, ?_, ?_⟩, hn, ?_⟩
    · rw [at_sx, e3]
      constructor
      · rw [List.getElem?_append_right (by simp)]; simp
      · rw [List.getElem?_append_right (by simp)]
        have : pre.length + p.length + 1 - (pre ++ p).length = 1 := by simp
        rw [this]; rfl
    · intro k h1 h2
      rw [e3]; exact not_at_word hp h1 h2
    · exact hc
    · show strSub (sx l) pre.length (pre.length + p.length) :: partsFrom (sx l) 2 (pre.length + p.length + 2) (cutsL (pre.length + p.length + 2) (q :: r)) = sx p :: (q :: r).map sx
      rw [hpf]
      congr 1
      have := strSub_toList (sx l) pre.length (pre.length + p.length)
      rw [← sx_of (strSub (sx l) pre.length (pre.length + p.length)), this, sx_toList, e3]
      congr 1
      rw [List.append_assoc, List.drop_left, Nat.add_sub_cancel_left, List.take_left]

theorem split_join {ws : List (List Nat)} (h0 : ws ≠ []) (hw : ∀ p ∈ ws, 44 ∉ p) : Txt.split (Txt.join (PySem.Str.ofString ", ") (ws.map sx)) (PySem.Str.ofString ", ") = ws.map sx := by
  rw [join_sx, show PySem.Str.ofString ", " = sx [44, 32] by decide +kernel]
  obtain ⟨f, hc, hn, hp⟩ := cuts_chain ws [] (joinL ws) h0 hw (by simp)
  obtain ⟨f2, hc2, hn2⟩ := occ_tight (sx (joinL ws)) (sx [44, 32]) (by rw [sx_len]; decide)
  have := chainG_unique hc2 hc hn2 hn
  unfold Txt.split
  rw [partsBetween_eq, this]
  cases ws with
  | nil => exact absurd rfl h0
  | cons p r =>
    cases r with
    | nil =>
      split
      · rfl
      · rfl
    | cons q r =>
      have hl : 2 ≤ (joinL (p :: q :: r)).length := by
        show 2 ≤ (p ++ [44, 32] ++ joinL (q :: r)).length
        simp; (first | lia | omega)
      have hk : ∀ x : PySem.Str, 1 ≤ Builtin.Str.strKind x := by
        intro x; unfold Builtin.Str.strKind; split
        · exact Nat.le_refl _
        · split <;> decide
      have hk2 : Builtin.Str.strKind (sx [44, 32]) = 1 := by decide +kernel
      have h1 := hk (sx (joinL (p :: q :: r)))
      rw [if_neg, if_neg]
      · exact hp
      · simp [cutsL]
      · rw [sx_len, sx_len, hk2]
        simp only [Bool.or_eq_true, decide_eq_true_eq, List.length_cons, List.length_nil]
        (first | lia | omega)
end Mine

end

theorem Mine.reset_P3 : True ∧ True := by
  w_top off
  walk1 <;> trivial
section
open PySem PySem.W PyProof.Rows PySem.Calls
set_option Elab.async false
set_option maxRecDepth 100000
set_option maxHeartbeats 1000000
namespace Mine
/-- the whole part of 2 ** times * i through n + 1 -/
noncomputable def quoL (n times i : Nat) : Nat := 2 ^ times * i / (n + 1)
noncomputable def numL (n times shift i : Nat) : Nat := quoL n times i * 2 ^ shift
noncomputable def handsL (times first q : Nat) : List Nat := ((List.range times).filter fun t => decide (q / 2 ^ (times - 1 - t) % 2 = 1)).map fun t => (first + t) % 5
noncomputable def midL (card : List Nat) : List Nat := (card.drop 1).take (card.length - 2)
noncomputable def tellL (card hs : List Nat) : List Nat := faceL (card.getD 0 0) hs ++ midL card ++ faceL (card.getD (card.length - 1) 0) hs
noncomputable def toldTo (cards : List (List Nat)) (times first i : Nat) : List (List Nat) :=
  (List.range i).foldl (fun acc j => acc.set (2 ^ times * (j + 1) % (cards.length + 1) - 1) (tellL (cards.getD j []) (handsL times first (quoL cards.length times (j + 1))))) cards

theorem toldTo_succ (cards : List (List Nat)) (times first i : Nat) : toldTo cards times first (i + 1) = (toldTo cards times first i).set (2 ^ times * (i + 1) % (cards.length + 1) - 1) (tellL (cards.getD i []) (handsL times first (quoL cards.length times (i + 1)))) := by
  unfold toldTo
  rw [List.range_succ, List.foldl_append]; rfl
theorem toldTo_len (cards : List (List Nat)) (times first i : Nat) : (toldTo cards times first i).length = cards.length := by
  induction i with
  | zero => rfl
  | succ i ih => rw [toldTo_succ, List.length_set, ih]

theorem quoL_lt {n times i : Nat} (hi : i ≤ n) (ht : times ≤ 10) : quoL n times i < 1024 := by
  unfold quoL
  have h1 : 2 ^ times ≤ 2 ^ 10 := Nat.pow_le_pow_right (by decide) ht
  have h2 : 2 ^ times * i ≤ 1024 * n := Nat.mul_le_mul h1 hi
  exact (Nat.div_lt_iff_lt_mul (by (first | lia | omega))).mpr (by (first | lia | omega))
theorem numL_lt {n times shift i : Nat} (hi : i ≤ n) (ht : times ≤ 10) (hs : shift ≤ 22) : numL n times shift i < 2 ^ 32 := by
  unfold numL
  have h1 := quoL_lt hi ht
  have h2 : 2 ^ shift ≤ 2 ^ 22 := Nat.pow_le_pow_right (by decide) hs
  have h3 : quoL n times i * 2 ^ shift ≤ 1023 * 2 ^ 22 := Nat.mul_le_mul (by (first | lia | omega)) h2
  (first | lia | omega)

theorem bits_sum (N k : Nat) : ((bitsTo N k).map fun b => 2 ^ b).sum = N % 2 ^ k := by
  induction k with
  | zero => simp [bitsTo, Nat.mod_one]
  | succ k ih =>
    have e : N % 2 ^ (k + 1) = N % 2 ^ k + 2 ^ k * (N / 2 ^ k % 2) := by rw [Nat.pow_succ, Nat.mod_mul]
    by_cases h : N / 2 ^ k % 2 = 1
    · rw [bitsTo_one h, List.map_append, List.sum_append, ih, e, h]; simp
    · have h0 : N / 2 ^ k % 2 = 0 := by (first | lia | omega)
      rw [bitsTo_nil h, ih, e, h0]; simp
theorem bits_sorted (N k : Nat) : (bitsTo N k).Pairwise (· < ·) := by
  unfold bitsTo
  exact List.Pairwise.filter _ List.pairwise_lt_range
theorem bits_mem {N k b : Nat} : b ∈ bitsTo N k ↔ b < k ∧ N / 2 ^ b % 2 = 1 := by
  unfold bitsTo
  rw [List.mem_filter, List.mem_range]
  simp
theorem num_bit {n times shift i t : Nat} (ht : t < times) : numL n times shift i / 2 ^ (times - 1 - t + shift) % 2 = quoL n times i / 2 ^ (times - 1 - t) % 2 := by
  unfold numL
  rw [Nat.pow_add, Nat.mul_comm (2 ^ (times - 1 - t)), ← Nat.div_div_eq_div_mul, Nat.mul_div_cancel _ (Nat.two_pow_pos shift)]

theorem no44_nm {b : Nat} (h : b < 32) : 44 ∉ nmL b := by
  have key : ∀ j : _root_.Fin 32, 44 ∉ nmL j.val := by decide +kernel
  exact key ⟨b, h⟩
theorem no44_last {a : Int} (ha : a.natAbs ≤ 15) : 44 ∉ lastL a := by
  have key : ∀ j : _root_.Fin 31, 44 ∉ lastL ((j.val : Int) - 15) := by decide +kernel
  have := key ⟨(a + 15).toNat, by (first | lia | omega)⟩
  have e : (((a + 15).toNat : Nat) : Int) - 15 = a := by (first | lia | omega)
  dsimp only at this
  rw [e] at this
  exact this
theorem words_no44 {N : Nat} {a : Int} (ha : a.natAbs ≤ 15) : ∀ p ∈ wordsL N a, 44 ∉ p := by
  intro p hp
  unfold wordsL at hp
  rcases List.mem_append.mp hp with hp | hp
  · obtain ⟨b, hb, rfl⟩ := List.mem_map.mp hp
    exact no44_nm (bitsTo_lt hb)
  · split at hp
    · rw [List.mem_singleton.mp hp]; exact no44_last ha
    · cases hp
theorem bits_ne {N : Nat} (h0 : N ≠ 0) (hN : N < 2 ^ 32) : bitsTo N 32 ≠ [] := by
  intro e
  have := bits_sum N 32
  rw [e, Nat.mod_eq_of_lt hN] at this
  simp at this
  (first | lia | omega)
theorem words_ne {N : Nat} {a : Int} (hN : N < 2 ^ 32) : wordsL N a ≠ [] := by
  unfold wordsL
  by_cases h : a ≠ 0 ∨ N = 0
  · rw [if_pos h]; simp
  · rw [if_neg h]
    have : N ≠ 0 := fun e => h (.inr e)
    have := bits_ne this hN
    simpa using this
theorem names_idx {b : Nat} (h : b < 32) : ((List.range 32).map fun j => sx (nmL j)).idxOf (sx (nmL b)) = b := by
  have key : ∀ j : _root_.Fin 32, ((List.range 32).map fun j => sx (nmL j)).idxOf (sx (nmL j.val)) = j.val := by decide +kernel
  exact key ⟨b, h⟩

theorem pos_ok {n times i : Nat} (hn : n = 2 ∨ n = 4 ∨ n = 6 ∨ n = 8) (h1 : 1 ≤ i) (hi : i ≤ n) (ht : times ≤ 10) : 1 ≤ 2 ^ times * i % (n + 1) ∧ 2 ^ times * i % (n + 1) ≤ n := by
  refine ⟨?_, Nat.le_of_lt_succ (Nat.mod_lt (2 ^ times * i) (Nat.succ_pos n))⟩
  have key : ∀ (t : _root_.Fin 11) (m : _root_.Fin 4) (j : _root_.Fin 9), 1 ≤ j.val → j.val ≤ 2 * m.val + 2 → 1 ≤ 2 ^ t.val * j.val % (2 * m.val + 2 + 1) := by decide +kernel
  rcases hn with rfl | rfl | rfl | rfl
  · exact key ⟨times, by (first | lia | omega)⟩ ⟨0, by (first | lia | omega)⟩ ⟨i, by (first | lia | omega)⟩ h1 hi
  · exact key ⟨times, by (first | lia | omega)⟩ ⟨1, by (first | lia | omega)⟩ ⟨i, by (first | lia | omega)⟩ h1 hi
  · exact key ⟨times, by (first | lia | omega)⟩ ⟨2, by (first | lia | omega)⟩ ⟨i, by (first | lia | omega)⟩ h1 hi
  · exact key ⟨times, by (first | lia | omega)⟩ ⟨3, by (first | lia | omega)⟩ ⟨i, by (first | lia | omega)⟩ h1 hi

theorem handsL_lt {times first q x : Nat} (h : x ∈ handsL times first q) : x < 5 := by
  unfold handsL at h
  obtain ⟨t, -, rfl⟩ := List.mem_map.mp h
  exact Nat.mod_lt _ (by decide)
theorem handsL_len (times first q : Nat) : (handsL times first q).length ≤ times := by
  unfold handsL
  rw [List.length_map]
  exact Nat.le_trans (List.length_filter_le _ _) (by rw [List.length_range]; exact Nat.le_refl _)
end Mine

end

theorem Mine.reset_M26 : True ∧ True := by
  w_top off
  walk1 <;> trivial
section
open PySem PySem.W PyProof.Rows PySem.Calls
set_option Elab.async false
set_option maxRecDepth 100000
set_option maxHeartbeats 1000000
namespace Mine
noncomputable def nthS : List Stmt → Nat → Stmt
  | [], _ => .Pass ⟨0, 0, 0, 0⟩
  | s :: _, 0 => s
  | _ :: r, n + 1 => nthS r n
noncomputable def forBody : Stmt → List Stmt
  | .For _ _ b _ _ => b
  | _ => []
noncomputable def defBody (s : Stmt) : List Stmt := match s with
  | .FunctionDef (body := b) .. => b
  | _ => []
noncomputable def defScope (s : Stmt) : Scope := match s with
  | .FunctionDef (scope := b) .. => b
  | _ => ⟨.function, [], false, false, []⟩
/-- the turn of _law_told's loop, as the row has it -/
noncomputable def toldTurn : List Stmt := forBody (nthS (defBody (nthS PySem.Challenge.pw_wn0077_01.main.body 19)) 4)
noncomputable def toldScope : Scope := defScope (nthS PySem.Challenge.pw_wn0077_01.main.body 19)

noncomputable abbrev TF (lc TL : Addr) (lt : Tok) (ab : Int) (t4 : Tok) (cd hn wd nb iv : Option Value) : PySem.Str → Option Value := fun y =>
  if y = PySem.Str.ofString "card" then cd else if y = PySem.Str.ofString "hands" then hn else if y = PySem.Str.ofString "words" then wd else if y = PySem.Str.ofString "number" then nb else if y = PySem.Str.ofString "i" then iv else if y = PySem.Str.ofString "told" then some (.ref TL) else if y = PySem.Str.ofString "last" then some (.str (sx (lastL ab)) lt) else if y = PySem.Str.ofString "above" then some (.int ab t4) else if y = PySem.Str.ofString "cards" then some (.ref lc) else none
theorem TF_card (lc TL : Addr) (lt : Tok) (ab : Int) (t4 : Tok) (cd hn wd nb iv v : Option Value) : (fun y => if y = PySem.Str.ofString "card" then v else TF lc TL lt ab t4 cd hn wd nb iv y) = TF lc TL lt ab t4 v hn wd nb iv := by
  funext y
  by_cases q : y = PySem.Str.ofString "card"
  · subst q; rfl
  simp only [TF, if_neg q]
theorem TF_hands (lc TL : Addr) (lt : Tok) (ab : Int) (t4 : Tok) (cd hn wd nb iv v : Option Value) : (fun y => if y = PySem.Str.ofString "hands" then v else TF lc TL lt ab t4 cd hn wd nb iv y) = TF lc TL lt ab t4 cd v wd nb iv := by
  funext y
  by_cases q0 : y = PySem.Str.ofString "card"
  · subst q0; rfl
  by_cases q : y = PySem.Str.ofString "hands"
  · subst q; rfl
  simp only [TF, if_neg q]
theorem TF_words (lc TL : Addr) (lt : Tok) (ab : Int) (t4 : Tok) (cd hn wd nb iv v : Option Value) : (fun y => if y = PySem.Str.ofString "words" then v else TF lc TL lt ab t4 cd hn wd nb iv y) = TF lc TL lt ab t4 cd hn v nb iv := by
  funext y
  by_cases q0 : y = PySem.Str.ofString "card"
  · subst q0; rfl
  by_cases q1 : y = PySem.Str.ofString "hands"
  · subst q1; rfl
  by_cases q : y = PySem.Str.ofString "words"
  · subst q; rfl
  simp only [TF, if_neg q]
theorem TF_number (lc TL : Addr) (lt : Tok) (ab : Int) (t4 : Tok) (cd hn wd nb iv v : Option Value) : (fun y => if y = PySem.Str.ofString "number" then v else TF lc TL lt ab t4 cd hn wd nb iv y) = TF lc TL lt ab t4 cd hn wd v iv := by
  funext y
  by_cases q0 : y = PySem.Str.ofString "card"
  · subst q0; rfl
  by_cases q1 : y = PySem.Str.ofString "hands"
  · subst q1; rfl
  by_cases q2 : y = PySem.Str.ofString "words"
  · subst q2; rfl
  by_cases q : y = PySem.Str.ofString "number"
  · subst q; rfl
  simp only [TF, if_neg q]
theorem TF_i (lc TL : Addr) (lt : Tok) (ab : Int) (t4 : Tok) (cd hn wd nb iv v : Option Value) : (fun y => if y = PySem.Str.ofString "i" then v else TF lc TL lt ab t4 cd hn wd nb iv y) = TF lc TL lt ab t4 cd hn wd nb v := by
  funext y
  by_cases q0 : y = PySem.Str.ofString "card"
  · subst q0; rfl
  by_cases q1 : y = PySem.Str.ofString "hands"
  · subst q1; rfl
  by_cases q2 : y = PySem.Str.ofString "words"
  · subst q2; rfl
  by_cases q3 : y = PySem.Str.ofString "number"
  · subst q3; rfl
  by_cases q : y = PySem.Str.ofString "i"
  · subst q; rfl
  simp only [TF, if_neg q]
theorem joinL_len (ws : List (List Nat)) (k : Nat) (h : ∀ x ∈ ws, x.length ≤ k) : (joinL ws).length ≤ ws.length * (k + 2) := by
  induction ws with
  | nil => simp [joinL]
  | cons p r ih =>
    have h1 := h p (.head _)
    have h2 := ih fun x hx => h x (.tail _ hx)
    rw [List.length_cons, Nat.add_mul]
    cases r with
    | nil => simp only [joinL]; (first | lia | omega)
    | cons q r =>
      show (p ++ [44, 32] ++ joinL (q :: r)).length ≤ _
      simp only [List.length_append, List.length_cons, List.length_nil] at h2 ⊢
      (first | lia | omega)
theorem words_text (N : Nat) (a : Int) : (Txt.join (PySem.Str.ofString ", ") ((wordsL N a).map sx)).length + 2 ≤ sizeLine := by
  rw [join_sx, sx_len, sizeLine_eq]
  have h1 := joinL_len (wordsL N a) 20 wordsL_len
  have h2 := wordsL_num N a
  (first | lia | omega)
theorem num_int {n times shift i : Nat} : ((2 : Int) ^ ((times : Int)).toNat * ((i : Nat) : Int)).fdiv ((n : Int) + 1) * 2 ^ ((shift : Int)).toNat = ((numL n times shift i : Nat) : Int) := by
  unfold numL quoL
  rw [Int.toNat_natCast, Int.toNat_natCast, Int.fdiv_eq_ediv_of_nonneg _ (by (first | lia | omega))]
  simp
end Mine

end

theorem Mine.reset_M27 : True ∧ True := by
  w_top off
  walk1 <;> trivial
section
open PySem PySem.W PyProof.Rows PySem.Calls
set_option Elab.async false
set_option maxRecDepth 100000
set_option maxHeartbeats 4000000
namespace Mine
inductive Told0 (h₀ : Heap) (L : Addr) (lc : Addr) (TL : Addr) (NL : Addr) (I : Addr) (lt : Tok) (ab : Int) (t4 : Tok) (cd : Option Value) (hn : Option Value) (wd : Option Value) (i : Nat) (times : Nat) (shift : Nat) (c : Nat) (ti : Tok) (o : Obj) (oG : Obj) (oN : Obj) (oS : Obj) (oF : Obj) (oT : Obj) (vn : List Value) (ws : List Value) (cards : List (List Nat)) (s s' : Shared) : Prop
  | mk : ∀ h' tk tn, s' = { s with heap := h', toks := tk } → Fr h₀ L h' (TF lc TL lt ab t4 cd hn wd (some (.int ((numL cards.length times shift (i + 1) : Nat) : Int) tn)) (some (.int ((i + 1 : Nat) : Int) ti))) → News h₀ L h' [(I, o), (TL, listOf ws.toArray c), (NL, listOf vn.toArray 1), (L + 1 + 1 + 1 + 1 + 1, oG), (L + 1 + 1 + 1 + 1, oN), (L + 1 + 1 + 1, oS), (L + 1 + 1, oF), (L + 1, oT)] → Told0 h₀ L lc TL NL I lt ab t4 cd hn wd i times shift c ti o oG oN oS oF oT vn ws cards s s'
theorem told_0 {w : World} {h₀ : Heap} {s : Shared} {L : Addr} {dp : Nat} {fr : Option (List Env)} {gd : Option (List Code)} {un : Nat} (G : Gd w h₀) {lc TL NL I : Addr} {lt : Tok} {ab : Int} {t4 : Tok} {cd hn wd nb : Option Value} {i times shift c : Nat} {ti t1 t3 : Tok} {o oG oN oS oF oT : Obj} {vc vn ws : List Value} {cards : List (List Nat)}
    (hc : h₀.IsList lc vc.toArray) (hcs : StrsAre vc (cards.map sx)) (hln : cards.length ≤ 8) (hti : times ≤ 10) (hsh : shift ≤ 22) (hi : i < cards.length)
    (F : Fr h₀ L s.heap (TF lc TL lt ab t4 cd hn wd nb (some (.int ((i + 1 : Nat) : Int) ti)))) (N : News h₀ L s.heap [(I, o), (TL, listOf ws.toArray c), (NL, listOf vn.toArray 1), (L + 1 + 1 + 1 + 1 + 1, oG), (L + 1 + 1 + 1 + 1, oN), (L + 1 + 1 + 1, oS), (L + 1 + 1, oF), (L + 1, oT)])
    (dT : oT.data = .cell (some (.int times t1))) (dS : oS.data = .cell (some (.int shift t3))) :
    wpAny (model PG w) (Around.deeper ⟨none, dp, fr, gd, un⟩ (envOfC (PySem.Str.ofString "_law_told") toldScope L 151 (.ref 150))) (exec (nthS toldTurn 0) (envOfC (PySem.Str.ofString "_law_told") toldScope L 151 (.ref 150)))
      (Mid (Told0 h₀ L lc TL NL I lt ab t4 cd hn wd i times shift c ti o oG oN oS oF oT vn ws cards s)) NoE s := by
  have G' := G
  refine hideG fun g9 hg9 => ?_
  obtain ⟨X, p, loose, mean, mg, mb, T⟩ := G
  refine hg9 ?_
  clear hg9 g9
  have eS : toldScope = toldScope := rfl
  conv at eS => rhs; whnf
  have eT : nthS toldTurn 0 = nthS toldTurn 0 := rfl
  conv at eT => rhs; whnf
  rw [eS, eT]
  clear eS eT
  delta TF at F
  refine hold fun R9 hR9 => ?_
  repeat walk1
  refine len_sx (hc.at fun o e => F.keep _ o e) hcs (by (first | lia | omega)) ?_
  repeat walk1
  rename_i F2 N2
  rw [num_int] at F2
  exact hR9 _ _ ⟨rfl, _, _, _, rfl, (TF_number ..) ▸ F2, N2⟩
inductive Told1 (h₀ : Heap) (L : Addr) (lc : Addr) (TL : Addr) (NL : Addr) (I : Addr) (lt : Tok) (ab : Int) (t4 : Tok) (cd : Option Value) (hn : Option Value) (i : Nat) (c : Nat) (ti : Tok) (o : Obj) (oG : Obj) (oN : Obj) (oS : Obj) (oF : Obj) (oT : Obj) (vn : List Value) (ws : List Value) (M : Nat) (tn : Tok) (s s' : Shared) : Prop
  | mk : ∀ h' tk W wv cw, s' = { s with heap := h', toks := tk } → Fr h₀ L h' (TF lc TL lt ab t4 cd hn (some (.ref W)) (some (.int (M : Int) tn)) (some (.int ((i + 1 : Nat) : Int) ti))) → News h₀ L h' [(W, listOf (List.toArray wv) cw), (I, o), (TL, listOf ws.toArray c), (NL, listOf vn.toArray 1), (L + 1 + 1 + 1 + 1 + 1, oG), (L + 1 + 1 + 1 + 1, oN), (L + 1 + 1 + 1, oS), (L + 1 + 1, oF), (L + 1, oT)] → StrsAre wv ((wordsL M ab).map sx) → ((∀ q ∈ [(I, o), (TL, listOf ws.toArray c), (NL, listOf vn.toArray 1), (L + 1 + 1 + 1 + 1 + 1, oG), (L + 1 + 1 + 1 + 1, oN), (L + 1 + 1 + 1, oS), (L + 1 + 1, oF), (L + 1, oT)], q.1 < W)) → Told1 h₀ L lc TL NL I lt ab t4 cd hn i c ti o oG oN oS oF oT vn ws M tn s s'
theorem told_1 {w : World} {h₀ : Heap} {s : Shared} {L : Addr} {dp : Nat} {fr : Option (List Env)} {gd : Option (List Code)} {un : Nat} {lc : Addr} {TL : Addr} {NL : Addr} {I : Addr} {lt : Tok} {ab : Int} {t4 : Tok} {cd : Option Value} {hn : Option Value} {wd : Option Value} {i : Nat} {c : Nat} {ti : Tok} {o : Obj} {oG : Obj} {oN : Obj} {oS : Obj} {oF : Obj} {oT : Obj} {vn : List Value} {ws : List Value} (G : Gd w h₀) (hA : AOk (Around.deeper ⟨none, dp, fr, gd, un⟩ (envOfC (PySem.Str.ofString "_law_told") toldScope L 151 (.ref 150))) 5) {M : Nat} {tn : Tok} (hM : M < 2 ^ 32) (hab : ab.natAbs ≤ 15)
    (F : Fr h₀ L s.heap (TF lc TL lt ab t4 cd hn wd (some (.int (M : Int) tn)) (some (.int ((i + 1 : Nat) : Int) ti)))) (N : News h₀ L s.heap [(I, o), (TL, listOf ws.toArray c), (NL, listOf vn.toArray 1), (L + 1 + 1 + 1 + 1 + 1, oG), (L + 1 + 1 + 1 + 1, oN), (L + 1 + 1 + 1, oS), (L + 1 + 1, oF), (L + 1, oT)]) :
    wpAny (model PG w) (Around.deeper ⟨none, dp, fr, gd, un⟩ (envOfC (PySem.Str.ofString "_law_told") toldScope L 151 (.ref 150))) (exec (nthS toldTurn 1) (envOfC (PySem.Str.ofString "_law_told") toldScope L 151 (.ref 150)))
      (Mid (Told1 h₀ L lc TL NL I lt ab t4 cd hn i c ti o oG oN oS oF oT vn ws M tn s)) NoE s := by
  have G' := G
  refine hideG fun g9 hg9 => ?_
  obtain ⟨X, p, loose, mean, mg, mb, T⟩ := G
  refine hg9 ?_
  clear hg9 g9
  have eS : toldScope = toldScope := rfl
  conv at eS => rhs; whnf
  have eT : nthS toldTurn 1 = nthS toldTurn 1 := rfl
  conv at eT => rhs; whnf
  rw [eS, eT]
  (try rw [eS] at hA)
  clear eS eT
  delta TF at F
  refine hold fun R9 hR9 => ?_
  repeat walk1
  refine pf_ok (by exact G'.keeps F.keep) (AOk.le hA (by decide)) hM hab (by rfl) ?_
  intro h1 tk1 u1 _ g1
  have F1 := Fr.grow F g1
  have N1 := News.grow N g1
  clear F N
  repeat walk1
  refine KSpl.split1 F1 N1 (by decide +kernel) ?_ (words_text M ab)
  intro W l h2 k2 e hSl F2 N2 hW
  rw [split_join (words_ne hM) (words_no44 hab)] at e
  rw [e] at hSl
  clear F1 N1
  repeat walk1
  rename_i F3 N3
  exact hR9 _ _ ⟨rfl, _, _, _, _, _, rfl, (TF_words ..) ▸ F3, N3, hSl, hW⟩
theorem strsAre_take : ∀ (k : Nat) {vs : List Value} {ys : List PySem.Str}, StrsAre vs ys → StrsAre (vs.take k) (ys.take k)
  | 0, _, _, _ => by rw [List.take_zero, List.take_zero]; exact .nil
  | _ + 1, _, _, .nil => .nil
  | k + 1, _, _, .cons x t h => .cons x t (strsAre_take k h)
theorem pick_init (vs : List Value) : slicePick vs.toArray none (some (-1)) none = (vs.take (vs.length - 1)).toArray := by
  have e : sliceBounds none (some (-1)) none vs.toArray.size = (((0 : Nat) : Int), ((vs.length - 1 : Nat) : Int), 1) := by
    simp only [sliceBounds, Option.getD_none, show (1 : Int) > 0 by decide, if_true, if_pos (show (-1 : Int) < 0 by decide), List.size_toArray]
    congr 1
    congr 1
    (first | lia | omega)
  rw [kmk_pick_nat _ e]
  simp
theorem words_last {M : Nat} {ab : Int} (hb : ab ≠ 0 ∨ M = 0) : ((wordsL M ab).map sx).getD ((-1 : Int) + ((wordsL M ab).map sx).length).toNat Str.empty = sx (lastL ab) := by
  unfold wordsL
  rw [if_pos hb, List.length_map, List.length_append, List.length_singleton, List.map_append]
  have e : ((-1 : Int) + ((((bitsTo M 32).map nmL).length + 1 : Nat) : Int)).toNat = (((bitsTo M 32).map nmL).map sx).length := by rw [List.length_map (f := sx)]; (first | lia | omega)
  rw [e, List.getD_eq_getElem?_getD, List.getElem?_append_right (Nat.le_refl _)]
  simp
inductive Told2 (h₀ : Heap) (L : Addr) (lc : Addr) (TL : Addr) (NL : Addr) (I : Addr) (lt : Tok) (ab : Int) (t4 : Tok) (cd : Option Value) (hn : Option Value) (i : Nat) (c : Nat) (ti : Tok) (o : Obj) (oG : Obj) (oN : Obj) (oS : Obj) (oF : Obj) (oT : Obj) (vn : List Value) (ws : List Value) (M : Nat) (tn : Tok) (s s' : Shared) : Prop
  | mk : ∀ h' tk W wv cw, s' = { s with heap := h', toks := tk } → Fr h₀ L h' (TF lc TL lt ab t4 cd hn (some (.ref W)) (some (.int (M : Int) tn)) (some (.int ((i + 1 : Nat) : Int) ti))) → News h₀ L h' [(W, listOf (List.toArray wv) cw), (I, o), (TL, listOf ws.toArray c), (NL, listOf vn.toArray 1), (L + 1 + 1 + 1 + 1 + 1, oG), (L + 1 + 1 + 1 + 1, oN), (L + 1 + 1 + 1, oS), (L + 1 + 1, oF), (L + 1, oT)] → StrsAre wv (((bitsTo M 32).map nmL).map sx) → ((∀ q ∈ [(I, o), (TL, listOf ws.toArray c), (NL, listOf vn.toArray 1), (L + 1 + 1 + 1 + 1 + 1, oG), (L + 1 + 1 + 1 + 1, oN), (L + 1 + 1 + 1, oS), (L + 1 + 1, oF), (L + 1, oT)], q.1 < W)) → Told2 h₀ L lc TL NL I lt ab t4 cd hn i c ti o oG oN oS oF oT vn ws M tn s s'
theorem told_2 {w : World} {h₀ : Heap} {s : Shared} {L : Addr} {dp : Nat} {fr : Option (List Env)} {gd : Option (List Code)} {un : Nat} {lc : Addr} {TL : Addr} {NL : Addr} {I : Addr} {lt : Tok} {ab : Int} {t4 : Tok} {cd : Option Value} {hn : Option Value} {i : Nat} {c : Nat} {ti : Tok} {o : Obj} {oG : Obj} {oN : Obj} {oS : Obj} {oF : Obj} {oT : Obj} {vn : List Value} {ws : List Value} (G : Gd w h₀) {M W cw : Nat} {wv : List Value} {tn : Tok} (hw : StrsAre wv ((wordsL M ab).map sx)) (hW : ∀ q ∈ [(I, o), (TL, listOf ws.toArray c), (NL, listOf vn.toArray 1), (L + 1 + 1 + 1 + 1 + 1, oG), (L + 1 + 1 + 1 + 1, oN), (L + 1 + 1 + 1, oS), (L + 1 + 1, oF), (L + 1, oT)], q.1 < W)
    (F : Fr h₀ L s.heap (TF lc TL lt ab t4 cd hn (some (.ref W)) (some (.int (M : Int) tn)) (some (.int ((i + 1 : Nat) : Int) ti)))) (N : News h₀ L s.heap [(W, listOf (List.toArray wv) cw), (I, o), (TL, listOf ws.toArray c), (NL, listOf vn.toArray 1), (L + 1 + 1 + 1 + 1 + 1, oG), (L + 1 + 1 + 1 + 1, oN), (L + 1 + 1 + 1, oS), (L + 1 + 1, oF), (L + 1, oT)]) :
    wpAny (model PG w) (Around.deeper ⟨none, dp, fr, gd, un⟩ (envOfC (PySem.Str.ofString "_law_told") toldScope L 151 (.ref 150))) (exec (nthS toldTurn 2) (envOfC (PySem.Str.ofString "_law_told") toldScope L 151 (.ref 150)))
      (Mid (Told2 h₀ L lc TL NL I lt ab t4 cd hn i c ti o oG oN oS oF oT vn ws M tn s)) NoE s := by
  have G' := G
  refine hideG fun g9 hg9 => ?_
  obtain ⟨X, p, loose, mean, mg, mb, T⟩ := G
  refine hg9 ?_
  clear hg9 g9
  have eS : toldScope = toldScope := rfl
  conv at eS => rhs; whnf
  have eT : nthS toldTurn 2 = nthS toldTurn 2 := rfl
  conv at eT => rhs; whnf
  rw [eS, eT]
  (try rw [eS] at hA)
  clear eS eT
  delta TF at F
  refine hold fun R9 hR9 => ?_
  repeat' walk1
  · have hb : ab ≠ 0 ∨ M = 0 := .inl (by assumption)
    have hwv := hw.length
    rw [List.length_map] at hwv
    have hwn := wordsL_num M ab
    have hwl : 1 ≤ (wordsL M ab).length := by unfold wordsL; rw [if_pos hb]; simp
    refine item_strs_negR ⟨_, (N _ (.head _)).1, rfl, _, rfl⟩ hw (by decide) (by rw [List.length_map]; (first | lia | omega)) (by decide) ?_
    intro tl
    rw [words_last hb]
    dsimp only
    walk1
    refine ne_str ?_
    rw [show (sx (lastL ab) != sx (lastL ab)) = false by simp]
    iterate 15 walk1
    refine kmk_slice (its := wv.toArray) F N ⟨_, (N (W, _) (.head _)).1, rfl, _, rfl⟩ .none (.int _ _) ?_ (by with_unfolding_all rfl) (by intro r; with_unfolding_all rfl) (by rw [List.size_toArray, sizeLine_eq, hwv]; (first | lia | omega))
    intro W2 h2 F2 N2 hW2
    rw [pick_init] at N2
    have hw2 : StrsAre (wv.take (wv.length - 1)) (((bitsTo M 32).map nmL).map sx) := by
      have := strsAre_take (wv.length - 1) hw
      have e : ((wordsL M ab).map sx).take (wv.length - 1) = ((bitsTo M 32).map nmL).map sx := by
        rw [hwv]
        unfold wordsL
        rw [if_pos hb, List.length_append, List.length_singleton, Nat.add_sub_cancel, ← List.map_take, List.take_left]
      rw [e] at this
      exact this
    clear N
    repeat walk1
    rename_i F3 N3
    exact hR9 _ _ ⟨rfl, _, _, _, _, _, rfl, (TF_words ..) ▸ F3, fun q hq => N3 q (by rcases List.mem_cons.mp hq with rfl | hq; exact .head _; exact .tail _ (.tail _ hq)), hw2, fun q hq => hW2 q (.tail _ hq)⟩
  · have hb : ab ≠ 0 ∨ M = 0 := .inr (by (first | lia | omega))
    have hwv := hw.length
    rw [List.length_map] at hwv
    have hwn := wordsL_num M ab
    have hwl : 1 ≤ (wordsL M ab).length := by unfold wordsL; rw [if_pos hb]; simp
    refine item_strs_negR ⟨_, (N _ (.head _)).1, rfl, _, rfl⟩ hw (by decide) (by rw [List.length_map]; (first | lia | omega)) (by decide) ?_
    intro tl
    rw [words_last hb]
    dsimp only
    walk1
    refine ne_str ?_
    rw [show (sx (lastL ab) != sx (lastL ab)) = false by simp]
    iterate 15 walk1
    refine kmk_slice (its := wv.toArray) F N ⟨_, (N (W, _) (.head _)).1, rfl, _, rfl⟩ .none (.int _ _) ?_ (by with_unfolding_all rfl) (by intro r; with_unfolding_all rfl) (by rw [List.size_toArray, sizeLine_eq, hwv]; (first | lia | omega))
    intro W2 h2 F2 N2 hW2
    rw [pick_init] at N2
    have hw2 : StrsAre (wv.take (wv.length - 1)) (((bitsTo M 32).map nmL).map sx) := by
      have := strsAre_take (wv.length - 1) hw
      have e : ((wordsL M ab).map sx).take (wv.length - 1) = ((bitsTo M 32).map nmL).map sx := by
        rw [hwv]
        unfold wordsL
        rw [if_pos hb, List.length_append, List.length_singleton, Nat.add_sub_cancel, ← List.map_take, List.take_left]
      rw [e] at this
      exact this
    clear N
    repeat walk1
    rename_i F3 N3
    exact hR9 _ _ ⟨rfl, _, _, _, _, _, rfl, (TF_words ..) ▸ F3, fun q hq => N3 q (by rcases List.mem_cons.mp hq with rfl | hq; exact .head _; exact .tail _ (.tail _ hq)), hw2, fun q hq => hW2 q (.tail _ hq)⟩
  · have hb : ¬ (ab ≠ 0 ∨ M = 0) := by (first | lia | omega)
    have e : wordsL M ab = (bitsTo M 32).map nmL := by unfold wordsL; rw [if_neg hb, List.append_nil]
    rw [e] at hw
    exact hR9 _ _ ⟨rfl, _, _, _, _, _, rfl, F, N, hw, hW⟩
inductive Told3 (h₀ : Heap) (L : Addr) (lc : Addr) (TL : Addr) (NL : Addr) (I : Addr) (lt : Tok) (ab : Int) (t4 : Tok) (cd : Option Value) (hn : Option Value) (i : Nat) (c : Nat) (ti : Tok) (o : Obj) (oG : Obj) (oN : Obj) (oS : Obj) (oF : Obj) (oT : Obj) (vn : List Value) (ws : List Value) (M : Nat) (W : Nat) (cw : Nat) (wv : List Value) (tn : Tok) (s s' : Shared) : Prop
  | mk : ∀ h' tk, s' = { s with heap := h', toks := tk } → Fr h₀ L h' (TF lc TL lt ab t4 cd hn (some (.ref W)) (some (.int (M : Int) tn)) (some (.int ((i + 1 : Nat) : Int) ti))) → News h₀ L h' [(W, listOf (List.toArray wv) cw), (I, o), (TL, listOf ws.toArray c), (NL, listOf vn.toArray 1), (L + 1 + 1 + 1 + 1 + 1, oG), (L + 1 + 1 + 1 + 1, oN), (L + 1 + 1 + 1, oS), (L + 1 + 1, oF), (L + 1, oT)] → Told3 h₀ L lc TL NL I lt ab t4 cd hn i c ti o oG oN oS oF oT vn ws M W cw wv tn s s'
theorem told_3 {w : World} {h₀ : Heap} {s : Shared} {L : Addr} {dp : Nat} {fr : Option (List Env)} {gd : Option (List Code)} {un : Nat} {lc : Addr} {TL : Addr} {NL : Addr} {I : Addr} {lt : Tok} {ab : Int} {t4 : Tok} {cd : Option Value} {hn : Option Value} {i : Nat} {c : Nat} {ti : Tok} {o : Obj} {oG : Obj} {oN : Obj} {oS : Obj} {oF : Obj} {oT : Obj} {vn : List Value} {ws : List Value} (G : Gd w h₀) (hA : AOk (Around.deeper ⟨none, dp, fr, gd, un⟩ (envOfC (PySem.Str.ofString "_law_told") toldScope L 151 (.ref 150))) 10) {M W cw : Nat} {wv : List Value} {tn : Tok} (hcN : oN.data = .cell (some (.ref NL))) (hvn : StrsAre vn ((List.range 32).map fun k => sx (nmL k))) (hw : StrsAre wv (((bitsTo M 32).map nmL).map sx)) (hW : ∀ q ∈ [(I, o), (TL, listOf ws.toArray c), (NL, listOf vn.toArray 1), (L + 1 + 1 + 1 + 1 + 1, oG), (L + 1 + 1 + 1 + 1, oN), (L + 1 + 1 + 1, oS), (L + 1 + 1, oF), (L + 1, oT)], q.1 < W)
    (F : Fr h₀ L s.heap (TF lc TL lt ab t4 cd hn (some (.ref W)) (some (.int (M : Int) tn)) (some (.int ((i + 1 : Nat) : Int) ti)))) (N : News h₀ L s.heap [(W, listOf (List.toArray wv) cw), (I, o), (TL, listOf ws.toArray c), (NL, listOf vn.toArray 1), (L + 1 + 1 + 1 + 1 + 1, oG), (L + 1 + 1 + 1 + 1, oN), (L + 1 + 1 + 1, oS), (L + 1 + 1, oF), (L + 1, oT)]) :
    wpAny (model PG w) (Around.deeper ⟨none, dp, fr, gd, un⟩ (envOfC (PySem.Str.ofString "_law_told") toldScope L 151 (.ref 150))) (exec (nthS toldTurn 3) (envOfC (PySem.Str.ofString "_law_told") toldScope L 151 (.ref 150)))
      (Mid (Told3 h₀ L lc TL NL I lt ab t4 cd hn i c ti o oG oN oS oF oT vn ws M W cw wv tn s)) NoE s := by
  have G' := G
  refine hideG fun g9 hg9 => ?_
  obtain ⟨X, p, loose, mean, mg, mb, T⟩ := G
  refine hg9 ?_
  clear hg9 g9
  have eS : toldScope = toldScope := rfl
  conv at eS => rhs; whnf
  have eT : nthS toldTurn 3 = nthS toldTurn 3 := rfl
  conv at eT => rhs; whnf
  rw [eS, eT]
  (try rw [eS] at hA)
  clear eS eT
  delta TF at F
  refine hold fun R9 hR9 => ?_
  have hwl := hw.length
  rw [List.length_map, List.length_map] at hwl
  have hbl : (bitsTo M 32).length ≤ 32 := by unfold bitsTo; exact Nat.le_trans (List.length_filter_le _ _) (by rw [List.length_range]; exact Nat.le_refl _)
  iterate 2 walk1
  refine LCt.ListComp_T F (by with_unfolding_all rfl) (by decide) rfl (by decide) rfl ?_
  walk1
  refine LCt.CompSrcT.ledger rfl F N (.head _) (by rw [List.size_toArray, sizeLine_eq, hwl]; (first | lia | omega)) ?_
  intro g
  refine comp_invT (fun j ys news => news = _ ∧ ys = []) ⟨rfl, rfl⟩ ?_ ?_
  · intro j ys news v I2 oI C oC D m₂ h7 tk7 E' hj hv z91 hoC hm₂ F7 N7 off ne
    refine hideG fun g9 hg9 => ?_
    obtain ⟨rfl, rfl⟩ := z91
    refine hg9 ?_
    clear hg9 g9
    rw [List.size_toArray] at hj
    refine hideG fun g9 hg9 => ?_
    obtain ⟨x, u, hx, rfl⟩ := strsAre_get hw (j := j) (v := v) (by simpa using hv)
    refine hg9 ?_
    clear hg9 g9
    obtain ⟨b, hb, rfl⟩ : ∃ b, b < 32 ∧ x = sx (nmL b) := by
      have := List.mem_of_getElem? hx
      rw [List.map_map] at this
      refine hideG fun g9 hg9 => ?_
      obtain ⟨b, hb, rfl⟩ := List.mem_map.mp this
      refine hg9 ?_
      clear hg9 g9
      exact ⟨b, bitsTo_lt hb, rfl⟩
    refine hold fun R2 hR2 => ?_
    iterate 3 walk1
    refine notin_list_strs (ys := (List.range 32).map fun k => sx (nmL k)) ⟨_, (N7 (NL, listOf vn.toArray 1) (by simp)).1, rfl, _, rfl⟩ hvn ?_
    have hany : (((List.range 32).map fun k => sx (nmL k)).any (· == sx (nmL b))) = true := List.any_eq_true.mpr ⟨sx (nmL b), List.mem_map.mpr ⟨b, List.mem_range.mpr hb, rfl⟩, by simp⟩
    rw [hany, Bool.not_true]
    walk1
    refine hR2 _ _ ?_
    rw [if_neg (by decide)]
    exact LCg.CompEnd.intro F7 N7 _ (fun _ h => h) off (.inr ⟨_, .head _, rfl, _, rfl⟩) ⟨rfl, rfl⟩
  · intro ys news z92
    refine hideG fun g9 hg9 => ?_
    obtain ⟨rfl, rfl⟩ := z92
    refine hg9 ?_
    clear hg9 g9
    intro D h8 tk8 F8 N8 off8
    clear F N
    repeat walk1
    (with_reducible rename Fr _ _ _ _ => F9)
    (with_reducible rename News _ _ _ _ => N9)
    refine ne_intsK (vs := []) (us := []) (ns := []) (ms := []) ⟨_, (N9 _ (.tail _ (.head _))).1, rfl, _, rfl⟩ .nil ⟨_, (N9 _ (.head _)).1, rfl, _, rfl⟩ .nil (by have := hA.units; (first | lia | omega)) ?_
    rw [show (!decide (([] : List Int) = [])) = false by simp]
    repeat walk1
    exact hR9 _ _ ⟨rfl, _, _, rfl, F9, fun q hq => N9 q (.tail _ (.tail _ hq))⟩
inductive Told4 (h₀ : Heap) (L : Addr) (lc : Addr) (TL : Addr) (NL : Addr) (I : Addr) (lt : Tok) (ab : Int) (t4 : Tok) (cd : Option Value) (hn : Option Value) (i : Nat) (c : Nat) (ti : Tok) (o : Obj) (oN : Obj) (oS : Obj) (oF : Obj) (oT : Obj) (vn : List Value) (ws : List Value) (M : Nat) (W : Nat) (cw : Nat) (wv : List Value) (tn : Tok) (s s' : Shared) : Prop
  | mk : ∀ h' tk D fv cf oG2, s' = { s with heap := h', toks := tk } → Fr h₀ L h' (TF lc TL lt ab t4 cd hn (some (.ref W)) (some (.int (M : Int) tn)) (some (.int ((i + 1 : Nat) : Int) ti))) → News h₀ L h' [(D, listOf (List.toArray fv) cf), (W, listOf (List.toArray wv) cw), (I, o), (TL, listOf ws.toArray c), (NL, listOf vn.toArray 1), (L + 1 + 1 + 1 + 1 + 1, oG2), (L + 1 + 1 + 1 + 1, oN), (L + 1 + 1 + 1, oS), (L + 1 + 1, oF), (L + 1, oT)] → oG2.data = .cell (some (.ref D)) → IntsAre fv ((bitsTo M 32).map Int.ofNat) → TL ≠ D → Told4 h₀ L lc TL NL I lt ab t4 cd hn i c ti o oN oS oF oT vn ws M W cw wv tn s s'
theorem told_4 {w : World} {h₀ : Heap} {s : Shared} {L : Addr} {dp : Nat} {fr : Option (List Env)} {gd : Option (List Code)} {un : Nat} {lc : Addr} {TL : Addr} {NL : Addr} {I : Addr} {lt : Tok} {ab : Int} {t4 : Tok} {cd : Option Value} {hn : Option Value} {i : Nat} {c : Nat} {ti : Tok} {o : Obj} {oG : Obj} {oN : Obj} {oS : Obj} {oF : Obj} {oT : Obj} {vn : List Value} {ws : List Value} (G : Gd w h₀) {M W cw : Nat} {gG : Option Value} {wv : List Value} {tn : Tok} (hcN : oN.data = .cell (some (.ref NL))) (hgG : oG.data = .cell gG) (hvn : StrsAre vn ((List.range 32).map fun k => sx (nmL k))) (hw : StrsAre wv (((bitsTo M 32).map nmL).map sx)) (hW : ∀ q ∈ [(I, o), (TL, listOf ws.toArray c), (NL, listOf vn.toArray 1), (L + 1 + 1 + 1 + 1 + 1, oG), (L + 1 + 1 + 1 + 1, oN), (L + 1 + 1 + 1, oS), (L + 1 + 1, oF), (L + 1, oT)], q.1 < W) (l5 : L + 1 + 1 + 1 + 1 + 1 < I) (l6 : L + 1 + 1 + 1 + 1 + 1 < TL) (l7 : L + 1 + 1 + 1 + 1 + 1 < NL)
    (F : Fr h₀ L s.heap (TF lc TL lt ab t4 cd hn (some (.ref W)) (some (.int (M : Int) tn)) (some (.int ((i + 1 : Nat) : Int) ti)))) (N : News h₀ L s.heap [(W, listOf (List.toArray wv) cw), (I, o), (TL, listOf ws.toArray c), (NL, listOf vn.toArray 1), (L + 1 + 1 + 1 + 1 + 1, oG), (L + 1 + 1 + 1 + 1, oN), (L + 1 + 1 + 1, oS), (L + 1 + 1, oF), (L + 1, oT)]) :
    wpAny (model PG w) (Around.deeper ⟨none, dp, fr, gd, un⟩ (envOfC (PySem.Str.ofString "_law_told") toldScope L 151 (.ref 150))) (exec (nthS toldTurn 4) (envOfC (PySem.Str.ofString "_law_told") toldScope L 151 (.ref 150)))
      (Mid (Told4 h₀ L lc TL NL I lt ab t4 cd hn i c ti o oN oS oF oT vn ws M W cw wv tn s)) NoE s := by
  have G' := G
  refine hideG fun g9 hg9 => ?_
  obtain ⟨X, p, loose, mean, mg, mb, T⟩ := G
  refine hg9 ?_
  clear hg9 g9
  have eS : toldScope = toldScope := rfl
  conv at eS => rhs; whnf
  have eT : nthS toldTurn 4 = nthS toldTurn 4 := rfl
  conv at eT => rhs; whnf
  rw [eS, eT]
  (try rw [eS] at hA)
  clear eS eT
  delta TF at F
  refine hold fun R9 hR9 => ?_
  have hwl := hw.length
  rw [List.length_map, List.length_map] at hwl
  have hbl : (bitsTo M 32).length ≤ 32 := by unfold bitsTo; exact Nat.le_trans (List.length_filter_le _ _) (by rw [List.length_range]; exact Nat.le_refl _)
  k_lt2 l5
  k_lt2 l6
  k_lt2 l7
  walk1
  refine LCg.ListComp_U F (by with_unfolding_all rfl) (by decide) rfl (by decide) rfl ?_
  walk1
  refine LCg.CompSrc.ledger rfl F N (.head _) (by rw [List.size_toArray, sizeLine_eq, hwl]; (first | lia | omega)) ?_
  intro g
  refine comp_inv (fun j ys news => news = _ ∧ IntsAre ys (((bitsTo M 32).take j).map Int.ofNat)) ⟨rfl, .nil⟩ ?_ ?_
  · intro j ys news v I2 oI C oC D m₂ h7 tk7 E' hj hv z93 hoC hm₂ F7 N7 off ne
    refine hideG fun g9 hg9 => ?_
    obtain ⟨rfl, hys⟩ := z93
    refine hg9 ?_
    clear hg9 g9
    rw [List.size_toArray, hwl] at hj
    refine hideG fun g9 hg9 => ?_
    obtain ⟨x, u, hx, rfl⟩ := strsAre_get hw (j := j) (v := v) (by simpa using hv)
    refine hg9 ?_
    clear hg9 g9
    have hxb : x = sx (nmL (bitsTo M 32)[j]) := by
      rw [List.map_map, List.getElem?_map, List.getElem?_eq_getElem hj] at hx
      exact (Option.some.inj hx).symm
    subst hxb
    have hb : (bitsTo M 32)[j] < 32 := bitsTo_lt (List.getElem_mem hj)
    have etk : (bitsTo M 32).take (j + 1) = (bitsTo M 32).take j ++ [(bitsTo M 32)[j]] := by rw [List.take_add_one, List.getElem?_eq_getElem hj]; rfl
    generalize (bitsTo M 32)[j] = b at *
    refine hold fun R2 hR2 => ?_
    repeat walk1
    refine index_sx (ns := (List.range 32).map fun k => sx (nmL k)) ⟨_, (N7 (NL, listOf vn.toArray 1) (by simp)).1, rfl, _, rfl⟩ hvn (by simp) (List.mem_map.mpr ⟨b, List.mem_range.mpr hb, rfl⟩) ?_
    rw [names_idx hb]
    exact hR2 _ _ <| LCg.CompEnd.intro F7 N7 _ (fun _ h => h) off (.inr ⟨_, .head _, rfl, _, rfl⟩) ⟨rfl, by rw [etk, List.map_append]; exact hys.append (.cons (Int.ofNat b) _ .nil)⟩
  · intro ys news z94
    refine hideG fun g9 hg9 => ?_
    obtain ⟨rfl, hys⟩ := z94
    refine hg9 ?_
    clear hg9 g9
    rw [List.size_toArray, hwl, List.take_length] at hys
    intro D h8 tk8 F8 N8 off8
    have n5 : @Ne Nat (L + 1 + 1 + 1 + 1 + 1) D := off8.2.2.2.2.1
    have nTD : @Ne Nat TL D := off8.2.2.1
    clear F N off8
    have l8 : L + 1 + 1 + 1 + 1 + 1 < W := hW (L + 1 + 1 + 1 + 1 + 1, oG) (by simp)
    k_lt2 l8
    refine' storeX_C F8 N8 ?c ?U hgG ?_ ?a ?b
    (case a => rfl)
    (case b => rfl)
    (case c => rfl)
    (case U => k_updF)
    intro h9 oG2 F9 N9 hG2
    exact hR9 _ _ ⟨rfl, _, _, _, _, _, _, rfl, F9, N9, hG2, hys, nTD⟩
theorem range_from1 {k : Nat} (hk : k ≤ 1000) : Builtin.Range.small 1 (k : Int) 1 = true ∧ Builtin.Range.rangeSize 1 (k : Int) 1 = ((k - 1 : Nat) : Int) := by
  refine ⟨small_one (by (first | lia | omega)) (by (first | lia | omega)) (by (first | lia | omega)) (by (first | lia | omega)), ?_⟩
  unfold Builtin.Range.rangeSize
  rw [if_pos (by decide)]
  by_cases h : k ≤ 1
  · rw [if_neg (by (first | lia | omega))]; (first | lia | omega)
  · rw [if_pos (by (first | lia | omega)), Int.ediv_one]; (first | lia | omega)
theorem bits_lt {N k j : Nat} (h : j + 1 < (bitsTo N k).length) : (bitsTo N k)[j] < (bitsTo N k)[j + 1] :=
  (List.pairwise_iff_getElem.mp (bits_sorted N k)) j (j + 1) (by (first | lia | omega)) h (by (first | lia | omega))
inductive Told5 (h₀ : Heap) (L : Addr) (lc : Addr) (TL : Addr) (NL : Addr) (I : Addr) (lt : Tok) (ab : Int) (t4 : Tok) (cd : Option Value) (hn : Option Value) (i : Nat) (c : Nat) (ti : Tok) (o : Obj) (oG : Obj) (oN : Obj) (oS : Obj) (oF : Obj) (oT : Obj) (vn : List Value) (ws : List Value) (M : Nat) (W : Nat) (D : Nat) (cf : Nat) (cw : Nat) (wv : List Value) (fv : List Value) (tn : Tok) (s s' : Shared) : Prop
  | mk : ∀ h' tk, s' = { s with heap := h', toks := tk } → Fr h₀ L h' (TF lc TL lt ab t4 cd hn (some (.ref W)) (some (.int (M : Int) tn)) (some (.int ((i + 1 : Nat) : Int) ti))) → News h₀ L h' [(D, listOf (List.toArray fv) cf), (W, listOf (List.toArray wv) cw), (I, o), (TL, listOf ws.toArray c), (NL, listOf vn.toArray 1), (L + 1 + 1 + 1 + 1 + 1, oG), (L + 1 + 1 + 1 + 1, oN), (L + 1 + 1 + 1, oS), (L + 1 + 1, oF), (L + 1, oT)] → Told5 h₀ L lc TL NL I lt ab t4 cd hn i c ti o oG oN oS oF oT vn ws M W D cf cw wv fv tn s s'
theorem told_5 {w : World} {h₀ : Heap} {s : Shared} {L : Addr} {dp : Nat} {fr : Option (List Env)} {gd : Option (List Code)} {un : Nat} {lc : Addr} {TL : Addr} {NL : Addr} {I : Addr} {lt : Tok} {ab : Int} {t4 : Tok} {cd : Option Value} {hn : Option Value} {i : Nat} {c : Nat} {ti : Tok} {o : Obj} {oG : Obj} {oN : Obj} {oS : Obj} {oF : Obj} {oT : Obj} {vn : List Value} {ws : List Value} (G : Gd w h₀) (hA : AOk (Around.deeper ⟨none, dp, fr, gd, un⟩ (envOfC (PySem.Str.ofString "_law_told") toldScope L 151 (.ref 150))) 10) {M W D cf cw : Nat} {wv fv : List Value} {tn : Tok} (hM : M < 2 ^ 32) (hcG : oG.data = .cell (some (.ref D))) (hfv : IntsAre fv ((bitsTo M 32).map Int.ofNat))
    (F : Fr h₀ L s.heap (TF lc TL lt ab t4 cd hn (some (.ref W)) (some (.int (M : Int) tn)) (some (.int ((i + 1 : Nat) : Int) ti)))) (N : News h₀ L s.heap [(D, listOf (List.toArray fv) cf), (W, listOf (List.toArray wv) cw), (I, o), (TL, listOf ws.toArray c), (NL, listOf vn.toArray 1), (L + 1 + 1 + 1 + 1 + 1, oG), (L + 1 + 1 + 1 + 1, oN), (L + 1 + 1 + 1, oS), (L + 1 + 1, oF), (L + 1, oT)]) :
    wpAny (model PG w) (Around.deeper ⟨none, dp, fr, gd, un⟩ (envOfC (PySem.Str.ofString "_law_told") toldScope L 151 (.ref 150))) (exec (nthS toldTurn 5) (envOfC (PySem.Str.ofString "_law_told") toldScope L 151 (.ref 150)))
      (Mid (Told5 h₀ L lc TL NL I lt ab t4 cd hn i c ti o oG oN oS oF oT vn ws M W D cf cw wv fv tn s)) NoE s := by
  have G' := G
  refine hideG fun g9 hg9 => ?_
  obtain ⟨X, p, loose, mean, mg, mb, T⟩ := G
  refine hg9 ?_
  clear hg9 g9
  have eS : toldScope = toldScope := rfl
  conv at eS => rhs; whnf
  have eT : nthS toldTurn 5 = nthS toldTurn 5 := rfl
  conv at eT => rhs; whnf
  rw [eS, eT]
  (try rw [eS] at hA)
  clear eS eT
  delta TF at F
  refine hold fun R9 hR9 => ?_
  have hfl := hfv.length
  rw [List.length_map] at hfl
  have hbl : (bitsTo M 32).length ≤ 32 := by unfold bitsTo; exact Nat.le_trans (List.length_filter_le _ _) (by rw [List.length_range]; exact Nat.le_refl _)
  iterate 3 walk1
  refine LCt.ListComp_T F (by with_unfolding_all rfl) (by decide) rfl (by decide) rfl ?_
  iterate 12 walk1
  refine len_list (items := fv.toArray) ⟨_, (N (D, _) (.head _)).1, rfl, _, rfl⟩ (by rw [List.size_toArray, hfl]; (first | lia | omega)) ?_
  rw [List.size_toArray, hfl]
  iterate 2 walk1
  rename_i hR F2 N2 hk2
  have hrs := range_from1 (k := (bitsTo M 32).length) (by (first | lia | omega))
  refine LCt.CompSrcT.range rfl F2 N2 hR hrs.1 hrs.2 (by rw [sizeLine_eq]; (first | lia | omega)) ?_
  intro g
  refine comp_invT (fun j ys news => news = _ ∧ ys = []) ⟨rfl, rfl⟩ ?_ ?_
  · intro j ys news v I2 oI C oC D2 m₂ h7 tk7 E' hj z95 z96 hoC hm₂ F7 N7 off ne
    refine hideG fun g9 hg9 => ?_
    obtain ⟨tv, rfl⟩ := z95
    obtain ⟨rfl, rfl⟩ := z96
    refine hg9 ?_
    clear hg9 g9
    clear F2 N2 hR hk2 hrs
    have hj1 : j < (bitsTo M 32).length := by (first | lia | omega)
    have hj2 : j + 1 < (bitsTo M 32).length := by (first | lia | omega)
    have hlt := bits_lt hj2
    have hD7 := (N7 (D, listOf fv.toArray cf) (.tail _ (.tail _ (.tail _ (.head _))))).1
    refine hold fun R2 hR2 => ?_
    iterate 7 walk1
    have ei : (1 : Int) + (j : Int) - 1 = (j : Int) := by (first | lia | omega)
    rw [ei]
    refine item_nat (ds := bitsTo M 32) ⟨_, hD7, rfl, _, rfl⟩ hfv hj1 (by (first | lia | omega)) ?_
    intro ta
    iterate 3 walk1
    have ei2 : (1 : Int) + (j : Int) = ((j + 1 : Nat) : Int) := by (first | lia | omega)
    rw [ei2]
    refine item_nat (ds := bitsTo M 32) ⟨_, hD7, rfl, _, rfl⟩ hfv hj2 (by (first | lia | omega)) ?_
    intro tb
    generalize (bitsTo M 32)[j] = b1 at *
    generalize (bitsTo M 32)[j + 1] = b2 at *
    iterate 2 walk1
    refine hR2 _ _ ?_
    rw [if_neg (by first | decide | simp; omega)]
    exact LCg.CompEnd.intro F7 N7 _ (fun _ h => h) off trivial ⟨rfl, rfl⟩
  · intro ys news z97
    refine hideG fun g9 hg9 => ?_
    obtain ⟨rfl, rfl⟩ := z97
    refine hg9 ?_
    clear hg9 g9
    intro D3 h8 tk8 F8 N8 off8
    clear F2 N2 hR hk2 hrs off8
    iterate 3 walk1
    (with_reducible rename Fr _ _ _ _ => F9)
    (with_reducible rename News _ _ _ _ => N9)
    refine ne_intsK (vs := []) (us := []) (ns := []) (ms := []) ⟨_, (N9 _ (.tail _ (.head _))).1, rfl, _, rfl⟩ .nil ⟨_, (N9 _ (.head _)).1, rfl, _, rfl⟩ .nil (by have := hA.units; (first | lia | omega)) ?_
    rw [show (!decide (([] : List Int) = [])) = false by simp]
    iterate 8 walk1
    have N10 : News h₀ L _ [(D, listOf (List.toArray fv) cf), (W, listOf (List.toArray wv) cw), (I, o), (TL, listOf ws.toArray c), (NL, listOf vn.toArray 1), (L + 1 + 1 + 1 + 1 + 1, oG), (L + 1 + 1 + 1 + 1, oN), (L + 1 + 1 + 1, oS), (L + 1 + 1, oF), (L + 1, oT)] := fun q hq => N9 q (.tail _ (.tail _ hq))
    clear N9
    refine LCg.ListComp_U F9 (by with_unfolding_all rfl) (by decide) rfl (by decide) rfl ?_
    walk1
    refine LCg.CompSrc.ledger rfl F9 N10 (.head _) (by rw [List.size_toArray, sizeLine_eq, hfl]; (first | lia | omega)) ?_
    intro g2
    refine comp_inv (fun j ys news => news = _ ∧ IntsAre ys (((bitsTo M 32).take j).map fun b => ((2 ^ b : Nat) : Int))) ⟨rfl, .nil⟩ ?_ ?_
    · intro j ys news v I2 oI C oC D2 m₂ h11 tk11 E' hj hv z98 hoC hm₂ F11 N11 off ne
      refine hideG fun g9 hg9 => ?_
      obtain ⟨rfl, hys⟩ := z98
      refine hg9 ?_
      clear hg9 g9
      rw [List.size_toArray, hfl] at hj
      refine hideG fun g9 hg9 => ?_
      obtain ⟨x, u, hx, rfl⟩ := intsAre_get hfv (j := j) (v := v) (by simpa using hv)
      refine hg9 ?_
      clear hg9 g9
      have hxb : x = ((bitsTo M 32)[j] : Nat) := by
        rw [List.getElem?_map, List.getElem?_eq_getElem hj] at hx
        exact (Option.some.inj hx).symm
      subst hxb
      have hb : (bitsTo M 32)[j] < 32 := bitsTo_lt (List.getElem_mem hj)
      have etk : (bitsTo M 32).take (j + 1) = (bitsTo M 32).take j ++ [(bitsTo M 32)[j]] := by rw [List.take_add_one, List.getElem?_eq_getElem hj]; rfl
      generalize (bitsTo M 32)[j] = b at *
      refine hold fun R2 hR2 => ?_
      iterate 4 walk1
      have eP : (2 : Int) ^ ((b : Int)).toNat = ((2 ^ b : Nat) : Int) := by rw [Int.toNat_natCast]; exact (kbt_cast b).symm
      rw [eP]
      exact hR2 _ _ <| LCg.CompEnd.intro F11 N11 _ (fun _ h => h) off (.inr ⟨_, .head _, rfl, _, rfl⟩) ⟨rfl, by rw [etk, List.map_append]; exact hys.append (.cons _ _ .nil)⟩
    · intro ys news z99
      refine hideG fun g9 hg9 => ?_
      obtain ⟨rfl, hys⟩ := z99
      refine hg9 ?_
      clear hg9 g9
      rw [List.size_toArray, hfl, List.take_length] at hys
      intro D4 h12 tk12 F12 N12 off12
      clear off12 F9 N10
      walk1
      refine sumK (vs := ys) rfl F12 N12 ⟨_, (N12 (D4, _) (.head _)).1, rfl, _, rfl⟩ hys ?_
      intro h13 tk13 t13 F13 N13
      have esum : (((bitsTo M 32).map fun b => ((2 ^ b : Nat) : Int))).sum = (M : Int) := by
        have e1 := bits_sum M 32
        rw [Nat.mod_eq_of_lt hM] at e1
        have e2 : ∀ l : List Nat, (l.map fun b => ((2 ^ b : Nat) : Int)).sum = (((l.map fun b => 2 ^ b).sum : Nat) : Int) := by
          intro l
          induction l with
          | nil => rfl
          | cons x r ih => rw [List.map_cons, List.map_cons, List.sum_cons, List.sum_cons, ih]; push_cast; rfl
        rw [e2, e1]
      rw [esum]
      clear F12 N12
      iterate 2 walk1
      rw [show ((M : Int) != (M : Int)) = false by simp]
      repeat walk1
      exact hR9 _ _ ⟨rfl, _, _, rfl, F13, fun q hq => N13 q (.tail _ hq)⟩
theorem any_bits {N : Nat} {k : Nat} : ((bitsTo N 32).map Int.ofNat).any (· == (k : Int)) = decide (k < 32 ∧ N / 2 ^ k % 2 = 1) := by
  rw [Bool.eq_iff_iff, List.any_eq_true, decide_eq_true_eq, ← bits_mem]
  constructor
  · intro z910
    refine hideG fun g9 hg9 => ?_
    obtain ⟨x, hx, he⟩ := z910
    refine hg9 ?_
    clear hg9 g9
    refine hideG fun g9 hg9 => ?_
    obtain ⟨b, hb, rfl⟩ := List.mem_map.mp hx
    refine hg9 ?_
    clear hg9 g9
    have : b = k := Int.ofNat.inj (by simpa using he)
    exact this ▸ hb
  · intro h
    exact ⟨Int.ofNat k, List.mem_map_of_mem h, by simp⟩
noncomputable def handsTo (times first q j : Nat) : List Nat := ((List.range j).filter fun t => decide (q / 2 ^ (times - 1 - t) % 2 = 1)).map fun t => (first + t) % 5
theorem handsTo_one {times first q j : Nat} (h : q / 2 ^ (times - 1 - j) % 2 = 1) : handsTo times first q (j + 1) = handsTo times first q j ++ [(first + j) % 5] := by
  unfold handsTo
  rw [List.range_succ, List.filter_append, List.map_append]
  simp [h]
theorem handsTo_nil {times first q j : Nat} (h : q / 2 ^ (times - 1 - j) % 2 ≠ 1) : handsTo times first q (j + 1) = handsTo times first q j := by
  unfold handsTo
  rw [List.range_succ, List.filter_append, List.map_append]
  simp [h]
inductive Told6 (h₀ : Heap) (L : Addr) (lc : Addr) (TL : Addr) (NL : Addr) (I : Addr) (lt : Tok) (ab : Int) (t4 : Tok) (cd : Option Value) (i : Nat) (times : Nat) (first : Nat) (shift : Nat) (c : Nat) (ti : Tok) (o : Obj) (oG : Obj) (oN : Obj) (oS : Obj) (oF : Obj) (oT : Obj) (vn : List Value) (ws : List Value) (n : Nat) (W : Nat) (D : Nat) (cf : Nat) (cw : Nat) (wv : List Value) (fv : List Value) (tn : Tok) (s s' : Shared) : Prop
  | mk : ∀ h' tk H hv ch, s' = { s with heap := h', toks := tk } → Fr h₀ L h' (TF lc TL lt ab t4 cd (some (.ref H)) (some (.ref W)) (some (.int (numL n times shift (i + 1) : Nat) tn)) (some (.int ((i + 1 : Nat) : Int) ti))) → News h₀ L h' [(H, listOf (List.toArray hv) ch), (D, listOf (List.toArray fv) cf), (W, listOf (List.toArray wv) cw), (I, o), (TL, listOf ws.toArray c), (NL, listOf vn.toArray 1), (L + 1 + 1 + 1 + 1 + 1, oG), (L + 1 + 1 + 1 + 1, oN), (L + 1 + 1 + 1, oS), (L + 1 + 1, oF), (L + 1, oT)] → IntsAre hv ((handsL times first (quoL n times (i + 1))).map Int.ofNat) → TL ≠ H → Told6 h₀ L lc TL NL I lt ab t4 cd i times first shift c ti o oG oN oS oF oT vn ws n W D cf cw wv fv tn s s'
theorem told_6 {w : World} {h₀ : Heap} {s : Shared} {L : Addr} {dp : Nat} {fr : Option (List Env)} {gd : Option (List Code)} {un : Nat} {lc : Addr} {TL : Addr} {NL : Addr} {I : Addr} {lt : Tok} {ab : Int} {t4 : Tok} {cd : Option Value} {hn : Option Value} {i : Nat} {times : Nat} {first : Nat} {shift : Nat} {c : Nat} {ti : Tok} {t1 : Tok} {t2 : Tok} {t3 : Tok} {o : Obj} {oG : Obj} {oN : Obj} {oS : Obj} {oF : Obj} {oT : Obj} {vn : List Value} {ws : List Value} (G : Gd w h₀) {n W D cf cw : Nat} {wv fv : List Value} {tn : Tok} (hti : 1 ≤ times ∧ times ≤ 10) (hfi : first < 5) (hsh : shift ≤ 22) (dT : oT.data = .cell (some (.int times t1))) (dF : oF.data = .cell (some (.int first t2))) (dS : oS.data = .cell (some (.int shift t3))) (hcG : oG.data = .cell (some (.ref D))) (hfv : IntsAre fv ((bitsTo (numL n times shift (i + 1)) 32).map Int.ofNat))
    (F : Fr h₀ L s.heap (TF lc TL lt ab t4 cd hn (some (.ref W)) (some (.int (numL n times shift (i + 1) : Nat) tn)) (some (.int ((i + 1 : Nat) : Int) ti)))) (N : News h₀ L s.heap [(D, listOf (List.toArray fv) cf), (W, listOf (List.toArray wv) cw), (I, o), (TL, listOf ws.toArray c), (NL, listOf vn.toArray 1), (L + 1 + 1 + 1 + 1 + 1, oG), (L + 1 + 1 + 1 + 1, oN), (L + 1 + 1 + 1, oS), (L + 1 + 1, oF), (L + 1, oT)]) :
    wpAny (model PG w) (Around.deeper ⟨none, dp, fr, gd, un⟩ (envOfC (PySem.Str.ofString "_law_told") toldScope L 151 (.ref 150))) (exec (nthS toldTurn 6) (envOfC (PySem.Str.ofString "_law_told") toldScope L 151 (.ref 150)))
      (Mid (Told6 h₀ L lc TL NL I lt ab t4 cd i times first shift c ti o oG oN oS oF oT vn ws n W D cf cw wv fv tn s)) NoE s := by
  have G' := G
  refine hideG fun g9 hg9 => ?_
  obtain ⟨X, p, loose, mean, mg, mb, T⟩ := G
  refine hg9 ?_
  clear hg9 g9
  have eS : toldScope = toldScope := rfl
  conv at eS => rhs; whnf
  have eT : nthS toldTurn 6 = nthS toldTurn 6 := rfl
  conv at eT => rhs; whnf
  rw [eS, eT]
  (try rw [eS] at hA)
  clear eS eT
  delta TF at F
  refine hold fun R9 hR9 => ?_
  refine LCt.Assign_ListComp_T F (by rfl) (by with_unfolding_all rfl) (by with_unfolding_all rfl) (by decide) rfl (by decide) rfl (by rfl) (by rfl) ?_
  iterate 7 walk1
  rename_i hR F2 N2 hk2
  have hrs := range_small0 (n := times) (by (first | lia | omega))
  refine LCt.CompSrcT.range rfl F2 N2 hR hrs.1 hrs.2 (by rw [sizeLine_eq]; (first | lia | omega)) ?_
  intro g
  refine comp_invT (fun j ys news => news = _ ∧ IntsAre ys ((handsTo times first (quoL n times (i + 1)) j).map Int.ofNat)) ⟨rfl, .nil⟩ ?_ ?_
  · intro j ys news v I2 oI C oC D2 m₂ h7 tk7 E' hj z911 z912 hoC hm₂ F7 N7 off ne
    refine hideG fun g9 hg9 => ?_
    obtain ⟨tv, rfl⟩ := z911
    obtain ⟨rfl, hys⟩ := z912
    refine hg9 ?_
    clear hg9 g9
    clear F2 N2 hR hk2 hrs
    have ez : (0 : Int) + (j : Int) = (j : Int) := by (first | lia | omega)
    rw [ez] at hm₂
    have hD7 := (N7 (D, listOf fv.toArray cf) (.tail _ (.tail _ (.tail _ (.head _))))).1
    refine hold fun R2 hR2 => ?_
    iterate 12 walk1
    refine in_list_ints ⟨_, hD7, rfl, _, rfl⟩ hfv ?_
    have ek : (times : Int) - 1 - (j : Int) + (shift : Int) = ((times - 1 - j + shift : Nat) : Int) := by (first | lia | omega)
    have hk : times - 1 - j + shift < 32 := by (first | lia | omega)
    rw [ek, any_bits, num_bit hj]
    by_cases hbit : quoL n times (i + 1) / 2 ^ (times - 1 - j) % 2 = 1
    · rw [decide_eq_true (show times - 1 - j + shift < 32 ∧ quoL n times (i + 1) / 2 ^ (times - 1 - j) % 2 = 1 from ⟨hk, hbit⟩)]
      walk1
      refine hR2 _ _ ?_
      rw [if_pos rfl]
      iterate 7 walk1
      have em : ((first : Int) + (j : Int)).fmod 5 = (((first + j) % 5 : Nat) : Int) := by
        rw [Int.fmod_eq_emod_of_nonneg _ (by decide)]; (first | lia | omega)

      rw [em]
      exact LCg.CompEnd.intro F7 N7 _ (fun _ h => h) off trivial ⟨rfl, by rw [handsTo_one hbit, List.map_append]; exact hys.append (.cons (Int.ofNat ((first + j) % 5)) _ .nil)⟩
    · rw [decide_eq_false (show ¬ (times - 1 - j + shift < 32 ∧ quoL n times (i + 1) / 2 ^ (times - 1 - j) % 2 = 1) from fun h => hbit h.2)]
      walk1
      refine hR2 _ _ ?_
      rw [if_neg (by decide)]
      exact LCg.CompEnd.intro F7 N7 _ (fun _ h => h) off trivial ⟨rfl, by rw [handsTo_nil hbit]; exact hys⟩
  · intro ys news z913
    refine hideG fun g9 hg9 => ?_
    obtain ⟨rfl, hys⟩ := z913
    refine hg9 ?_
    clear hg9 g9
    intro H h8 tk8 F8 N8 off8
    exact hR9 _ _ ⟨rfl, _, _, _, _, _, rfl, (TF_hands ..) ▸ F8, N8, hys, off8.2.2.2.1⟩
inductive Told7 (h₀ : Heap) (L : Addr) (lc : Addr) (TL : Addr) (NL : Addr) (I : Addr) (lt : Tok) (ab : Int) (t4 : Tok) (hn : Option Value) (wd : Option Value) (nb : Option Value) (i : Nat) (c : Nat) (ti : Tok) (o : Obj) (oG : Obj) (oN : Obj) (oS : Obj) (oF : Obj) (oT : Obj) (vn : List Value) (ws : List Value) (crd : List Nat) (W : Nat) (H : Nat) (D : Nat) (cf : Nat) (cw : Nat) (ch : Nat) (wv : List Value) (fv : List Value) (hv : List Value) (s s' : Shared) : Prop
  | mk : ∀ h' tk tc, s' = { s with heap := h', toks := tk } → Fr h₀ L h' (TF lc TL lt ab t4 (some (.str (sx crd) tc)) hn wd nb (some (.int ((i + 1 : Nat) : Int) ti))) → News h₀ L h' [(H, listOf (List.toArray hv) ch), (D, listOf (List.toArray fv) cf), (W, listOf (List.toArray wv) cw), (I, o), (TL, listOf ws.toArray c), (NL, listOf vn.toArray 1), (L + 1 + 1 + 1 + 1 + 1, oG), (L + 1 + 1 + 1 + 1, oN), (L + 1 + 1 + 1, oS), (L + 1 + 1, oF), (L + 1, oT)] → Told7 h₀ L lc TL NL I lt ab t4 hn wd nb i c ti o oG oN oS oF oT vn ws crd W H D cf cw ch wv fv hv s s'
theorem told_7 {w : World} {h₀ : Heap} {s : Shared} {L : Addr} {dp : Nat} {fr : Option (List Env)} {gd : Option (List Code)} {un : Nat} {lc : Addr} {TL : Addr} {NL : Addr} {I : Addr} {lt : Tok} {ab : Int} {t4 : Tok} {cd : Option Value} {hn : Option Value} {wd : Option Value} {nb : Option Value} {i : Nat} {c : Nat} {ti : Tok} {o : Obj} {oG : Obj} {oN : Obj} {oS : Obj} {oF : Obj} {oT : Obj} {vc : List Value} {vn : List Value} {ws : List Value} {cards : List (List Nat)} (G : Gd w h₀) {W H D cf cw ch : Nat} {wv fv hv : List Value} (hc : h₀.IsList lc vc.toArray) (hcs : StrsAre vc (cards.map sx)) (hln : cards.length ≤ 8) (hi : i < cards.length)
    (F : Fr h₀ L s.heap (TF lc TL lt ab t4 cd hn wd nb (some (.int ((i + 1 : Nat) : Int) ti)))) (N : News h₀ L s.heap [(H, listOf (List.toArray hv) ch), (D, listOf (List.toArray fv) cf), (W, listOf (List.toArray wv) cw), (I, o), (TL, listOf ws.toArray c), (NL, listOf vn.toArray 1), (L + 1 + 1 + 1 + 1 + 1, oG), (L + 1 + 1 + 1 + 1, oN), (L + 1 + 1 + 1, oS), (L + 1 + 1, oF), (L + 1, oT)]) :
    wpAny (model PG w) (Around.deeper ⟨none, dp, fr, gd, un⟩ (envOfC (PySem.Str.ofString "_law_told") toldScope L 151 (.ref 150))) (exec (nthS toldTurn 7) (envOfC (PySem.Str.ofString "_law_told") toldScope L 151 (.ref 150)))
      (Mid (Told7 h₀ L lc TL NL I lt ab t4 hn wd nb i c ti o oG oN oS oF oT vn ws cards[i] W H D cf cw ch wv fv hv s)) NoE s := by
  have G' := G
  refine hideG fun g9 hg9 => ?_
  obtain ⟨X, p, loose, mean, mg, mb, T⟩ := G
  refine hg9 ?_
  clear hg9 g9
  have eS : toldScope = toldScope := rfl
  conv at eS => rhs; whnf
  have eT : nthS toldTurn 7 = nthS toldTurn 7 := rfl
  conv at eT => rhs; whnf
  rw [eS, eT]
  (try rw [eS] at hA)
  clear eS eT
  delta TF at F
  refine hold fun R9 hR9 => ?_
  iterate 7 walk1
  have ei : ((i + 1 : Nat) : Int) - 1 = (i : Int) := by (first | lia | omega)
  rw [ei]
  refine item_sx (hc.at fun o e => F.keep _ o e) hcs hi (by (first | lia | omega)) ?_
  intro tc
  repeat walk1
  rename_i F3 N3
  exact hR9 _ _ ⟨rfl, _, _, _, rfl, (TF_card ..) ▸ F3, N3⟩
theorem faceL_len (c : Nat) : ∀ hs : List Nat, (∀ x ∈ hs, x < 5) → (faceL c hs).length ≤ 8 + 4 * hs.length
  | [], _ => by simp [faceL]
  | h :: r, hh => by
    have h1 := spL_len (c := c) (hh h (.head _))
    have h2 := faceL_len c r fun x hx => hh x (.tail _ hx)
    rw [faceL]
    split
    · rw [List.length_cons]; (first | lia | omega)
    · have e : ∀ k : Nat, ((List.replicate k [97, 109, 112, 59]).flatten : List Nat).length = 4 * k := by
        intro k
        induction k with
        | zero => rfl
        | succ k ih => rw [List.replicate_succ, List.flatten_cons, List.length_append, ih]; simp; (first | lia | omega)
      simp only [List.length_append, List.length_cons, List.length_nil, e, List.length_tail]
      (first | lia | omega)
theorem pos_int {n times i : Nat} (h : 1 ≤ 2 ^ times * i % (n + 1)) : ((2 : Int) ^ ((times : Int)).toNat * ((i : Nat) : Int)).fmod ((n : Int) + 1) - 1 = ((2 ^ times * i % (n + 1) - 1 : Nat) : Int) := by
  rw [Int.toNat_natCast, Int.fmod_eq_emod_of_nonneg _ (by (first | lia | omega))]
  have e : ((2 : Int) ^ times * (i : Int)) % ((n : Int) + 1) = ((2 ^ times * i % (n + 1) : Nat) : Int) := by simp
  rw [e]
  (first | lia | omega)
inductive Told8 (h₀ : Heap) (L : Addr) (lc : Addr) (TL : Addr) (NL : Addr) (I : Addr) (lt : Tok) (ab : Int) (t4 : Tok) (wd : Option Value) (nb : Option Value) (i : Nat) (times : Nat) (ti : Tok) (o : Obj) (oG : Obj) (oN : Obj) (oS : Obj) (oF : Obj) (oT : Obj) (vn : List Value) (cards : List (List Nat)) (H : Nat) (card : List Nat) (hs : List Nat) (tc : Tok) (told : List (List Nat)) (s s' : Shared) : Prop
  | mk : ∀ h' tk ws2 c2, s' = { s with heap := h', toks := tk } → Fr h₀ L h' (TF lc TL lt ab t4 (some (.str (sx card) tc)) (some (.ref H)) wd nb (some (.int ((i + 1 : Nat) : Int) ti))) → News h₀ L h' [(I, o), (TL, listOf (List.toArray ws2) c2), (NL, listOf vn.toArray 1), (L + 1 + 1 + 1 + 1 + 1, oG), (L + 1 + 1 + 1 + 1, oN), (L + 1 + 1 + 1, oS), (L + 1 + 1, oF), (L + 1, oT)] → StrsAre ws2 ((told.set (2 ^ times * (i + 1) % (cards.length + 1) - 1) (tellL card hs)).map sx) → Told8 h₀ L lc TL NL I lt ab t4 wd nb i times ti o oG oN oS oF oT vn cards H card hs tc told s s'
theorem told_8 {w : World} {h₀ : Heap} {s : Shared} {L : Addr} {dp : Nat} {fr : Option (List Env)} {gd : Option (List Code)} {un : Nat} {lc : Addr} {TL : Addr} {NL : Addr} {I : Addr} {lt : Tok} {ab : Int} {t4 : Tok} {wd : Option Value} {nb : Option Value} {i : Nat} {times : Nat} {c : Nat} {ti : Tok} {t1 : Tok} {o : Obj} {oG : Obj} {oN : Obj} {oS : Obj} {oF : Obj} {oT : Obj} {vc : List Value} {vn : List Value} {ws : List Value} {cards : List (List Nat)} (G : Gd w h₀) (hA : AOk (Around.deeper ⟨none, dp, fr, gd, un⟩ (envOfC (PySem.Str.ofString "_law_told") toldScope L 151 (.ref 150))) 10) {W H D cf cw ch : Nat} {wv fv hv : List Value} {card hs : List Nat} {tc : Tok} (hc : h₀.IsList lc vc.toArray) (hcs : StrsAre vc (cards.map sx)) (hln : cards.length = 2 ∨ cards.length = 4 ∨ cards.length = 6 ∨ cards.length = 8) (hi : i < cards.length) (hcd : 3 ≤ card.length ∧ card.length ≤ 5) (hhs : ∀ x ∈ hs, x < 5) (hhl : hs.length ≤ 10) (hhv : IntsAre hv (hs.map Int.ofNat)) (dT : oT.data = .cell (some (.int times t1))) (hti : times ≤ 10) {told : List (List Nat)} (hws : StrsAre ws (told.map sx)) (hwl : told.length = cards.length) (nH : TL ≠ H) (nD : TL ≠ D) (nW : TL < W) (l0 : TL < I) (l1 : NL < TL) (l2 : L + 1 + 1 + 1 + 1 + 1 < NL)
    (F : Fr h₀ L s.heap (TF lc TL lt ab t4 (some (.str (sx card) tc)) (some (.ref H)) wd nb (some (.int ((i + 1 : Nat) : Int) ti)))) (N : News h₀ L s.heap [(H, listOf (List.toArray hv) ch), (D, listOf (List.toArray fv) cf), (W, listOf (List.toArray wv) cw), (I, o), (TL, listOf ws.toArray c), (NL, listOf vn.toArray 1), (L + 1 + 1 + 1 + 1 + 1, oG), (L + 1 + 1 + 1 + 1, oN), (L + 1 + 1 + 1, oS), (L + 1 + 1, oF), (L + 1, oT)]) :
    wpAny (model PG w) (Around.deeper ⟨none, dp, fr, gd, un⟩ (envOfC (PySem.Str.ofString "_law_told") toldScope L 151 (.ref 150))) (exec (nthS toldTurn 8) (envOfC (PySem.Str.ofString "_law_told") toldScope L 151 (.ref 150)))
      (Mid (Told8 h₀ L lc TL NL I lt ab t4 wd nb i times ti o oG oN oS oF oT vn cards H card hs tc told s)) NoE s := by
  have G' := G
  refine hideG fun g9 hg9 => ?_
  obtain ⟨X, p, loose, mean, mg, mb, T⟩ := G
  refine hg9 ?_
  clear hg9 g9
  have eS : toldScope = toldScope := rfl
  conv at eS => rhs; whnf
  have eT : nthS toldTurn 8 = nthS toldTurn 8 := rfl
  conv at eT => rhs; whnf
  rw [eS, eT]
  (try rw [eS] at hA)
  clear eS eT
  delta TF at F
  refine hold fun R9 hR9 => ?_
  iterate 10 walk1
  refine KXi.item (sx_len card) (by (first | lia | omega)) (by (first | lia | omega)) (by (first | lia | omega)) (fun _ => ?_)
  rw [sx_item_first (by (first | lia | omega))]
  dsimp only
  repeat walk1
  refine face_ok (by exact G'.keeps F.keep) (AOk.le hA (by decide)) hhs hhl (Nat.succ_pos _) (by exact ⟨_, (N (H, _) (.head _)).1, rfl, _, rfl⟩) hhv ?_
  intro h1 tk1 u1 ht1 g1
  have F1 := Fr.grow F g1
  have N1 := News.grow N g1
  clear F N
  have q1 : (sx (faceL (card.getD 0 0) hs)).length ≤ 100 := by rw [sx_len]; have := faceL_len (card.getD 0 0) hs hhs; (first | lia | omega)
  have q3 : (sx card).length ≤ 5 := by rw [sx_len]; (first | lia | omega)
  have em : Txt.slice (sx card) (some 1) (some (-1)) = sx (midL card) := slice_mid_sx card (by (first | lia | omega))
  have q2 : (Txt.slice (sx card) (some 1) (some (-1))).length ≤ 5 := by
    rw [em, sx_len]; unfold midL; have := List.length_take_le (card.length - 2) (card.drop 1); (first | lia | omega)
  iterate 21 walk1
  refine KXi.item (sx_len card) (by (first | lia | omega)) (by (first | lia | omega)) (by (first | lia | omega)) (fun _ => ?_)
  rw [sx_item_last (by (first | lia | omega))]
  dsimp only
  repeat walk1
  (with_reducible rename Fr _ _ _ _ => F2)
  (with_reducible rename News _ _ _ _ => N2)
  refine face_ok (by exact G'.keeps F2.keep) (AOk.le hA (by decide)) hhs hhl (Nat.succ_pos _) (by exact ⟨_, (N2 (H, _) (.head _)).1, rfl, _, rfl⟩) hhv ?_
  intro h2 tk2 u2 ht2 g2
  have F3 := Fr.grow F2 g2
  have N3 := News.grow N2 g2
  clear F2 N2
  have q4 : (sx (faceL (card.getD (card.length - 1) 0) hs)).length ≤ 100 := by rw [sx_len]; have := faceL_len (card.getD (card.length - 1) 0) hs hhs; (first | lia | omega)
  repeat walk1
  refine len_sx (by exact hc.at fun o e => F3.keep _ o e) hcs (by (first | lia | omega)) ?_
  iterate 5 walk1
  refine hideG fun g9 hg9 => ?_
  obtain ⟨p1, p2⟩ := pos_ok (n := cards.length) (times := times) (i := i + 1) hln (by (first | lia | omega)) (by (first | lia | omega)) hti
  refine hg9 ?_
  clear hg9 g9
  rw [pos_int p1]
  have ev : sx (faceL (card.getD 0 0) hs) ++ Txt.slice (sx card) (some 1) (some (-1)) ++ sx (faceL (card.getD (card.length - 1) 0) hs) = sx (tellL card hs) := by
    rw [em, sx_app, sx_app]; rfl
  rw [ev]
  have hwsl := hws.length
  rw [List.length_map] at hwsl
  have l1' : @LT.lt Nat _ NL TL := l1
  have l2' : @LT.lt Nat _ (L + 1 + 1 + 1 + 1 + 1) NL := l2
  refine set_K F3 N3 (.tail (Ne.symm nH) (.tail (Ne.symm nD) (.tail (Nat.ne_of_gt nW) (.tail (Nat.ne_of_gt l0) (.head ?_))))) (by (first | lia | omega)) (by (first | lia | omega)) ?_
  · intro q hq
    simp only [List.mem_cons, List.not_mem_nil, or_false] at hq
    rcases hq with rfl | rfl | rfl | rfl | rfl | rfl
    · exact Nat.ne_of_lt l1
    all_goals exact Nat.ne_of_lt (by dsimp only; (first | lia | omega))
  intro h5 F5 N5
  exact hR9 _ _ ⟨rfl, _, _, _, _, rfl, F5, fun q hq => N5 q (.tail _ (.tail _ (.tail _ hq))), by
    rw [List.map_set]
    exact strsAre_set hws (2 ^ times * (i + 1) % (cards.length + 1) - 1)⟩
end Mine

end

theorem Mine.reset_M28 : True ∧ True := by
  w_top off
  walk1 <;> trivial
section
open PySem PySem.W PyProof.Rows PySem.Calls
set_option Elab.async false
set_option maxRecDepth 100000
set_option maxHeartbeats 4000000
namespace Mine

theorem name_hex {j : Nat} (hj : j < 22) : (PySem.Str.ofString "0x" ++ Txt.item (PySem.Str.ofString "1248") (((10 : Int) + (j : Int)).fmod 4)).length + (Txt.mul (PySem.Str.ofString "0") (((10 : Int) + (j : Int)).fdiv 4)).length ≤ 100 ∧
    PySem.Str.ofString "0x" ++ Txt.item (PySem.Str.ofString "1248") (((10 : Int) + (j : Int)).fmod 4) ++ Txt.mul (PySem.Str.ofString "0") (((10 : Int) + (j : Int)).fdiv 4) = sx (nmL (10 + j)) := by
  have key : ∀ j : _root_.Fin 22, (PySem.Str.ofString "0x" ++ Txt.item (PySem.Str.ofString "1248") (((10 : Int) + (j.val : Int)).fmod 4)).length + (Txt.mul (PySem.Str.ofString "0") (((10 : Int) + (j.val : Int)).fdiv 4)).length ≤ 100 ∧
    PySem.Str.ofString "0x" ++ Txt.item (PySem.Str.ofString "1248") (((10 : Int) + (j.val : Int)).fmod 4) ++ Txt.mul (PySem.Str.ofString "0") (((10 : Int) + (j.val : Int)).fdiv 4) = sx (nmL (10 + j.val)) := by decide +kernel
  exact key ⟨j, hj⟩
theorem name_hexZ {j : Nat} {z : Int} (hj : j < 22) (hz : (10 : Int) + (j : Int) = z) : (PySem.Str.ofString "0x" ++ Txt.item (PySem.Str.ofString "1248") (z.fmod 4)).length + (Txt.mul (PySem.Str.ofString "0") (z.fdiv 4)).length ≤ 100 ∧
    PySem.Str.ofString "0x" ++ Txt.item (PySem.Str.ofString "1248") (z.fmod 4) ++ Txt.mul (PySem.Str.ofString "0") (z.fdiv 4) = sx (nmL (10 + j)) := by
  subst hz; exact name_hex hj
theorem last_neg {a : Int} (ha : a.natAbs ≤ 15) (h0 : a < 0) : PySem.Str.ofString "-0x" ++ Txt.item (PySem.Str.ofString "123456789abcdef") ((if a < 0 then -a else a) - 1) ++ PySem.Str.ofString "00000000" = sx (lastL a) := by
  have key : ∀ j : _root_.Fin 15, PySem.Str.ofString "-0x" ++ Txt.item (PySem.Str.ofString "123456789abcdef") ((if (-(j.val : Int) - 1) < 0 then -(-(j.val : Int) - 1) else (-(j.val : Int) - 1)) - 1) ++ PySem.Str.ofString "00000000" = sx (lastL (-(j.val : Int) - 1)) := by decide +kernel
  have := key ⟨a.natAbs - 1, by (first | lia | omega)⟩
  have e : -((a.natAbs - 1 : Nat) : Int) - 1 = a := by (first | lia | omega)
  dsimp only at this
  rw [e] at this
  exact this
theorem last_pos {a : Int} (ha : a.natAbs ≤ 15) (h0 : ¬ a < 0) (h1 : a ≠ 0) : PySem.Str.ofString "0x" ++ Txt.item (PySem.Str.ofString "123456789abcdef") ((if a < 0 then -a else a) - 1) ++ PySem.Str.ofString "00000000" = sx (lastL a) := by
  have key : ∀ j : _root_.Fin 15, PySem.Str.ofString "0x" ++ Txt.item (PySem.Str.ofString "123456789abcdef") ((if ((j.val : Int) + 1) < 0 then -((j.val : Int) + 1) else ((j.val : Int) + 1)) - 1) ++ PySem.Str.ofString "00000000" = sx (lastL ((j.val : Int) + 1)) := by decide +kernel
  have := key ⟨a.natAbs - 1, by (first | lia | omega)⟩
  have e : ((a.natAbs - 1 : Nat) : Int) + 1 = a := by (first | lia | omega)
  dsimp only at this
  rw [e] at this
  exact this
theorem names_ten : ((List.range 10).map fun k => sx (nmL k)) = [PySem.Str.ofString "OPTIMIZED", PySem.Str.ofString "NEWLOCALS", PySem.Str.ofString "VARARGS", PySem.Str.ofString "VARKEYWORDS", PySem.Str.ofString "NESTED", PySem.Str.ofString "GENERATOR", PySem.Str.ofString "NOFREE", PySem.Str.ofString "COROUTINE", PySem.Str.ofString "ITERABLE_COROUTINE", PySem.Str.ofString "ASYNC_GENERATOR"] := by decide +kernel
inductive ToldInv (L lc TL NL : Addr) (lt : Tok) (above : Int) (t4 : Tok) (oN2 oS oF oT : Obj) (vn : List Value) (cards : List (List Nat)) (times first : Nat) (i : Nat) (m : PySem.Str → Option Value) (news : List (Addr × Obj)) : Prop
  | mk (cd hn wd nb iv : Option Value) (em : m = fun y => if y = PySem.Str.ofString "card" then cd else if y = PySem.Str.ofString "hands" then hn else if y = PySem.Str.ofString "words" then wd else if y = PySem.Str.ofString "number" then nb else if y = PySem.Str.ofString "i" then iv else if y = PySem.Str.ofString "told" then some (.ref TL) else if y = PySem.Str.ofString "last" then some (.str (sx (lastL above)) lt) else if y = PySem.Str.ofString "above" then some (.int above t4) else if y = PySem.Str.ofString "cards" then some (.ref lc) else none)
    (ws : List Value) (c : Nat) (oG : Obj) (g : Option Value) (en : news = [(TL, listOf (List.toArray ws) c), (NL, listOf vn.toArray 1), (L + 1 + 1 + 1 + 1 + 1, oG), (L + 1 + 1 + 1 + 1, oN2), (L + 1 + 1 + 1, oS), (L + 1 + 1, oF), (L + 1, oT)]) (hg : oG.data = .cell g) (hS : StrsAre ws ((toldTo cards times first i).map sx)) :
    ToldInv L lc TL NL lt above t4 oN2 oS oF oT vn cards times first i m news
theorem told_ok {w : World} {A : Around} {s : Shared} {Q : Value → Shared → Prop} {E : Value → Shared → Prop} (G : Gd w s.heap) (hA : AOk A 12) {lc : Addr} {vc : List Value} {cards : List (List Nat)} {times first shift : Nat} {above : Int} {t1 t2 t3 t4 : Tok}
    (hc : s.heap.IsList lc vc.toArray) (hcs : StrsAre vc (cards.map sx)) (hln : cards.length = 2 ∨ cards.length = 4 ∨ cards.length = 6 ∨ cards.length = 8)
    (hcl : ∀ c ∈ cards, 3 ≤ c.length ∧ c.length ≤ 5) (hti : 1 ≤ times ∧ times ≤ 10) (hfi : first < 5) (hsh : shift ≤ 22) (hab : above.natAbs ≤ 15) (ht : 0 < s.toks)
    (h : ∀ h' tk x ws n, s.toks ≤ tk → s.heap.get? x = none → h'.get? x = some (listOf (List.toArray ws) n) → StrsAre ws ((toldTo cards times first cards.length).map sx) → Grow s.heap h' → Q (.ref x) { s with heap := h', toks := tk }) :
   wpAny (model PG w) A (call (.ref 151) [.ref lc, .int times t1, .int first t2, .int shift t3, .int above t4]) Q E s := by
  have G' := G
  refine hideG fun g9 hg9 => ?_
  obtain ⟨X, p, loose, mean, mg, mb, T⟩ := G
  refine hg9 ?_
  clear hg9 g9
  refine hideG fun g9 hg9 => ?_
  obtain ⟨hh, dp, fr, gd, un⟩ := A
  refine hg9 ?_
  clear hg9 g9
  refine hideG fun g9 hg9 => ?_
  obtain rfl : hh = none := hA.hand
  refine hg9 ?_
  clear hg9 g9
  refine wpAny_with_toks (Nat.le_refl s.toks) ?_
  refine wpAny_call ?_
  refine' enterKC (h₀ := s.heap) (fun _ _ e => e) (Nat.le_refl _) (news := []) (fun _ hp => nomatch hp) X T.nolimit ?ho ?hcd hA.room ?hbind ?hkind ?hnd ?_ ?c1 ?c2 ?c3
  ((case ho => k_is); (case hcd => k_is); (case hbind => exact BindsTo.of_eq rfl); (case hkind => exact rfl); (case hnd => decide +kernel); (case c1 => exact rfl); (case c2 => exact rfl); (case c3 => exact rfl))
  intro L h₁ tk0 cells htk F N Y hlt hL hLt hk
  k_cells Y
  simp only [List.cons_append, List.nil_append] at N
  dsimp only
  have F0 : Fr s.heap L h₁ (fun y => if y = PySem.Str.ofString "above" then some (.int above t4) else if y = PySem.Str.ofString "cards" then some (.ref lc) else none) := Fr.cong F (fun y => by rfl)
  clear F
  rename_i oG oN oS oF oT dG dN dS dF dT
  replace dG : oG.data = .cell none := dG
  replace dN : oN.data = .cell none := dN
  replace dS : oS.data = .cell (some (.int shift t3)) := dS
  replace dF : oF.data = .cell (some (.int first t2)) := dF
  replace dT : oT.data = .cell (some (.int times t1)) := dT
  have hcl0 := hcs.length
  rw [List.length_map] at hcl0
  iterate 34 walk1
  (with_reducible rename Fr _ _ _ _ => F1)
  (with_reducible rename News _ _ _ _ => N1)
  rename_i NL _ _ _ oN2 dN2
  obtain ⟨vs0, N1, hS10⟩ : ∃ vs0 : List Value, News s.heap L _ [(NL, listOf vs0.toArray 0), (L + 1 + 1 + 1 + 1 + 1, oG), (L + 1 + 1 + 1 + 1, oN2), (L + 1 + 1 + 1, oS), (L + 1 + 1, oF), (L + 1, oT)] ∧ StrsAre vs0 ((List.range 10).map fun k => sx (nmL k)) := ⟨_, N1, by
    rw [names_ten]; exact .cons _ _ (.cons _ _ (.cons _ _ (.cons _ _ (.cons _ _ (.cons _ _ (.cons _ _ (.cons _ _ (.cons _ _ (.cons _ _ .nil)))))))))⟩
  refine LCg.ListComp_U F1 (by rfl) (by decide) (by rfl) (by decide) (by rfl) ?_
  iterate 9 walk1
  rename_i hR F2 N2 hk2
  refine LCg.CompSrc.range rfl F2 N2 hR (n := 22) (by decide) (by decide) (by rw [sizeLine_eq]; decide) ?_
  intro g
  refine comp_inv (fun j ys news => news = _ ∧ StrsAre ys ((List.range j).map fun k => sx (nmL (10 + k)))) ⟨rfl, .nil⟩ ?_ ?_
  · intro j ys news v I oI C oC D m₂ h7 tk7 E' hj z91 z92 hoC hm₂ F7 N7 off ne
    refine hideG fun g9 hg9 => ?_
    obtain ⟨t, rfl⟩ := z91
    obtain ⟨rfl, hys⟩ := z92
    refine hg9 ?_
    clear hg9 g9
    generalize hz : (10 : Int) + (j : Int) = z at *
    have hz0 : 10 ≤ z := by (first | lia | omega)
    have hz1 : z < 32 := by (first | lia | omega)
    have hv := name_hexZ hj hz
    have q1 : (Txt.mul (PySem.Str.ofString "0") (z.fdiv 4)).length ≤ 100 := by (first | lia | omega)
    clear N1 F2 N2 hR hk2
    refine hold fun R2 hR2 => ?_
    repeat ((fail_if_success (with_reducible refine hR2 _ _ ?_)); walk1)
    refine hR2 _ _ (LCg.CompEnd.intro (by assumption) (by assumption) _ (fun _ h => h) off trivial ⟨rfl, ?_⟩)
    rw [hv.2, List.range_succ, List.map_append]
    exact strsAre_snoc hys
  · intro ys news z93
    refine hideG fun g9 hg9 => ?_
    obtain ⟨rfl, hys⟩ := z93
    refine hg9 ?_
    clear hg9 g9
    intro D h8 tk8 F8 N8 off8
    clear N1 F2 N2 hR hk2
    have hl0 := hS10.length
    have hly := hys.length
    rw [List.length_map, List.length_range] at hl0 hly
    have nD8 : @Ne Nat NL D := off8.1
    clear off8
    walk1
    have hsz : ¬(!vs0.toArray.isEmpty && Builtin.List.listTooLong (vs0.toArray.size + ys.toArray.size)) = true := by
      rw [List.size_toArray, List.size_toArray, hl0, hly]
      have : Builtin.List.listTooLong (10 + 22) = false := by decide +kernel
      rw [this, Bool.and_false]; decide
    refine' kl_extend (l := vs0 ++ ys) (its := vs0.toArray) (its2 := ys.toArray) (n := 0) (n2 := ys.length) F8 N8 ?b ?e ?ne ?U hsz ?z ?y ?_
    (case b => exact .head _)
    (case e => simp)
    (case ne => show ys.toArray.toList.length ≠ 0; simp [hly])
    (case U => k_upd)
    (case z => simp [hl0]; rw [sizeLine_eq]; decide)
    (case y => rw [List.size_toArray, List.size_toArray, hl0, hly, sizeLine_eq]; decide)
    intro h9 F9 N9
    have hSn : StrsAre (vs0 ++ ys) ((List.range 32).map fun k => sx (nmL k)) := by
      have e : ((List.range 32).map fun k => sx (nmL k)) = (List.range 10).map (fun k => sx (nmL k)) ++ (List.range 22).map (fun k => sx (nmL (10 + k))) := by
        rw [show List.range 32 = List.range 10 ++ (List.range 22).map (10 + ·) by decide, List.map_append, List.map_map]; rfl
      rw [e]
      exact strsAre_append hS10 hys
    clear F8 N8 hS10 hys hsz
    dsimp only
    refine mid_cons (fun s' => ∃ h' tk t, s' = { s with heap := h', toks := tk } ∧ Fr s.heap L h' (fun y => if y = PySem.Str.ofString "last" then some (.str (sx (lastL above)) t) else if y = PySem.Str.ofString "above" then some (.int above t4) else if y = PySem.Str.ofString "cards" then some (.ref lc) else none) ∧
        News s.heap L h' [(NL, listOf (vs0 ++ ys).toArray 1), (L + 1 + 1 + 1 + 1 + 1, oG), (L + 1 + 1 + 1 + 1, oN2), (L + 1 + 1 + 1, oS), (L + 1 + 1, oF), (L + 1, oT)]) ?_ ?_
    · refine hold fun R3 hR3 => ?_
      repeat' ((fail_if_success (with_reducible refine hR3 _ _ ?_)); walk1)
      · (with_reducible rename Fr _ _ _ _ => F11)
        (with_reducible rename News _ _ _ _ => N11)
        have h0 : above = 0 := by assumption
        have e : PySem.Str.ofString "0x0" = sx (lastL above) := by subst h0; decide +kernel
        rw [e] at F11
        exact hR3 _ _ ⟨rfl, _, _, _, rfl, F11, fun p hp => N11 p (.tail _ hp)⟩
      · (with_reducible rename Fr _ _ _ _ => F11)
        (with_reducible rename News _ _ _ _ => N11)
        have h0 : above < 0 := by assumption
        rw [last_neg hab h0] at F11
        exact hR3 _ _ ⟨rfl, _, _, _, rfl, F11, fun p hp => N11 p (.tail _ hp)⟩
      · (with_reducible rename Fr _ _ _ _ => F11)
        (with_reducible rename News _ _ _ _ => N11)
        have h0 : ¬ above < 0 := by assumption
        have h1 : above ≠ 0 := by assumption
        rw [last_pos hab h0 h1] at F11
        exact hR3 _ _ ⟨rfl, _, _, _, rfl, F11, fun p hp => N11 p (.tail _ hp)⟩
    intro s' z94
    refine hideG fun g9 hg9 => ?_
    obtain ⟨h10, tk10, lt, rfl, F10, N10⟩ := z94
    refine hg9 ?_
    clear hg9 g9
    clear F9 N9
    generalize hvn : vs0 ++ ys = vn at *
    repeat ((fail_if_success (with_reducible show wpAny _ _ (exec (Stmt.For _ _ _ _ _) _) _ _ _)); walk1)
    rename_i TL tc _ _ lTL F11 N11
    refine for_raw ?_
    repeat walk1
    refine len_sx (hc.at fun o e => F11.keep _ o e) hcs (by (first | lia | omega)) ?_
    repeat ((fail_if_success (with_reducible show _ → _)); walk1)
    intro hts
    rename_i hR F12 N12 hk12
    have hrs := range_small (a := 1) (n := cards.length) (by (first | lia | omega)) (by (first | lia | omega))
    rw [Int.add_comm (1 : Int)] at hrs
    refine loop_range (n := cards.length) (ToldInv L lc TL NL lt above t4 oN2 oS oF oT vn cards times first)
      rfl rfl rfl hR hrs.1 hrs.2 F12 N12 ⟨none, none, none, none, none, ?_, _, _, _, _, rfl, dG, hcs⟩ ?_ ?_ ?_
    · funext y
      by_cases q1 : y = PySem.Str.ofString "card"
      · subst q1; rfl
      by_cases q2 : y = PySem.Str.ofString "hands"
      · subst q2; rfl
      by_cases q3 : y = PySem.Str.ofString "words"
      · subst q3; rfl
      by_cases q4 : y = PySem.Str.ofString "number"
      · subst q4; rfl
      by_cases q5 : y = PySem.Str.ofString "i"
      · subst q5; rfl
      rw [if_neg q1, if_neg q2, if_neg q3, if_neg q4, if_neg q5]
    · intro i m₁ news₁ z95 p hp
      refine hideG fun g9 hg9 => ?_
      obtain ⟨-, -, -, -, -, -, ws, c, oG, g, rfl, -⟩ := z95
      refine hg9 ?_
      clear hg9 g9
      simp only [List.mem_cons, List.not_mem_nil, or_false] at hp
      rcases hp with rfl | rfl | rfl | rfl | rfl | rfl | rfl <;> simp
    · intro i m₁ news₁ h13 tk13 I o ti hi2 z96 htk13 hLI hnI F13 N13
      refine hideG fun g9 hg9 => ?_
      obtain ⟨cd, hn, wd, nb, iv, rfl, ws, c, oG', gG, rfl, hgG, hS⟩ := z96
      refine hg9 ?_
      clear hg9 g9
      change Fr s.heap L h13 _ at F13
      change News s.heap L h13 _ at N13
      clear N12 F12 hk12 hR hrs
      have ei : (1 : Int) + (i : Int) = ((i + 1 : Nat) : Int) := by (first | lia | omega)
      rw [ei] at F13
      replace F13 : Fr s.heap L h13 (TF lc TL lt above t4 cd hn wd nb (some (.int ((i + 1 : Nat) : Int) ti))) := (TF_i ..) ▸ F13
      show wpAny (model PG w) (Around.deeper ⟨none, dp, fr, gd, un⟩ (envOfC (PySem.Str.ofString "_law_told") toldScope L 151 (.ref 150))) (execs [nthS toldTurn 0, nthS toldTurn 1, nthS toldTurn 2, nthS toldTurn 3, nthS toldTurn 4, nthS toldTurn 5, nthS toldTurn 6, nthS toldTurn 7, nthS toldTurn 8] (envOfC (PySem.Str.ofString "_law_told") toldScope L 151 (.ref 150))) _ _ _
      have l0 : TL < I := hnI _ (.head _)
      have l1 : NL < I := hnI _ (.tail _ (.head _))
      have l2 : L + 1 + 1 + 1 + 1 + 1 < I := hnI _ (.tail _ (.tail _ (.head _)))
      have l3 : @LT.lt Nat _ NL TL := by (first | lia | omega)
      have l4 : @LT.lt Nat _ (L + 1 + 1 + 1 + 1 + 1) TL := by (first | lia | omega)
      have l5 : @LT.lt Nat _ (L + 1 + 1 + 1 + 1 + 1) NL := by (first | lia | omega)
      have hn8 : cards.length ≤ 8 := by (first | lia | omega)
      have hA' : AOk (Around.deeper ⟨none, dp, fr, gd, un⟩ (envOfC (PySem.Str.ofString "_law_told") toldScope L 151 (.ref 150))) 10 := AOk.le hA.deeper (by decide)
      have hqM := numL_lt (n := cards.length) (times := times) (shift := shift) (i := i + 1) (by (first | lia | omega)) hti.2 hsh
      have hcardl := hcl _ (List.getElem_mem hi2)
      refine hold fun R1 hR1 => ?_
      refine mid_cons _ (told_0 G' hc hcs hn8 hti.2 hsh hi2 F13 N13 dT dS) ?_
      intro s1 z97
      refine hideG fun g9 hg9 => ?_
      obtain ⟨h14, tk14, tn, rfl, F14, N14⟩ := z97
      refine hg9 ?_
      clear hg9 g9
      clear F13 N13
      refine mid_cons _ (told_1 G' (AOk.le hA' (by decide)) hqM hab F14 N14) ?_
      intro s2 z98
      refine hideG fun g9 hg9 => ?_
      obtain ⟨h15, tk15, W, wv, cw, rfl, F15, N15, hw15, hW15⟩ := z98
      refine hg9 ?_
      clear hg9 g9
      clear F14 N14
      refine mid_cons _ (told_2 G' hw15 hW15 F15 N15) ?_
      intro s3 z99
      refine hideG fun g9 hg9 => ?_
      obtain ⟨h16, tk16, W, wv, cw, rfl, F16, N16, hw16, hW16⟩ := z99
      refine hg9 ?_
      clear hg9 g9
      clear F15 N15 hw15 hW15
      refine mid_cons _ (told_3 G' hA' dN2 hSn hw16 hW16 F16 N16) ?_
      intro s4 z910
      refine hideG fun g9 hg9 => ?_
      obtain ⟨h17, tk17, rfl, F17, N17⟩ := z910
      refine hg9 ?_
      clear hg9 g9
      clear F16 N16
      refine mid_cons _ (told_4 G' dN2 hgG hSn hw16 hW16 l2 l4 l5 F17 N17) ?_
      intro s5 z911
      refine hideG fun g9 hg9 => ?_
      obtain ⟨h18, tk18, D2, fv, cf, oG2, rfl, F18, N18, hG2, hfv, nD⟩ := z911
      refine hg9 ?_
      clear hg9 g9
      clear F17 N17
      refine mid_cons _ (told_5 G' hA' hqM hG2 hfv F18 N18) ?_
      intro s6 z912
      refine hideG fun g9 hg9 => ?_
      obtain ⟨h19, tk19, rfl, F19, N19⟩ := z912
      refine hg9 ?_
      clear hg9 g9
      clear F18 N18
      refine mid_cons _ (told_6 G' hti hfi hsh dT dF dS hG2 hfv F19 N19) ?_
      intro s7 z913
      refine hideG fun g9 hg9 => ?_
      obtain ⟨h20, tk20, H, hv, ch, rfl, F20, N20, hhv, nH⟩ := z913
      refine hg9 ?_
      clear hg9 g9
      clear F19 N19
      refine mid_cons _ (told_7 G' hc hcs hn8 hi2 F20 N20) ?_
      intro s8 z914
      refine hideG fun g9 hg9 => ?_
      obtain ⟨h21, tk21, tc2, rfl, F21, N21⟩ := z914
      refine hg9 ?_
      clear hg9 g9
      clear F20 N20
      have hhl := handsL_len times first (quoL cards.length times (i + 1))
      refine mid_cons _ (told_8 G' hA' hc hcs hln hi2 hcardl (fun x hx => handsL_lt hx) (Nat.le_trans hhl hti.2) hhv dT hti.2 hS (toldTo_len ..) nH nD (hW16 (TL, listOf ws.toArray c) (.tail _ (.head _))) l0 l3 l5 F21 N21) ?_
      intro s9 z915
      refine hideG fun g9 hg9 => ?_
      obtain ⟨h22, tk22, ws2, c2, rfl, F22, N22, hws2⟩ := z915
      refine hg9 ?_
      clear hg9 g9
      clear F21 N21
      refine wpAny_execs_nil ?_
      refine hR1 _ _ (LPost.nxt (TurnEnd.mk (news₂ := _) F22 N22 (.head _) (fun p hp => .tail _ hp) ⟨_, _, _, _, _, rfl, ws2, c2, oG2, _, rfl, hG2, ?_⟩))
      rw [toldTo_succ, List.getD_eq_getElem?_getD, List.getElem?_eq_getElem hi2]
      exact hws2
    · intro m₁ news₁ h3 tk3 z916 htk3 F3 N3
      refine hideG fun g9 hg9 => ?_
      obtain ⟨cd, hn, wd, nb, iv, rfl, ws, c, oG', gG, rfl, hgG, hS⟩ := z916
      refine hg9 ?_
      clear hg9 g9
      change Fr s.heap L h3 _ at F3
      change News s.heap L h3 _ at N3
      clear N12 F12 hk12 hR hrs
      refine wpAny_execs_nil ?_
      dsimp only
      repeat walk1
      rename_i ht9
      exact h _ _ _ ws c ht9 (N3 (TL, _) (.head _)).2.2 (N3 (TL, _) (.head _)).1 hS ⟨Nat.le_of_lt (hL ▸ F3.ns.lt), F3.keep⟩
end Mine

end

theorem Mine.reset_M23 : True ∧ True := by
  w_top off
  walk1 <;> trivial
section
open PySem PySem.W PyProof.Rows PySem.Calls
set_option Elab.async false
set_option maxRecDepth 100000
set_option maxHeartbeats 1000000
namespace Mine

theorem heaps_ok {w : World} {A : Around} {s : Shared} {Q : Value → Shared → Prop} {E : Value → Shared → Prop} (G : Gd w s.heap) (hA : AOk A 4) {l : Addr} {vs : List Value} {ns : List Int} (hl : s.heap.IsList l vs.toArray) (hi : IntsAre vs ns) (hln : ns.length ≤ 63)
    (h : ∀ h' tk x ws n hs, s.toks ≤ tk → s.heap.get? x = none → h'.get? x = some (listOf (List.toArray ws) n) → IntsAre ws hs → hs.length = 5 → (∀ y ∈ hs, 0 ≤ y ∧ y ≤ 100000000) → Grow s.heap h' → Q (.ref x) { s with heap := h', toks := tk }) :
   wpAny (model PG w) A (call (.ref 113) [.ref l]) Q E s := by
  have G' := G
  refine hideG fun g9 hg9 => ?_
  obtain ⟨X, p, loose, mean, mg, mb, T⟩ := G
  refine hg9 ?_
  clear hg9 g9
  refine hideG fun g9 hg9 => ?_
  obtain ⟨ha, dp, fr, gd, un⟩ := A
  refine hg9 ?_
  clear hg9 g9
  refine hideG fun g9 hg9 => ?_
  obtain rfl : ha = none := hA.hand
  refine hg9 ?_
  clear hg9 g9
  refine wpAny_with_toks (Nat.le_refl s.toks) ?_
  refine wpAny_call ?_
  refine' enterK (fun _ _ e => e) (Nat.le_refl _) (news := []) (fun _ hp => nomatch hp) X T.nolimit ?ho ?hcd hA.room ?hbind ?hloc ?_ ?c1 ?c2 ?c3 ?c4
  ((case ho => k_is); (case hcd => k_is); (case hbind => exact BindsTo.of_eq rfl); (case hloc => exact locs rfl); (case c1 => exact rfl); (case c2 => exact rfl); (case c3 => exact rfl); (case c4 => decide))
  intro L h₁ tk0 htk F N hL hLt hk
  have F0 := Fr.cong (m' := fun y => if y = PySem.Str.ofString "script" then some (.ref l) else none) F (fun y => by
    show List.lookup y [(PySem.Str.ofString "script", _)] = _
    rw [lk1])
  clear F
  have hnl := hi.length
  repeat ((fail_if_success (with_reducible show wpAny _ _ (exec (Stmt.For _ _ _ _ _) _) _ _ _)); walk1)
  rename_i hl0 h2' _ _ F2 N2
  refine for_raw ?_
  iterate 13 walk1
  intro hts
  rename_i hR F1 N1 hk1
  have hrs := range_small0 (n := ns.length) (by (first | lia | omega))
  refine loop_range (n := ns.length) (fun i m news => (∃ kv, m = fun y => if y = PySem.Str.ofString "k" then kv else if y = PySem.Str.ofString "heaps" then some (.ref hl0) else if y = PySem.Str.ofString "script" then some (.ref l) else none) ∧
      ∃ ws n hs, news = [(hl0, listOf (List.toArray ws) n)] ∧ IntsAre ws hs ∧ hs.length = 5 ∧ ∀ y ∈ hs, 0 ≤ y ∧ y ≤ 10000 + (i : Int) * 1000000)
    rfl rfl rfl hR hrs.1 hrs.2 F1 N1 ⟨⟨none, ?_⟩, _, _, [1454, 6244, 1283, 101, 5], rfl, .cons _ _ (.cons _ _ (.cons _ _ (.cons _ _ (.cons _ _ .nil)))), rfl, by decide⟩ ?_ ?_ ?_
  · funext y
    by_cases q : y = PySem.Str.ofString "k"
    · subst q; rfl
    · rw [if_neg q]
  · intro i m₁ news₁ z91 p hp
    refine hideG fun g9 hg9 => ?_
    obtain ⟨-, ws, n, hs, rfl, -⟩ := z91
    refine hg9 ?_
    clear hg9 g9
    rcases List.mem_singleton.mp hp with rfl
    simp
  · intro i m₁ news₁ h3 tk3 I o t hi2 z92 htk3 hLI hnI F3 N3
    refine hideG fun g9 hg9 => ?_
    obtain ⟨⟨kv, rfl⟩, ws, n, hs, rfl, his, hlen, hbd⟩ := z92
    refine hg9 ?_
    clear hg9 g9
    change Fr s.heap L h3 _ at F3
    change News s.heap L h3 _ at N3
    clear N1 F1 hk1 hR hrs
    have e0 : (0 : Int) + (i : Int) = (i : Int) := Int.zero_add _
    rw [e0] at F3
    have l0 : (hl0 : Nat) < I := hnI _ (.head _)
    iterate 16 walk1
    have ef : (i : Int).fmod 5 = (i : Int) % 5 := Int.fmod_eq_emod_of_nonneg _ (by decide)
    have hk0 : (0 : Int) ≤ (i : Int).fmod 5 := by rw [ef]; exact Int.emod_nonneg _ (by decide)
    have hk5 : (i : Int).fmod 5 < 5 := by rw [ef]; exact Int.emod_lt_of_pos _ (by decide)
    refine ksa_set F3 N3 (.tail (Nat.ne_of_gt l0) (.head (List.forall_mem_nil _))) his hk0 (by rw [hlen]; exact hk5) (by (first | lia | omega)) ?_
    intro h4 F4 N4 his4 hlen4 _
    repeat walk1
    refine LPost.nxt (TurnEnd.mk (news₂ := [(hl0, _)]) F4 N4 (.head _) (fun p hp => .tail _ hp) ⟨⟨some (.int i t), ?_⟩, _, _, _, rfl, his4, hlen4.trans hlen, ?_⟩)
    · funext y
      by_cases q : y = PySem.Str.ofString "k" <;> simp [q]
    · intro y hy
      have b1 := hbd
      have m0 := Int.fmod_nonneg_of_pos (ns.getD (i : Int).toNat 0) (b := 1000000) (by decide)
      have m1 := Int.fmod_lt_of_pos (ns.getD (i : Int).toNat 0) (b := 1000000) (by decide)
      rcases List.mem_or_eq_of_mem_set hy with hy | rfl
      · have := hbd y hy
        constructor <;> push_cast <;> (first | lia | omega)
      · have hj : ((i : Int).fmod 5).toNat < hs.length := by (first | lia | omega)
        have := hbd (hs.getD ((i : Int).fmod 5).toNat 0) (by rw [List.getD_eq_getElem?_getD, List.getElem?_eq_getElem hj]; exact List.getElem_mem hj)
        constructor <;> push_cast <;> (first | lia | omega)
  · intro m₁ news₁ h3 tk3 z93 htk3 F3 N3
    refine hideG fun g9 hg9 => ?_
    obtain ⟨⟨kv, rfl⟩, ws, n, hs, rfl, his, hlen, hbd⟩ := z93
    refine hg9 ?_
    clear hg9 g9
    change Fr s.heap L h3 _ at F3
    change News s.heap L h3 _ at N3
    clear N1 F1 hk1 hR hrs
    refine wpAny_execs_nil ?_
    dsimp only
    repeat walk1
    rename_i ht9
    refine h _ _ _ ws n hs ht9 (N3 _ (.head _)).2.2 (N3 _ (.head _)).1 his hlen (fun y hy => ?_) ⟨Nat.le_of_lt (hL ▸ F3.ns.lt), F3.keep⟩
    have := hbd y hy
    constructor <;> (first | lia | omega)
end Mine

end

theorem Mine.reset_M20 : True ∧ True := by
  w_top off
  walk1 <;> trivial
section
open PySem PySem.W PyProof.Rows PySem.Calls
set_option Elab.async false
set_option maxRecDepth 100000
set_option maxHeartbeats 4000000
namespace Mine

/-- a lexer's objects as a list -/
structure LexL (w : World) (lx : List (Addr × Obj)) (a : LA) (line : Nat) (left : List Nat) (pbk : List (List Nat)) : Prop where
  ad : lx.map Prod.fst = a.all
  at_ : ∀ h : Heap, (∀ p ∈ lx, h.get? p.1 = some p.2) → LexIn w h a line left pbk

theorem LexIn.led {w : World} {h : Heap} {a : LA} {line : Nat} {left : List Nat} {pbk : List (List Nat)} (X : LexIn w h a line left pbk) : ∃ lx, LexL w lx a line left pbk ∧ ∀ p ∈ lx, h.get? p.1 = some p.2 := by
  obtain ⟨h1, ⟨k1, k2, k3, k4, t1, t3, h2⟩, ⟨vp, np, h3, s3⟩, ⟨vl, nl, h4, s4⟩, ⟨fdt, sl, h5⟩, ⟨kr, h6⟩, ⟨pm, ct, h7⟩, ⟨c, oc, vs, tq, ec, h8, hdc, hq⟩, ⟨oce, h9, h9d⟩⟩ := X
  have ec' : a.c' = c := by cases ec; rfl
  subst ec'
  refine ⟨[(a.x, instObj 60 a.dx), (a.dx, lexD w k1 k2 k3 k4 t1 t3 line a.f a.pb), (a.pb, listOf vp.toArray np), (a.f, ⟨.type "function", some a.fd, .func fdt, sl⟩), (a.fd, dictOf [⟨PyData.keyHash w.params (PySem.Str.ofString "read"), .str (PySem.Str.ofString "read") kr, .ref a.g⟩] 1), (a.g, rdObj a.c pm ct a.c'), (a.c, oce), (a.l, listOf vl.toArray nl), (a.c', oc)], ⟨rfl, fun h' k => ?_⟩, ?_⟩
  rotate_left
  · intro p hp
    simp only [List.mem_cons, List.not_mem_nil, or_false] at hp
    rcases hp with rfl | rfl | rfl | rfl | rfl | rfl | rfl | rfl | rfl
    · exact h1
    · exact h2
    · exact h3
    · exact h5
    · exact h6
    · exact h7
    · exact h9
    · exact h4
    · exact h8
  · refine ⟨k (a.x, _) (.head _), ⟨k1, k2, k3, k4, t1, t3, k (a.dx, _) (.tail _ (.head _))⟩, ⟨vp, np, k (a.pb, _) (.tail _ (.tail _ (.head _))), s3⟩, ⟨vl, nl, k (a.l, _) (.tail _ (.tail _ (.tail _ (.tail _ (.tail _ (.tail _ (.tail _ (.head _)))))))), s4⟩, ⟨fdt, sl, k (a.f, _) (.tail _ (.tail _ (.tail _ (.head _))))⟩, ⟨kr, k (a.fd, _) (.tail _ (.tail _ (.tail _ (.tail _ (.head _)))))⟩,
      ⟨pm, ct, k (a.g, _) (.tail _ (.tail _ (.tail _ (.tail _ (.tail _ (.head _))))))⟩, ⟨_, oc, vs, tq, rfl, k (a.c', _) (.tail _ (.tail _ (.tail _ (.tail _ (.tail _ (.tail _ (.tail _ (.tail _ (.head _))))))))), hdc, hq⟩, ⟨oce, k (a.c, _) (.tail _ (.tail _ (.tail _ (.tail _ (.tail _ (.tail _ (.head _))))))), h9d⟩⟩

theorem LexL.lex {w : World} {lx news : List (Addr × Obj)} {a : LA} {line : Nat} {left : List Nat} {pbk : List (List Nat)} {h₀ h : Heap} {L : Addr} (X : LexL w lx a line left pbk) (N : News h₀ L h news) (hs : ∀ p ∈ lx, p ∈ news) : LexIn w h a line left pbk :=
  X.at_ h fun p hp => (N p (hs p hp)).1

/-- after a lexer's method: the ledger anew -/
theorem News.lex {w : World} {h₀ h h' : Heap} {L : Addr} {news news' lx lx' : List (Addr × Obj)} {a : LA} {line' : Nat} {left' : List Nat} {pbk' : List (List Nat)} {m : PySem.Str → Option Value} (F : Fr h₀ L h m) (N : News h₀ L h news) (hs : ∀ p ∈ lx, p ∈ news) (ad : lx.map Prod.fst = a.all)
    (X' : LexL w lx' a line' left' pbk') (he : ∀ p ∈ lx', h'.get? p.1 = some p.2) (k : ∀ b o, h.get? b = some o → b ∉ a.mut → h'.get? b = some o) (hn : ∀ p ∈ news', p ∈ lx' ∨ (p ∈ news ∧ p.1 ∉ a.mut)) : Fr h₀ L h' m ∧ News h₀ L h' news' := by
  have own : ∀ b ∈ a.all, b ≠ L ∧ h₀.get? b = none := fun b hb => by
    rw [← ad] at hb
    obtain ⟨p, hp, rfl⟩ := List.mem_map.mp hb
    exact (N p (hs p hp)).2
  refine ⟨Fr.but (as := a.mut) F k fun b hb => ?_, fun p hp => ?_⟩
  · have : b ∈ a.all := by simp only [LA.mut, LA.all, List.mem_cons, List.not_mem_nil, or_false] at hb ⊢; rcases hb with rfl | rfl | rfl <;> simp
    exact ⟨(own b this).2, (own b this).1⟩
  · rcases hn p hp with hp' | ⟨hp', hm⟩
    · refine ⟨he p hp', own p.1 ?_⟩
      rw [← X'.ad]
      exact List.mem_map_of_mem hp'
    · exact ⟨k _ _ (N p hp').1 hm, (N p hp').2⟩

theorem lex_meth {w : World} {A : Around} {E : Value → Shared → Prop} {s : Shared} {Q : Value × List Value → Shared → Prop} {K : Frag} {pl : Sem Bool} {f : Addr} {name : PySem.Str} {a : LA} {line : Nat} {left : List Nat} {pbk : List (List Nat)} (X : K.In s.heap) (I : LexIn w s.heap a line left pbk)
    (hg : plainGet K 60 name = true) (hf : findIn K (.ref 60) name = some (some (.ref f))) (ht : isFn K (.ref f) = true) (hl : ∀ k1 k2 k3 k4 t1 t3, (lookIn name (lexD w k1 k2 k3 k4 t1 t3 line a.f a.pb)).map (·.isSome) = some false) (h : Q (.ref f, [.ref a.x]) s) :
    wpAny (model PG w) A (getMethod (.ref a.x) name pl) Q E s := by
  obtain ⟨k1, k2, k3, k4, t1, t3, hd⟩ := I.dxo
  exact method_fn (od := some (lexD w k1 k2 k3 k4 t1 t3 line a.f a.pb)) X ⟨I.xo, rfl, rfl, hd⟩ (plainGet_of hg).1 (plainGet_of hg).2 hf (beq_iff_eq.mp ht) (hl _ _ _ _ _ _) h
end Mine

end

theorem Mine.reset_M21 : True ∧ True := by
  w_top off
  walk1 <;> trivial
section
open PySem PySem.W PyProof.Rows PySem.Calls
set_option Elab.async false
set_option maxRecDepth 100000
set_option maxHeartbeats 1000000
namespace Mine

/-- no lexer's changing objects are another's -/
noncomputable def Apart (a b : LA) : Prop := ∀ m ∈ a.mut, m ∉ b.all

section
variable {w : World} {h₀ h h' : Heap} {L : Addr} {m : PySem.Str → Option Value} {pre lx1 lx2 lx3 : List (Addr × Obj)} {a1 a2 a3 : LA} {n1 n2 n3 n' : Nat} {l1 l2 l3 l' : List Nat} {d1 d2 d3 d' : List (List Nat)}

theorem mut_all {a : LA} {b : Nat} (hb : b ∈ a.mut) : b ∈ a.all := by
  simp only [LA.mut, LA.all, List.mem_cons, List.not_mem_nil, or_false] at hb ⊢; rcases hb with rfl | rfl | rfl <;> simp
theorem LexL.mem {lx : List (Addr × Obj)} {a : LA} {n : Nat} {l : List Nat} {d : List (List Nat)} (X : LexL w lx a n l d) {p : Addr × Obj} (hp : p ∈ lx) : p.1 ∈ a.all := by
  rw [← X.ad]; exact List.mem_map_of_mem hp
theorem pre_apart {lx news : List (Addr × Obj)} {a : LA} {n : Nat} {l : List Nat} {d : List (List Nat)} {I : Addr} (X : LexL w lx a n l d) (hs : ∀ p ∈ lx, p ∈ news) (hI : ∀ p ∈ news, p.1 < I) : I ∉ a.mut := fun hm => by
  have := mut_all hm
  rw [← X.ad] at this
  obtain ⟨p, hp, e⟩ := List.mem_map.mp this
  have := hI p (hs p hp)
  rw [e] at this
  exact Nat.lt_irrefl _ this

theorem tri1 (F : Fr h₀ L h m) (N : News h₀ L h (pre ++ (lx1 ++ (lx2 ++ lx3)))) (X1 : LexL w lx1 a1 n1 l1 d1) (X2 : LexL w lx2 a2 n2 l2 d2) (X3 : LexL w lx3 a3 n3 l3 d3) (p12 : Apart a1 a2) (p13 : Apart a1 a3) (hp : ∀ p ∈ pre, p.1 ∉ a1.mut)
    (X' : LexIn w h' a1 n' l' d') (k : ∀ b o, h.get? b = some o → b ∉ a1.mut → h'.get? b = some o) : ∃ lx', LexL w lx' a1 n' l' d' ∧ Fr h₀ L h' m ∧ News h₀ L h' (pre ++ (lx' ++ (lx2 ++ lx3))) := by
  obtain ⟨lx', Y, e⟩ := X'.led
  obtain ⟨F', N'⟩ := News.lex (news' := pre ++ (lx' ++ (lx2 ++ lx3))) F N (fun p hp => List.mem_append_right _ (List.mem_append_left _ hp)) X1.ad Y e k fun p hm => by
    rcases List.mem_append.mp hm with hm | hm
    · exact .inr ⟨List.mem_append_left _ hm, hp p hm⟩
    rcases List.mem_append.mp hm with hm | hm
    · exact .inl hm
    refine .inr ⟨List.mem_append_right _ (List.mem_append_right _ hm), fun q => ?_⟩
    rcases List.mem_append.mp hm with hm | hm
    · exact p12 _ q (X2.mem hm)
    · exact p13 _ q (X3.mem hm)
  exact ⟨lx', Y, F', N'⟩
theorem tri2 (F : Fr h₀ L h m) (N : News h₀ L h (pre ++ (lx1 ++ (lx2 ++ lx3)))) (X1 : LexL w lx1 a1 n1 l1 d1) (X2 : LexL w lx2 a2 n2 l2 d2) (X3 : LexL w lx3 a3 n3 l3 d3) (p21 : Apart a2 a1) (p23 : Apart a2 a3) (hp : ∀ p ∈ pre, p.1 ∉ a2.mut)
    (X' : LexIn w h' a2 n' l' d') (k : ∀ b o, h.get? b = some o → b ∉ a2.mut → h'.get? b = some o) : ∃ lx', LexL w lx' a2 n' l' d' ∧ Fr h₀ L h' m ∧ News h₀ L h' (pre ++ (lx1 ++ (lx' ++ lx3))) := by
  obtain ⟨lx', Y, e⟩ := X'.led
  obtain ⟨F', N'⟩ := News.lex (news' := pre ++ (lx1 ++ (lx' ++ lx3))) F N (fun p hp => List.mem_append_right _ (List.mem_append_right _ (List.mem_append_left _ hp))) X2.ad Y e k fun p hm => by
    rcases List.mem_append.mp hm with hm | hm
    · exact .inr ⟨List.mem_append_left _ hm, hp p hm⟩
    rcases List.mem_append.mp hm with hm | hm
    · exact .inr ⟨List.mem_append_right _ (List.mem_append_left _ hm), fun q => p21 _ q (X1.mem hm)⟩
    rcases List.mem_append.mp hm with hm | hm
    · exact .inl hm
    · exact .inr ⟨List.mem_append_right _ (List.mem_append_right _ (List.mem_append_right _ hm)), fun q => p23 _ q (X3.mem hm)⟩
  exact ⟨lx', Y, F', N'⟩
theorem tri3 (F : Fr h₀ L h m) (N : News h₀ L h (pre ++ (lx1 ++ (lx2 ++ lx3)))) (X1 : LexL w lx1 a1 n1 l1 d1) (X2 : LexL w lx2 a2 n2 l2 d2) (X3 : LexL w lx3 a3 n3 l3 d3) (p31 : Apart a3 a1) (p32 : Apart a3 a2) (hp : ∀ p ∈ pre, p.1 ∉ a3.mut)
    (X' : LexIn w h' a3 n' l' d') (k : ∀ b o, h.get? b = some o → b ∉ a3.mut → h'.get? b = some o) : ∃ lx', LexL w lx' a3 n' l' d' ∧ Fr h₀ L h' m ∧ News h₀ L h' (pre ++ (lx1 ++ (lx2 ++ lx'))) := by
  obtain ⟨lx', Y, e⟩ := X'.led
  obtain ⟨F', N'⟩ := News.lex (news' := pre ++ (lx1 ++ (lx2 ++ lx'))) F N (fun p hp => List.mem_append_right _ (List.mem_append_right _ (List.mem_append_right _ hp))) X3.ad Y e k fun p hm => by
    rcases List.mem_append.mp hm with hm | hm
    · exact .inr ⟨List.mem_append_left _ hm, hp p hm⟩
    rcases List.mem_append.mp hm with hm | hm
    · exact .inr ⟨List.mem_append_right _ (List.mem_append_left _ hm), fun q => p31 _ q (X1.mem hm)⟩
    rcases List.mem_append.mp hm with hm | hm
    · exact .inr ⟨List.mem_append_right _ (List.mem_append_right _ (List.mem_append_left _ hm)), fun q => p32 _ q (X2.mem hm)⟩
    · exact .inl hm
  exact ⟨lx', Y, F', N'⟩
theorem gdL {lx news : List (Addr × Obj)} {a : LA} {n : Nat} {l : List Nat} {d : List (List Nat)} (G : Gd w h₀) (F : Fr h₀ L h m) (N : News h₀ L h news) (X : LexL w lx a n l d) (hs : ∀ p ∈ lx, p ∈ news) : Gd w (hideAll h a.all) :=
  G.hide F.keep fun b hb => by
    rw [← X.ad] at hb
    obtain ⟨p, hp, rfl⟩ := List.mem_map.mp hb
    exact (N p (hs p hp)).2.2
end
end Mine

end

theorem Mine.reset_M22 : True ∧ True := by
  w_top off
  walk1 <;> trivial
section
open PySem PySem.W PyProof.Rows PySem.Calls
set_option Elab.async false
set_option maxRecDepth 100000
set_option maxHeartbeats 1000000
namespace Mine


/-- two halves in turn -/
noncomputable def weave : List (List Nat) → List (List Nat) → List (List Nat)
  | a :: r, b :: q => a :: b :: weave r q
  | _, _ => []
theorem weave_snoc : ∀ (r q : List (List Nat)) (a b : List Nat), r.length = q.length → weave (r ++ [a]) (q ++ [b]) = weave r q ++ [a] ++ [b]
  | [], [], _, _, _ => rfl
  | _ :: r, _ :: q, a, b, h => by
    show _ :: _ :: weave (r ++ [a]) (q ++ [b]) = _
    rw [weave_snoc r q a b (by simpa using h)]
    rfl
theorem weave_len : ∀ (r q : List (List Nat)), r.length = q.length → (weave r q).length = 2 * r.length
  | [], [], _ => rfl
  | _ :: r, _ :: q, h => by
    show (weave r q).length + 1 + 1 = _
    rw [weave_len r q (by simpa using h)]
    simp; (first | lia | omega)

/-- an escape, as the shuffle calls it -/
structure EscOk (w : World) (esc : Addr) (f : List Nat → List Nat) : Prop where
  fn : ∀ h : Heap, (kk.heap_1 w.params).In h → FnAt esc h
  call : ∀ {A : Around} {s : Shared} {Q : Value → Shared → Prop} {E : Value → Shared → Prop} {l : List Nat} {t : Tok}, Gd w s.heap → AOk A 2 → l.length ≤ 100 → 0 < s.toks → (∀ h' tk t', 0 < tk → Grow s.heap h' → Q (.str (sx (f l)) t') { s with heap := h', toks := tk }) →
    wpAny (model PG w) A (call (.ref esc) [.str (sx l) t]) Q E s

/-- what holds between two turns of the shuffle's loops -/
inductive ShInv (w : World) (esc : Addr) (half : Nat) (th : Tok) (a1 a2 a3 : LA) (n1 n2 n3 : Nat) (l1 l2 l3 : List Nat) (E1 E2 E3 : List (List Nat)) (m : PySem.Str → Option Value) (news : List (Addr × Obj)) : Prop
  | mk (kv : Option Value) (em : m = fun y => if y = PySem.Str.ofString "k" then kv else if y = PySem.Str.ofString "escape" then some (.ref esc) else if y = PySem.Str.ofString "half" then some (.int half th) else if y = PySem.Str.ofString "lower" then some (.ref a3.x) else if y = PySem.Str.ofString "upper" then some (.ref a2.x) else if y = PySem.Str.ofString "deck" then some (.ref a1.x) else none) (lx1 lx2 lx3 : List (Addr × Obj)) (en : news = lx1 ++ (lx2 ++ lx3)) (X1 : LexL w lx1 a1 n1 l1 E1) (X2 : LexL w lx2 a2 n2 l2 E2) (X3 : LexL w lx3 a3 n3 l3 E3) : ShInv w esc half th a1 a2 a3 n1 n2 n3 l1 l2 l3 E1 E2 E3 m news

theorem shuffle_ok {w : World} {A : Around} {s : Shared} {Q : Value → Shared → Prop} {E : Value → Shared → Prop} {a1 a2 a3 : LA} {n1 n2 n3 : Nat} {l1 l2 l3 : List Nat} {D : List (List Nat)} {half : Nat} {th : Tok} {esc : Addr}
    (G : Gd w (hideAll s.heap (a1.all ++ (a2.all ++ a3.all)))) (hA : AOk A 10) (O1 : a1.Ok) (O2 : a2.Ok) (O3 : a3.Ok) (I1 : LexIn w s.heap a1 n1 l1 D) (I2 : LexIn w s.heap a2 n2 l2 []) (I3 : LexIn w s.heap a3 n3 l3 [])
    (hD : D.length = 2 * half) (hh : half ≤ 4) (ht : 0 < s.toks) {fe : List Nat → List Nat} (hE : EscOk w esc fe) (hDl : ∀ x ∈ D, x.length ≤ 100) (p12 : Apart a1 a2) (p13 : Apart a1 a3) (p21 : Apart a2 a1) (p23 : Apart a2 a3) (p31 : Apart a3 a1) (p32 : Apart a3 a2)
    (h : ∀ h' tk, s.toks ≤ tk → LexIn w h' a1 n1 l1 (weave ((D.drop half).map fe) (D.take half)) → LexIn w h' a2 n2 l2 [] → LexIn w h' a3 n3 l3 [] → s.heap.objs.size ≤ h'.objs.size → (∀ b o, s.heap.get? b = some o → b ∉ a1.all ++ (a2.all ++ a3.all) → h'.get? b = some o) → Q .none { s with heap := h', toks := tk }) :
    wpAny (model PG w) A (call (.ref 139) [.ref a1.x, .ref a2.x, .ref a3.x, .int half th, .ref esc]) Q E s := by
  have G' := G
  refine hideG fun g9 hg9 => ?_
  obtain ⟨X, p, loose, mean, mg, mb, T⟩ := G
  refine hg9 ?_
  clear hg9 g9
  refine hideG fun g9 hg9 => ?_
  obtain ⟨ha, dp, fr, gd, un⟩ := A
  refine hg9 ?_
  clear hg9 g9
  refine hideG fun g9 hg9 => ?_
  obtain rfl : ha = none := hA.hand
  refine hg9 ?_
  clear hg9 g9
  refine hideG fun g9 hg9 => ?_
  obtain ⟨lx1, X1, e1⟩ := I1.led
  refine hg9 ?_
  clear hg9 g9
  refine hideG fun g9 hg9 => ?_
  obtain ⟨lx2, X2, e2⟩ := I2.led
  refine hg9 ?_
  clear hg9 g9
  refine hideG fun g9 hg9 => ?_
  obtain ⟨lx3, X3, e3⟩ := I3.led
  refine hg9 ?_
  clear hg9 g9
  refine wpAny_with_toks (Nat.le_refl s.toks) ?_
  refine wpAny_call ?_
  refine' enterK (h₀ := hideAll s.heap (a1.all ++ (a2.all ++ a3.all))) (fun _ _ e => of_hideAll _ e) (Nat.le_of_eq (hideAll_size _ _)) (news := lx1 ++ (lx2 ++ lx3)) (fun q hq => by
    have e : q.1 ∈ a1.all ++ (a2.all ++ a3.all) := by rw [← X1.ad, ← X2.ad, ← X3.ad, ← List.map_append, ← List.map_append]; exact List.mem_map_of_mem hq
    refine ⟨?_, hideAll_none _ e⟩
    rcases List.mem_append.mp hq with hq | hq
    · exact e1 q hq
    rcases List.mem_append.mp hq with hq | hq
    · exact e2 q hq
    · exact e3 q hq) X T.nolimit ?ho ?hcd hA.room ?hbind ?hloc ?_ ?c1 ?c2 ?c3 ?c4
  ((case ho => k_is); (case hcd => k_is); (case hbind => exact BindsTo.of_eq rfl); (case hloc => exact locs rfl); (case c1 => exact rfl); (case c2 => exact rfl); (case c3 => exact rfl); (case c4 => decide))
  intro L h₁ tk0 htk F N hL hLt hk
  have F0 := Fr.cong (m' := fun y => if y = PySem.Str.ofString "k" then none else if y = PySem.Str.ofString "escape" then some (.ref esc) else if y = PySem.Str.ofString "half" then some (.int half th) else if y = PySem.Str.ofString "lower" then some (.ref a3.x) else if y = PySem.Str.ofString "upper" then some (.ref a2.x) else if y = PySem.Str.ofString "deck" then some (.ref a1.x) else none) F (fun y => by
    show List.lookup y [(PySem.Str.ofString "escape", _), (PySem.Str.ofString "half", _), (PySem.Str.ofString "lower", _), (PySem.Str.ofString "upper", _), (PySem.Str.ofString "deck", _)] = _
    rw [lkc, lkc, lkc, lkc, lk1]
    by_cases q : y = PySem.Str.ofString "k"
    · subst q; rfl
    · rw [if_neg q])
  clear F e1 e2 e3 I1 I2 I3
  have K1 : ∀ b o, s.heap.get? b = some o → b ∉ a1.all ++ (a2.all ++ a3.all) → (hideAll s.heap (a1.all ++ (a2.all ++ a3.all))).get? b = some o := fun b o e hb => hideAll_get _ e hb
  have K0 : ∀ b o, (hideAll s.heap (a1.all ++ (a2.all ++ a3.all))).get? b = some o → s.heap.get? b = some o ∧ b ∉ a1.all ++ (a2.all ++ a3.all) := fun b o e => ⟨of_hideAll _ e, fun hm => by rw [hideAll_none _ hm] at e; cases e⟩
  generalize hideAll s.heap (a1.all ++ (a2.all ++ a3.all)) = h₀ at *
  generalize hnews : lx1 ++ (lx2 ++ lx3) = news at *
  walk1
  refine for_raw ?_
  iterate 7 walk1
  intro hts
  rename_i hR F1 N1 hk1
  have hrs := range_small0 (n := half) (by (first | lia | omega))
  subst hnews
  refine loop_range (n := half) (fun i => ShInv w esc half th a1 a2 a3 n1 n2 n3 l1 l2 l3 (D.drop i) (D.take i) [])
    rfl rfl rfl hR hrs.1 hrs.2 F1 N1 ⟨_, rfl, lx1, lx2, lx3, rfl, X1, X2, X3⟩ ?_ ?_ ?_
  · intro i m₁ news₁ z91 p hp
    refine hideG fun g9 hg9 => ?_
    obtain ⟨-, -, lx1', lx2', lx3', rfl, Y1, Y2, Y3⟩ := z91
    refine hg9 ?_
    clear hg9 g9
    rw [List.map_append, List.map_append, X1.ad, X2.ad, X3.ad, ← Y1.ad, ← Y2.ad, ← Y3.ad, ← List.map_append, ← List.map_append]
    exact List.mem_map_of_mem hp
  · intro i m₁ news₁ h2 tk2 I o t hi2 z92 htk2 hLI hnI F2 N2
    refine hideG fun g9 hg9 => ?_
    obtain ⟨kv, rfl, lx1', lx2', lx3', rfl, Y1, Y2, Y3⟩ := z92
    refine hg9 ?_
    clear hg9 g9
    change Fr h₀ L h2 _ at F2
    change News h₀ L h2 _ at N2
    clear N1 F1 hk1 hR hrs
    have s1 : ∀ p ∈ lx1', p ∈ (I, o) :: (lx1' ++ (lx2' ++ lx3')) := fun p hp => .tail _ (List.mem_append_left _ hp)
    have s2 : ∀ p ∈ lx2', p ∈ (I, o) :: (lx1' ++ (lx2' ++ lx3')) := fun p hp => .tail _ (List.mem_append_right _ (List.mem_append_left _ hp))
    have eD : D.drop i = D[i] :: D.drop (i + 1) := List.drop_eq_getElem_cons (by (first | lia | omega))
    refine hold fun R1 hR1 => ?_
    iterate 4 walk1
    refine lex_meth (X.keeps F2.keep) (Y2.lex N2 s2) (by k_is) (f := 57) (by k_is) (by k_is) (fun _ _ _ _ _ _ => by kernel_rfl) ?_
    iterate 4 walk1
    refine lex_meth (X.keeps F2.keep) (Y1.lex N2 s1) (by k_is) (f := 50) (by k_is) (by k_is) (fun _ _ _ _ _ _ => by kernel_rfl) ?_
    have nI1 : ∀ p ∈ [(I, o)], p.1 ∉ a1.mut := fun p hp => by
      rcases List.mem_singleton.mp hp with rfl
      exact pre_apart X1 (fun p hp => List.mem_append_left _ hp) hnI
    have nI2 : ∀ p ∈ [(I, o)], p.1 ∉ a2.mut := fun p hp => by
      rcases List.mem_singleton.mp hp with rfl
      exact pre_apart X2 (fun p hp => List.mem_append_right _ (List.mem_append_left _ hp)) hnI
    walk1
    rw [eD] at Y1
    refine gettok_push (gdL G' F2 N2 Y1 s1) (AOk.le hA.deeper (by decide)) O1 (Y1.lex N2 s1) (by rw [List.length_drop]; (first | lia | omega)) ?_
    intro h3 tk3 u3 htk3 Z1 hsz3 k3
    refine hideG fun g9 hg9 => ?_
    obtain ⟨lx1'', W1, F3, N3⟩ := tri1 (pre := [(I, o)]) F2 N2 Y1 Y2 Y3 p12 p13 nI1 Z1 k3
    refine hg9 ?_
    clear hg9 g9
    clear Y1 F2 N2 s1 s2 k3 hsz3 Z1
    walk1
    refine ⟨X.keeps F3.keep, ?_⟩
    have s2 : ∀ p ∈ lx2', p ∈ [(I, o)] ++ (lx1'' ++ (lx2' ++ lx3')) := fun p hp => List.mem_append_right _ (List.mem_append_right _ (List.mem_append_left _ hp))
    refine push_ok (gdL G' F3 N3 Y2 s2) (AOk.le hA.deeper (by decide)) O2 (Y2.lex N3 s2) (by rw [List.length_take]; (first | lia | omega)) ?_
    intro h4 tk4 htk4 Z2 hsz4 k4
    refine hideG fun g9 hg9 => ?_
    obtain ⟨lx2'', W2, F4, N4⟩ := tri2 (pre := [(I, o)]) F3 N3 W1 Y2 Y3 p21 p23 nI2 Z2 k4
    refine hg9 ?_
    clear hg9 g9
    clear Y2 F3 N3 s2 k4 hsz4 Z2
    repeat ((fail_if_success (with_reducible refine hR1 _ _ ?_)); walk1)
    refine hR1 _ _ (LPost.nxt (TurnEnd.mk (news₂ := lx1'' ++ (lx2'' ++ lx3')) F4 N4 (.head _) (fun p hp => .tail _ hp) ⟨some (.int (0 + i) t), ?_, lx1'', lx2'', lx3', rfl, W1, ?_, Y3⟩))
    · funext y
      by_cases q : y = PySem.Str.ofString "k" <;> simp [q]
    · have e : D.take (i + 1) = D.take i ++ [D[i]] := by rw [List.take_add_one, List.getElem?_eq_getElem (by (first | lia | omega))]; rfl
      rw [e]; exact W2
  · intro m₁ news₁ h2 tk2 z93 htk2 F2 N2
    refine hideG fun g9 hg9 => ?_
    obtain ⟨kv, rfl, lx1', lx2', lx3', rfl, Y1, Y2, Y3⟩ := z93
    refine hg9 ?_
    clear hg9 g9
    change Fr h₀ L h2 _ at F2
    change News h₀ L h2 _ at N2
    clear N1 F1 hk1 hR hrs X1 X2 X3
    refine wpAny_execs_nil ?_
    dsimp only
    walk1
    refine for_raw ?_
    iterate 7 walk1
    intro hts2
    rename_i hR F1 N1 hk1
    have hrs := range_small0 (n := half) (by (first | lia | omega))
    refine loop_range (n := half) (fun i => ShInv w esc half th a1 a2 a3 n1 n2 n3 l1 l2 l3 ((D.drop half).drop i) (D.take half) (((D.drop half).take i).map fe))
      rfl rfl rfl hR hrs.1 hrs.2 F1 N1 ⟨kv, rfl, lx1', lx2', lx3', rfl, Y1, Y2, Y3⟩ ?_ ?_ ?_
    · intro i m₁ news₁ z94 p hp
      refine hideG fun g9 hg9 => ?_
      obtain ⟨-, -, lx1', lx2', lx3', rfl, Z1, Z2, Z3⟩ := z94
      refine hg9 ?_
      clear hg9 g9
      rw [List.map_append, List.map_append, Y1.ad, Y2.ad, Y3.ad, ← Z1.ad, ← Z2.ad, ← Z3.ad, ← List.map_append, ← List.map_append]
      exact List.mem_map_of_mem hp
    · intro i m₁ news₁ h3 tk3 I o t hi2 z95 htk3 hLI hnI F3 N3
      refine hideG fun g9 hg9 => ?_
      obtain ⟨kv', rfl, lx1'', lx2'', lx3'', rfl, Z1, Z2, Z3⟩ := z95
      refine hg9 ?_
      clear hg9 g9
      change Fr h₀ L h3 _ at F3
      change News h₀ L h3 _ at N3
      clear N1 F1 hk1 hR hrs
      have s1 : ∀ p ∈ lx1'', p ∈ (I, o) :: (lx1'' ++ (lx2'' ++ lx3'')) := fun p hp => .tail _ (List.mem_append_left _ hp)
      have s3 : ∀ p ∈ lx3'', p ∈ (I, o) :: (lx1'' ++ (lx2'' ++ lx3'')) := fun p hp => .tail _ (List.mem_append_right _ (List.mem_append_right _ hp))
      have eD : (D.drop half).drop i = (D.drop half)[i]'(by rw [List.length_drop]; (first | lia | omega)) :: (D.drop half).drop (i + 1) := List.drop_eq_getElem_cons (by rw [List.length_drop]; (first | lia | omega))
      have hmem : (D.drop half)[i]'(by rw [List.length_drop]; (first | lia | omega)) ∈ D := List.mem_of_mem_drop (List.getElem_mem _)
      have nI1 : ∀ p ∈ [(I, o)], p.1 ∉ a1.mut := fun p hp => by
        rcases List.mem_singleton.mp hp with rfl
        exact pre_apart Y1 (fun p hp => List.mem_append_left _ hp) hnI
      have nI3 : ∀ p ∈ [(I, o)], p.1 ∉ a3.mut := fun p hp => by
        rcases List.mem_singleton.mp hp with rfl
        exact pre_apart Y3 (fun p hp => List.mem_append_right _ (List.mem_append_right _ hp)) hnI
      refine hold fun R2 hR2 => ?_
      iterate 4 walk1
      refine lex_meth (X.keeps F3.keep) (Z3.lex N3 s3) (by k_is) (f := 57) (by k_is) (by k_is) (fun _ _ _ _ _ _ => by kernel_rfl) ?_
      iterate 4 walk1
      refine callWith_F (hE.fn _ (X.keeps F3.keep)) ?_
      iterate 3 walk1
      refine lex_meth (X.keeps F3.keep) (Z1.lex N3 s1) (by k_is) (f := 50) (by k_is) (by k_is) (fun _ _ _ _ _ _ => by kernel_rfl) ?_
      walk1
      rw [eD] at Z1
      refine gettok_push (gdL G' F3 N3 Z1 s1) (AOk.le hA.deeper (by decide)) O1 (Z1.lex N3 s1) (by rw [List.length_drop, List.length_drop]; (first | lia | omega)) ?_
      intro h4 tk4 u4 htk4 V1 hsz4 k4
      refine hideG fun g9 hg9 => ?_
      obtain ⟨lxa, W1, F4, N4⟩ := tri1 (pre := [(I, o)]) F3 N3 Z1 Z2 Z3 p12 p13 nI1 V1 k4
      refine hg9 ?_
      clear hg9 g9
      clear Z1 F3 N3 s1 s3 k4 hsz4 V1
      walk1
      refine ⟨hE.fn _ (X.keeps F4.keep), ?_⟩
      refine hE.call (G'.keeps F4.keep) (AOk.le hA.deeper (by decide)) (hDl _ hmem) (Nat.lt_of_lt_of_le ht (Nat.le_trans htk (Nat.le_trans hts (Nat.le_trans htk2 (Nat.le_trans hts2 (Nat.le_trans htk3 htk4)))))) ?_
      intro h5 tk5 t5 ht5 g5
      have F5 := Fr.grow F4 g5
      have N5 := News.grow N4 g5
      clear F4 N4 g5
      walk1
      refine ⟨X.keeps F5.keep, ?_⟩
      have s3 : ∀ p ∈ lx3'', p ∈ [(I, o)] ++ (lxa ++ (lx2'' ++ lx3'')) := fun p hp => List.mem_append_right _ (List.mem_append_right _ (List.mem_append_right _ hp))
      refine push_ok (gdL G' F5 N5 Z3 s3) (AOk.le hA.deeper (by decide)) O3 (Z3.lex N5 s3) (by rw [List.length_map, List.length_take]; (first | lia | omega)) ?_
      intro h6 tk6 htk6 V3 hsz6 k6
      refine hideG fun g9 hg9 => ?_
      obtain ⟨lxc, W3, F6, N6⟩ := tri3 (pre := [(I, o)]) F5 N5 W1 Z2 Z3 p31 p32 nI3 V3 k6
      refine hg9 ?_
      clear hg9 g9
      clear Z3 F5 N5 s3 k6 hsz6 V3
      repeat ((fail_if_success (with_reducible refine hR2 _ _ ?_)); walk1)
      refine hR2 _ _ (LPost.nxt (TurnEnd.mk (news₂ := lxa ++ (lx2'' ++ lxc)) F6 N6 (.head _) (fun p hp => .tail _ hp) ⟨some (.int (0 + i) t), ?_, lxa, lx2'', lxc, rfl, W1, Z2, ?_⟩))
      · funext y
        by_cases q : y = PySem.Str.ofString "k" <;> simp [q]
      · have e : (D.drop half).take (i + 1) = (D.drop half).take i ++ [(D.drop half)[i]'(by rw [List.length_drop]; (first | lia | omega))] := by rw [List.take_add_one, List.getElem?_eq_getElem (by rw [List.length_drop]; (first | lia | omega))]; rfl
        rw [e, List.map_append]; exact W3
    · intro m₁ news₁ h2 tk2 z96 htk3 F2 N2
      refine hideG fun g9 hg9 => ?_
      obtain ⟨kv, rfl, lx1', lx2', lx3', rfl, Z1, Z2, Z3⟩ := z96
      refine hg9 ?_
      clear hg9 g9
      change Fr h₀ L h2 _ at F2
      change News h₀ L h2 _ at N2
      clear N1 F1 hk1 hR hrs Y1 Y2 Y3
      have e0 : (D.drop half).drop half = [] := List.drop_eq_nil_of_le (by rw [List.length_drop]; (first | lia | omega))
      have e1 : (D.drop half).take half = D.drop half := List.take_of_length_le (by rw [List.length_drop]; (first | lia | omega))
      rw [e0] at Z1
      rw [e1] at Z3
      refine wpAny_execs_nil ?_
      dsimp only
      walk1
      refine for_raw ?_
      iterate 7 walk1
      intro hts3
      rename_i hR F1 N1 hk1
      have hrs := range_small0 (n := half) (by (first | lia | omega))
      refine loop_range (n := half) (fun i => ShInv w esc half th a1 a2 a3 n1 n2 n3 l1 l2 l3 (weave (((D.drop half).map fe).take i) ((D.take half).take i)) ((D.take half).drop i) (((D.drop half).map fe).drop i))
        rfl rfl rfl hR hrs.1 hrs.2 F1 N1 ⟨kv, rfl, lx1', lx2', lx3', rfl, Z1, Z2, Z3⟩ ?_ ?_ ?_
      · intro i m₁ news₁ z97 p hp
        refine hideG fun g9 hg9 => ?_
        obtain ⟨-, -, lx1'', lx2'', lx3'', rfl, V1, V2, V3⟩ := z97
        refine hg9 ?_
        clear hg9 g9
        rw [List.map_append, List.map_append, Z1.ad, Z2.ad, Z3.ad, ← V1.ad, ← V2.ad, ← V3.ad, ← List.map_append, ← List.map_append]
        exact List.mem_map_of_mem hp
      · intro i m₁ news₁ h3 tk3 I o t hi2 z98 htk4 hLI hnI F3 N3
        refine hideG fun g9 hg9 => ?_
        obtain ⟨kv', rfl, lx1'', lx2'', lx3'', rfl, V1, V2, V3⟩ := z98
        refine hg9 ?_
        clear hg9 g9
        change Fr h₀ L h3 _ at F3
        change News h₀ L h3 _ at N3
        clear N1 F1 hk1 hR hrs
        have lM : ((D.drop half).map fe).length = half := by rw [List.length_map, List.length_drop]; (first | lia | omega)
        have lU : (D.take half).length = half := by rw [List.length_take]; (first | lia | omega)
        generalize (D.drop half).map fe = M at *
        generalize D.take half = U at *
        have eM : M.drop i = M[i] :: M.drop (i + 1) := List.drop_eq_getElem_cons (by (first | lia | omega))
        have eU : U.drop i = U[i] :: U.drop (i + 1) := List.drop_eq_getElem_cons (by (first | lia | omega))
        have tM : M.take (i + 1) = M.take i ++ [M[i]] := by rw [List.take_add_one, List.getElem?_eq_getElem (by (first | lia | omega))]; rfl
        have tU : U.take (i + 1) = U.take i ++ [U[i]] := by rw [List.take_add_one, List.getElem?_eq_getElem (by (first | lia | omega))]; rfl
        have wl := weave_len (M.take i) (U.take i) (by rw [List.length_take, List.length_take]; (first | lia | omega))
        rw [List.length_take] at wl
        have nI1 : ∀ p ∈ [(I, o)], p.1 ∉ a1.mut := fun p hp => by
          rcases List.mem_singleton.mp hp with rfl
          exact pre_apart Z1 (fun p hp => List.mem_append_left _ hp) hnI
        have nI2 : ∀ p ∈ [(I, o)], p.1 ∉ a2.mut := fun p hp => by
          rcases List.mem_singleton.mp hp with rfl
          exact pre_apart Z2 (fun p hp => List.mem_append_right _ (List.mem_append_left _ hp)) hnI
        have nI3 : ∀ p ∈ [(I, o)], p.1 ∉ a3.mut := fun p hp => by
          rcases List.mem_singleton.mp hp with rfl
          exact pre_apart Z3 (fun p hp => List.mem_append_right _ (List.mem_append_right _ hp)) hnI
        have q1 : ∀ {x y z : List (Addr × Obj)}, ∀ p ∈ x, p ∈ [(I, o)] ++ (x ++ (y ++ z)) := fun p hp => List.mem_append_right _ (List.mem_append_left _ hp)
        have q2 : ∀ {x y z : List (Addr × Obj)}, ∀ p ∈ y, p ∈ [(I, o)] ++ (x ++ (y ++ z)) := fun p hp => List.mem_append_right _ (List.mem_append_right _ (List.mem_append_left _ hp))
        have q3 : ∀ {x y z : List (Addr × Obj)}, ∀ p ∈ z, p ∈ [(I, o)] ++ (x ++ (y ++ z)) := fun p hp => List.mem_append_right _ (List.mem_append_right _ (List.mem_append_right _ hp))
        change News h₀ L h3 ([(I, o)] ++ (lx1'' ++ (lx2'' ++ lx3''))) at N3
        rw [eM] at V3
        rw [eU] at V2
        -- the first line
        refine hold fun R3 hR3 => ?_
        iterate 4 walk1
        refine lex_meth (X.keeps F3.keep) (V1.lex N3 q1) (by k_is) (f := 57) (by k_is) (by k_is) (fun _ _ _ _ _ _ => by kernel_rfl) ?_
        iterate 4 walk1
        refine lex_meth (X.keeps F3.keep) (V3.lex N3 q3) (by k_is) (f := 50) (by k_is) (by k_is) (fun _ _ _ _ _ _ => by kernel_rfl) ?_
        walk1
        refine gettok_push (gdL G' F3 N3 V3 q3) (AOk.le hA.deeper (by decide)) O3 (V3.lex N3 q3) (by rw [List.length_drop]; (first | lia | omega)) ?_
        intro h4 tk4 u4 _ B3 _ k4
        refine hideG fun g9 hg9 => ?_
        obtain ⟨lxc, C3, F4, N4⟩ := tri3 (pre := [(I, o)]) F3 N3 V1 V2 V3 p31 p32 nI3 B3 k4
        refine hg9 ?_
        clear hg9 g9
        clear V3 F3 N3 k4 B3
        walk1
        refine ⟨X.keeps F4.keep, ?_⟩
        refine push_ok (gdL G' F4 N4 V1 q1) (AOk.le hA.deeper (by decide)) O1 (V1.lex N4 q1) (by (first | lia | omega)) ?_
        intro h5 tk5 _ B1 _ k5
        refine hideG fun g9 hg9 => ?_
        obtain ⟨lxa, C1, F5, N5⟩ := tri1 (pre := [(I, o)]) F4 N4 V1 V2 C3 p12 p13 nI1 B1 k5
        refine hg9 ?_
        clear hg9 g9
        clear V1 F4 N4 k5 B1
        -- the second line
        iterate 4 walk1
        refine lex_meth (X.keeps F5.keep) (C1.lex N5 q1) (by k_is) (f := 57) (by k_is) (by k_is) (fun _ _ _ _ _ _ => by kernel_rfl) ?_
        iterate 4 walk1
        refine lex_meth (X.keeps F5.keep) (V2.lex N5 q2) (by k_is) (f := 50) (by k_is) (by k_is) (fun _ _ _ _ _ _ => by kernel_rfl) ?_
        walk1
        refine gettok_push (gdL G' F5 N5 V2 q2) (AOk.le hA.deeper (by decide)) O2 (V2.lex N5 q2) (by rw [List.length_drop]; (first | lia | omega)) ?_
        intro h6 tk6 u6 _ B2 _ k6
        refine hideG fun g9 hg9 => ?_
        obtain ⟨lxb, C2, F6, N6⟩ := tri2 (pre := [(I, o)]) F5 N5 C1 V2 C3 p21 p23 nI2 B2 k6
        refine hg9 ?_
        clear hg9 g9
        clear V2 F5 N5 k6 B2
        walk1
        refine ⟨X.keeps F6.keep, ?_⟩
        refine push_ok (gdL G' F6 N6 C1 q1) (AOk.le hA.deeper (by decide)) O1 (C1.lex N6 q1) (by rw [List.length_append]; simp; (first | lia | omega)) ?_
        intro h7 tk7 _ B1 _ k7
        refine hideG fun g9 hg9 => ?_
        obtain ⟨lxa', E1, F7, N7⟩ := tri1 (pre := [(I, o)]) F6 N6 C1 C2 C3 p12 p13 nI1 B1 k7
        refine hg9 ?_
        clear hg9 g9
        clear C1 F6 N6 k7 B1
        repeat ((fail_if_success (with_reducible refine hR3 _ _ ?_)); walk1)
        refine hR3 _ _ (LPost.nxt (TurnEnd.mk (news₂ := lxa' ++ (lxb ++ lxc)) F7 N7 (.head _) (fun p hp => .tail _ hp) ⟨some (.int (0 + i) t), ?_, lxa', lxb, lxc, rfl, ?_, C2, C3⟩))
        · funext y
          by_cases q : y = PySem.Str.ofString "k" <;> simp [q]
        · rw [tM, tU, weave_snoc _ _ _ _ (by rw [List.length_take, List.length_take]; (first | lia | omega))]
          exact E1
      · intro m₁ news₁ h4 tk4 z99 htk4 F4 N4
        refine hideG fun g9 hg9 => ?_
        obtain ⟨kv, rfl, lxa, lxb, lxc, rfl, V1, V2, V3⟩ := z99
        refine hg9 ?_
        clear hg9 g9
        change Fr h₀ L h4 _ at F4
        change News h₀ L h4 _ at N4
        clear N1 F1 hk1 hR hrs Z1 Z2 Z3
        rw [List.take_of_length_le (by rw [List.length_map, List.length_drop]; (first | lia | omega)), List.take_of_length_le (by rw [List.length_take]; (first | lia | omega))] at V1
        rw [List.drop_eq_nil_of_le (by rw [List.length_take]; (first | lia | omega))] at V2
        rw [List.drop_eq_nil_of_le (by rw [List.length_map, List.length_drop]; (first | lia | omega))] at V3
        refine wpAny_execs_nil ?_
        dsimp only
        refine wpAny_execs_nil ?_
        dsimp only
        intro ht9
        exact h _ _ ht9 (V1.lex N4 fun p hp => List.mem_append_left _ hp) (V2.lex N4 fun p hp => List.mem_append_right _ (List.mem_append_left _ hp)) (V3.lex N4 fun p hp => List.mem_append_right _ (List.mem_append_right _ hp))
          (Nat.le_of_lt (hL ▸ F4.ns.lt)) fun b o e hb => F4.keep b o (K1 b o e hb)
end Mine

end

theorem Mine.reset_M14 : True ∧ True := by
  w_top off
  walk1 <;> trivial
section
open PySem PySem.W PyProof.Rows PySem.Calls
set_option Elab.async false
set_option maxRecDepth 100000
set_option maxHeartbeats 1000000
namespace Mine

theorem ci_next : Slot "callable_iterator" "__next__" "callable_iterator.__next__" :=
  .of (owner := "callable_iterator") (n := "__next__") (by rw [typeLookup_type, builtinLookup_eq_fast]; kernel_rfl) (by decide +kernel) (by decide +kernel) (by decide +kernel)
    (by first | exact .inl (by decide +kernel) | exact .inr (by decide +kernel)) (by rw [isSubtype_type]; kernel_rfl)
theorem ci_iter : Slot "callable_iterator" "__iter__" "callable_iterator.__iter__" :=
  .of (owner := "callable_iterator") (n := "__iter__") (by rw [typeLookup_type, builtinLookup_eq_fast]; kernel_rfl) (by decide +kernel) (by decide +kernel) (by decide +kernel)
    (by first | exact .inl (by decide +kernel) | exact .inr (by decide +kernel)) (by rw [isSubtype_type]; kernel_rfl)
theorem ci_next_entry : entryFor table "callable_iterator.__next__" = some Builtin.«callable_iterator.__next__» := entryFor_of_tree (by kernel_rfl)
theorem ci_next_args (a : Value) : argsOk "callable_iterator.__next__" ⟨[a], []⟩ := by unfold argsOk; kernel_rfl

noncomputable abbrev ciObj (bm : Addr) (t : Tok) : Obj := { cls := .type "callable_iterator", data := .fields #[.ref bm, .str (PySem.Str.ofString "") t, .bool false] }
noncomputable abbrev ciEnd : Obj := { cls := .type "callable_iterator", data := .fields #[.none, .none, .bool true] }

section
variable {prog : Program} {w : World} {A : Around} {E : Value → Shared → Prop} {s : Shared} {Q : Option Value → Shared → Prop} {I : Addr}

theorem stop_raised {α : Type} {A : Around} {s : Shared} {Q : α → Shared → Prop} {E : Value → Shared → Prop} (hh : A.handled = none)
    (h : ∀ h' e, (∀ b o, s.heap.get? b = some o → h'.get? b = some o) → s.heap.objs.size ≤ h'.objs.size → (⟨h', s.gens, s.drawn, s.toks, s.os⟩ : Shared).TypeIs e "StopIteration" → E e { s with heap := h' }) : wpAny (model prog w) A (Builtin.SmallTypes.stopIteration : Sem α) Q E s := by
  unfold Builtin.SmallTypes.stopIteration
  refine wpAny_bind ?_
  simp only [newExc, newTuple]
  refine wpAny_bind (wpAny_newObj_type ?_ (by size_fits))
  refine wpAny_bind (m := firstArgMember _ _) (wpAny_of_eq (a := Value.none) (by first | rfl | (simp only [firstArgMember]; rfl)) ?_)
  refine wpAny_newObj_type ?_ (by size_fits)
  simp only [raiseNew]
  refine wpAny_bind (wpAny_handled ?_)
  rw [hh]
  refine wpAny_bind (wpAny_pure (wpAny_throw ?_))
  exact h _ _ (fun b o e => Heap.get?_push_of_some _ (Heap.get?_push_of_some _ e)) (by rw [Heap.size_push, Heap.size_push]; (first | lia | omega)) ⟨_, Heap.get?_push_size _ rfl, rfl⟩

theorem borrowed_call {f : Value} {Q : Value → Shared → Prop}
    (hc : codeAny (model prog w) A (.call f ⟨[], []⟩) (fun r s' => match r with | .ok (.ret v) => Q v s' | .ok _ => False | .error e => E e s') s) : wpAny (model prog w) A (callBorrowed f []) Q E s := fun Γ p hΓ => by
  unfold callBorrowed
  rw [Sem.wp_call]
  have := hc _ p rfl (hΓ.enter (.call f ⟨[], []⟩) none p (by intro x; cases x))
  refine wpCode_mono (fun r s' z => ?_) this
  rcases r with e | (_ | _ | _ | _) <;> first | exact z | exact z.elim

theorem borrows_meth {M : Model} {Q : Bool → Shared → Prop} {bm q : Addr} {self : Value} {qc : Value} {qd : Option Addr} {fd : FuncData} {sl : Array (Option Value)} (hb : s.heap.get? bm = some (methodObj (.ref q) self)) (hq : s.heap.get? q = some ⟨qc, qd, .func fd, sl⟩)
    (h : Q true s) : wpAny M A (borrowsExactly (.ref bm)) Q E s := by
  unfold borrowsExactly
  dsimp only
  refine wpAny_bind (wpAny_load hb ?_)
  dsimp only
  have c : (Value.type "method" == Value.type "method") = true := by decide +kernel
  rw [c, if_pos rfl]
  refine wpAny_bind (wpAny_load hq ?_)
  exact wpAny_pure h

theorem next_ci {bm q x : Addr} {t : Tok} {qc : Value} {qd : Option Addr} {fd : FuncData} {sl : Array (Option Value)} (hh : A.handled = none) (hI : s.heap.get? I = some (ciObj bm t)) (hb : s.heap.get? bm = some (methodObj (.ref q) (.ref x))) (hq : s.heap.get? q = some ⟨qc, qd, .func fd, sl⟩)
    (h : codeAny (model prog w) A.in1 (.call (.ref q) ⟨[.ref x], []⟩) (fun r s' => ∃ y u, r = .ok (.ret (.str y u)) ∧ s'.heap.get? I = some (ciObj bm t) ∧ s'.heap.get? bm = some (methodObj (.ref q) (.ref x)) ∧ s'.heap.get? q = some ⟨qc, qd, .func fd, sl⟩ ∧
      ((PySem.Str.ofString "" ≠ y ∧ Q (some (.str y u)) s') ∨ (PySem.Str.ofString "" = y ∧ ∀ h', h'.get? I = some ciEnd → (∀ b o, b ≠ I → s'.heap.get? b = some o → h'.get? b = some o) → s'.heap.objs.size ≤ h'.objs.size → Q none { s' with heap := h' }))) s) :
    wpAny (model prog w) A (pyNext (.ref I)) Q E s := by
  have hT : s.TypeIs (.ref I) "callable_iterator" := ⟨_, hI, rfl⟩
  unfold pyNext
  refine wpAny_bind (wpAny_attempt (wpAny_callSpecial?_slot (name := Str.ofString "__next__") hT ci_next
    (wpAny_call_entry ci_next hT ci_next_entry ?_ (ci_next_args _))))
  show wpAny _ _ (field (.ref I) 2 >>= _) _ _ s
  refine wpAny_bind (wpAny_field hI rfl (x := .bool false) rfl ?_)
  have c0 : ((Value.bool false == Value.bool true) = true) = False := by decide +kernel
  show wpAny _ _ (if (Value.bool false == Value.bool true) = true then _ else _) _ _ s
  rw [if_neg (by decide +kernel)]
  show wpAny _ _ (field (.ref I) 0 >>= _) _ _ s
  refine wpAny_bind (wpAny_field hI rfl (x := .ref bm) rfl ?_)
  refine wpAny_bind (wpAny_attempt ?_)
  unfold callOutOfASlot
  refine wpAny_bind (borrows_meth hb hq ?_)
  rw [if_pos rfl]
  refine borrowed_call (method_call hb (codeAny_mono h fun r s' z => ?_))
  refine hideG fun g9 hg9 => ?_
  obtain ⟨y, u, rfl, hI', hb', hq', z⟩ := z
  refine hg9 ?_
  clear hg9 g9
  dsimp only
  refine wpAny_bind (wpAny_field hI' rfl (x := .bool false) rfl ?_)
  rw [if_neg (by decide +kernel)]
  refine wpAny_bind (wpAny_field hI' rfl (x := .str (PySem.Str.ofString "") t) rfl ?_)
  refine wpAny_bind (wpAny_holding (wpAny_eqBool_str ?_))
  rcases z with ⟨zn, z⟩ | ⟨ze, z⟩
  · rw [decide_eq_false zn, if_pos (by rfl)]
    exact wpAny_pure ⟨_, rfl, wpAny_pure z⟩
  · rw [decide_eq_true ze, if_neg (by decide)]
    refine wpAny_bind (wpAny_rule ?_)
    refine wpAny_bind ?_
    show wpAny _ _ (field (.ref I) 0 >>= _) _ _ _
    refine wpAny_bind (wpAny_field hI' rfl (x := .ref bm) rfl ?_)
    refine wpAny_bind ?_
    unfold slotLetsGo
    refine wpAny_bind (borrows_meth hb' hq' ?_)
    rw [if_pos rfl]
    refine wpAny_pure ?_
    refine wpAny_bind (wpAny_setField hI' rfl (by simp) ?_)
    refine wpAny_bind (wpAny_setField (Heap.get?_update_self _ hI' rfl) rfl (by simp) ?_)
    refine wpAny_setField (Heap.get?_update_self _ (Heap.get?_update_self _ hI' rfl) rfl) rfl (by simp) ?_
    have e3 := Heap.get?_update_self (Obj.mapFields (·.setIfInBounds 2 (.bool true))) (Heap.get?_update_self (Obj.mapFields (·.setIfInBounds 1 .none)) (Heap.get?_update_self (Obj.mapFields (·.setIfInBounds 0 .none)) hI' rfl) rfl) rfl
    have sb := (((Heap.SameBut.update s'.heap I (Obj.mapFields (·.setIfInBounds 0 .none))).trans (Heap.SameBut.update _ I (Obj.mapFields (·.setIfInBounds 1 .none)))).trans (Heap.SameBut.update _ I (Obj.mapFields (·.setIfInBounds 2 (.bool true)))))
    refine stop_raised hh ?_
    intro h' e hk hs hT'
    refine wpAny_bind (wpAny_isInstance (T := "StopIteration") (b := true) hT' isSubtype_stop ?_)
    refine wpAny_pure (z h' (hk _ _ e3) (fun b o hbI e => hk _ _ (sb.extBut b o hbI e)) (Nat.le_trans (Nat.le_of_eq sb.1.symm) hs))

theorem next_ci_end (hh : A.handled = none) (hI : s.heap.get? I = some ciEnd) (h : ∀ h', (∀ b o, s.heap.get? b = some o → h'.get? b = some o) → s.heap.objs.size ≤ h'.objs.size → Q none { s with heap := h' }) :
    wpAny (model prog w) A (pyNext (.ref I)) Q E s := by
  have hT : s.TypeIs (.ref I) "callable_iterator" := ⟨_, hI, rfl⟩
  unfold pyNext
  refine wpAny_bind (wpAny_attempt (wpAny_callSpecial?_slot (name := Str.ofString "__next__") hT ci_next
    (wpAny_call_entry ci_next hT ci_next_entry ?_ (ci_next_args _))))
  show wpAny _ _ (field (.ref I) 2 >>= _) _ _ s
  refine wpAny_bind (wpAny_field hI rfl (x := .bool true) rfl ?_)
  show wpAny _ _ (if (Value.bool true == Value.bool true) = true then _ else _) _ _ s
  rw [if_pos (by decide +kernel)]
  refine wpAny_bind (wpAny_rule ?_)
  refine wpAny_bind (stop_raised hh ?_)
  intro h' e hk hs hT'
  refine wpAny_bind (wpAny_isInstance (T := "StopIteration") (b := true) hT' isSubtype_stop ?_)
  exact wpAny_pure (h h' hk hs)
end
end Mine

end

theorem Mine.reset_M15 : True ∧ True := by
  w_top off
  walk1 <;> trivial
section
open PySem PySem.W PyProof.Rows PySem.Calls
set_option Elab.async false
set_option maxRecDepth 100000
set_option maxHeartbeats 1000000
namespace Mine
theorem ci_iter_entry : entryFor table "callable_iterator.__iter__" = some Builtin.«dict_keyiterator.__iter__» :=
  entryFor_alias (id' := "dict_keyiterator.__iter__") (by kernel_rfl) (by first | rfl | decide +kernel) (by decide +kernel) (by kernel_rfl)
theorem ci_iter_args (a : Value) : argsOk "callable_iterator.__iter__" ⟨[a], []⟩ := by unfold argsOk; kernel_rfl
theorem iter_ci {prog : Program} {w : World} {A : Around} {E : Value → Shared → Prop} {s : Shared} {Q : Value → Shared → Prop} {I : Addr} (hT : s.TypeIs (.ref I) "callable_iterator") (h : Q (.ref I) s) : wpAny (model prog w) A (pyIter (.ref I)) Q E s := by
  refine wpAny_pyIter_slot hT ci_iter (wpAny_call_entry ci_iter hT ci_iter_entry ?_ (ci_iter_args _))
  show wpAny _ _ (ret (.ref I)) _ _ s
  exact wpAny_pure ⟨_, rfl, "callable_iterator", _, hT, ci_next.lookup, h⟩

theorem iter2_check (a b : Value) : checkBuiltinCall "iter" ⟨[a, b], []⟩ = pure () := by kernel_rfl
theorem meth_call : typeLookup (.type "method") "__call__" = pure (some (.builtin "method.__call__")) := by rw [typeLookup_type, builtinLookup_eq_fast]; kernel_rfl
theorem iter_two {prog : Program} {w : World} {A : Around} {E : Value → Shared → Prop} {s : Shared} {Q : Value → Shared → Prop} {bm : Addr} {f x : Value} {t : Tok} (hb : s.heap.get? bm = some (methodObj f x))
    (h : Q (.ref s.heap.objs.size) { s with heap := s.heap.push (ciObj bm t) }) : wpAny (model prog w) A (call (.builtin "iter") [.ref bm, .str (PySem.Str.ofString "") t]) Q E s := by
  have hT : s.TypeIs (.ref bm) "method" := ⟨_, hb, rfl⟩
  refine wpAny_call (codeAny_call_builtin (by decide +kernel) kdk_entry_iter ?_)
  rw [iter2_check]
  refine wpAny_pure ?_
  show wpAny _ _ (specialOf (.ref bm) "__call__" >>= _) _ _ s
  refine wpAny_bind (wpAny_specialOf hT meth_call ?_)
  refine wpAny_bind (wpAny_rule (wpAny_bind ?_))
  unfold newFields
  refine wpAny_newObj_type ?_ (by size_fits)
  exact wpAny_pure h
end Mine

end

theorem Mine.reset_M16 : True ∧ True := by
  w_top off
  walk1 <;> trivial
section
open PySem PySem.W PyProof.Rows PySem.Calls
set_option Elab.async false
set_option maxRecDepth 100000
set_option maxHeartbeats 1000000
namespace Mine

noncomputable def isW (c : Nat) : Bool := c == 10 || c == 9 || c == 13 || c == 32
/-- a word's letters, up to its stop -/
noncomputable def rdQ (stop : Nat → Bool) (acc : List Nat) (l : List Nat) : List Nat × List Nat := match l with
  | [] => (acc, [])
  | c :: r => if stop c then (acc, r) else if c = 92 then rdQ stop (acc ++ r.take 1) (r.drop 1) else rdQ stop (acc ++ [c]) r
termination_by l.length
decreasing_by
  all_goals simp
  (first | lia | omega)
noncomputable def rdO : List Nat → List Nat × List Nat
  | [] => ([], [])
  | c :: r => if isW c then rdO r else if c = 34 then rdQ (· == 34) [] r else if c = 92 then rdQ isW (r.take 1) (r.drop 1) else rdQ isW [c] r

inductive LS (w : World) (h₀ : Heap) (L : Addr) (a : LA) (I bm : Addr) (io : Obj) (m : PySem.Str → Option Value) (line : Nat) (rem : List Nat) (h : Heap) : Prop
  | mk (F : Fr h₀ L h m) (k1 k2 k3 k4 t1 t3 : Tok) (vl : List Value) (nl np : Nat) (N : News h₀ L h [(I, io), (bm, methodObj (.ref 43) (.ref a.x)), (a.x, instObj 60 a.dx), (a.dx, lexD w k1 k2 k3 k4 t1 t3 line a.f a.pb), (a.pb, listOf #[] np), (a.l, listOf (List.toArray vl) nl)]) (v : StrsAre vl (chs rem)) : LS w h₀ L a I bm io m line rem h
theorem LS.fr {w : World} {h₀ : Heap} {L : Addr} {a : LA} {I bm : Addr} {io : Obj} {m : PySem.Str → Option Value} {line : Nat} {rem : List Nat} {h : Heap} : LS w h₀ L a I bm io m line rem h → Fr h₀ L h m
  | ⟨F, _, _, _, _, _, _, _, _, _, _, _⟩ => F
theorem LS.cong {w : World} {h₀ : Heap} {L : Addr} {a : LA} {I bm : Addr} {io : Obj} {m m' : PySem.Str → Option Value} {line : Nat} {rem : List Nat} {h : Heap} (e : ∀ y, m y = m' y) : LS w h₀ L a I bm io m line rem h → LS w h₀ L a I bm io m' line rem h
  | ⟨F, _, _, _, _, _, _, _, _, _, N, v⟩ => ⟨Fr.cong F e, _, _, _, _, _, _, _, _, _, N, v⟩

structure GT (w : World) (g : Heap) (a : LA) (L I bm : Addr) : Prop where
  G : Gd w (hideAll g a.all)
  O : a.Ok
  li : ∃ line left, LexIn w g a line left []
  lL : ∀ b ∈ a.all, b ≠ L
  lb : a.pb < bm ∧ a.l < bm ∧ a.x < bm ∧ a.dx < bm
  lI : bm < I

theorem LS.lex {w : World} {g : Heap} {a : LA} {L I bm : Addr} {io : Obj} {m : PySem.Str → Option Value} {line : Nat} {rem : List Nat} {h : Heap} (T : GT w g a L I bm) (S : LS w (hideAll g [a.x, a.dx, a.pb, a.l]) L a I bm io m line rem h) :
    LexIn w h a line rem [] ∧ ∀ b o, g.get? b = some o → b ∉ a.mut → h.get? b = some o := by
  refine hideG fun g9 hg9 => ?_
  obtain ⟨F, k1, k2, k3, k4, t1, t3, vl, nl, np, N, s4⟩ := S
  refine hg9 ?_
  clear hg9 g9
  refine hideG fun g9 hg9 => ?_
  obtain ⟨l0, r0, li⟩ := T.li
  refine hg9 ?_
  clear hg9 g9
  exact LexIn.after (vp := []) (pbk' := []) li T.O F N (.tail _ (.tail _ (.head _))) (.tail _ (.tail _ (.tail _ (.head _)))) (.tail _ (.tail _ (.tail _ (.tail _ (.head _))))) (.tail _ (.tail _ (.tail _ (.tail _ (.tail _ (.head _)))))) .nil s4

theorem LS.step {w : World} {g : Heap} {a : LA} {L I bm : Addr} {io io' : Obj} {m : PySem.Str → Option Value} {line line' : Nat} {rem rem' : List Nat} {h h' : Heap} (T : GT w g a L I bm) (S : LS w (hideAll g [a.x, a.dx, a.pb, a.l]) L a I bm io m line rem h)
    (X : LexIn w h' a line' rem' []) (hio : h'.get? I = some io') (k : ∀ b o, h.get? b = some o → b ∉ a.mut → b ≠ I → h'.get? b = some o) : LS w (hideAll g [a.x, a.dx, a.pb, a.l]) L a I bm io' m line' rem' h' := by
  refine hideG fun g9 hg9 => ?_
  obtain ⟨F, k1, k2, k3, k4, t1, t3, vl, nl, np, N, s4⟩ := S
  refine hg9 ?_
  clear hg9 g9
  refine hideG fun g9 hg9 => ?_
  obtain ⟨h1, ⟨k1, k2, k3, k4, t1, t3, h2⟩, ⟨vp, np, h3, s3⟩, ⟨vl, nl, h4, s4⟩, -⟩ := X
  refine hg9 ?_
  clear hg9 g9
  cases s3
  refine hideG fun g9 hg9 => ?_
  obtain ⟨b1, b2, b3, b4⟩ := T.lb
  refine hg9 ?_
  clear hg9 g9
  have b5 := T.lI
  refine ⟨Fr.but (as := [a.dx, a.pb, a.l, I]) F (fun b o e hb => ?_) ?_, k1, k2, k3, k4, t1, t3, vl, nl, np, ?_, s4⟩
  · simp only [List.mem_cons, List.not_mem_nil, or_false, not_or] at hb
    exact k b o e (by simp only [LA.mut, List.mem_cons, List.not_mem_nil, or_false, not_or]; exact ⟨hb.1, hb.2.1, hb.2.2.1⟩) hb.2.2.2
  · intro b hb
    simp only [List.mem_cons, List.not_mem_nil, or_false] at hb
    rcases hb with rfl | rfl | rfl | rfl
    · exact ⟨hideAll_none _ (by simp), T.lL _ (by simp [LA.all])⟩
    · exact ⟨hideAll_none _ (by simp), T.lL _ (by simp [LA.all])⟩
    · exact ⟨hideAll_none _ (by simp), T.lL _ (by simp [LA.all])⟩
    · exact ⟨(N _ (.head _)).2.2, (N _ (.head _)).2.1⟩
  · have nm : ∀ b : Nat, bm ≤ b → b ∉ a.mut := fun b hb hm => by
      simp only [LA.mut, List.mem_cons, List.not_mem_nil, or_false] at hm
      rcases hm with rfl | rfl | rfl
      · exact absurd b4 (Nat.not_lt.mpr hb)
      · exact absurd b1 (Nat.not_lt.mpr hb)
      · exact absurd b2 (Nat.not_lt.mpr hb)
    intro q hq
    simp only [List.mem_cons, List.not_mem_nil, or_false] at hq
    rcases hq with rfl | rfl | rfl | rfl | rfl | rfl
    · exact ⟨hio, (N _ (.head _)).2⟩
    · exact ⟨k _ _ (N _ (.tail _ (.head _))).1 (nm _ (Nat.le_refl _)) (Nat.ne_of_lt b5), (N _ (.tail _ (.head _))).2⟩
    · exact ⟨h1, (N _ (.tail _ (.tail _ (.head _)))).2⟩
    · exact ⟨h2, (N (a.dx, _) (.tail _ (.tail _ (.tail _ (.head _))))).2⟩
    · exact ⟨h3, (N (a.pb, _) (.tail _ (.tail _ (.tail _ (.tail _ (.head _)))))).2⟩
    · exact ⟨h4, (N (a.l, _) (.tail _ (.tail _ (.tail _ (.tail _ (.tail _ (.head _))))))).2⟩

theorem GT.gd {w : World} {g : Heap} {a : LA} {L I bm : Addr} {h : Heap} (T : GT w g a L I bm) (k : ∀ b o, g.get? b = some o → b ∉ a.mut → h.get? b = some o) : Gd w (hideAll h a.all) :=
  T.G.hide (fun b o e => k b o (of_hideAll _ e) fun hm => by
    have : b ∈ a.all := by simp only [LA.mut, LA.all, List.mem_cons, List.not_mem_nil, or_false] at hm ⊢; rcases hm with rfl | rfl | rfl <;> simp
    rw [hideAll_none _ this] at e
    cases e) fun b hb => hideAll_none _ hb

theorem gt_read {w : World} {A : Around} {R : Result → Shared → Prop} {s : Shared} {g : Heap} {a : LA} {L I bm : Addr} {io : Obj} {m : PySem.Str → Option Value} {line : Nat} {rem : List Nat} (T : GT w g a L I bm) (hA : AOk A 5)
    (S : LS w (hideAll g [a.x, a.dx, a.pb, a.l]) L a I bm io m line rem s.heap) (hl : rem.length ≤ 1000000)
    (h : ∀ h' tk t', LS w (hideAll g [a.x, a.dx, a.pb, a.l]) L a I bm io m (if rem.take 1 = [10] then line + 1 else line) (rem.drop 1) h' → R (.ok (.ret (.str (sx (rem.take 1)) t'))) { s with heap := h', toks := tk }) :
    codeAny (model PG w) A (.call (.ref 43) ⟨[.ref a.x], []⟩) R s := by
  refine hideG fun g9 hg9 => ?_
  obtain ⟨X, k⟩ := S.lex T
  refine hg9 ?_
  clear hg9 g9
  refine readchC_ok (T.gd k) hA T.O X hl fun h' tk t' _ X' hsz k' => h h' tk t' (S.step T X' ?_ fun b o e hb _ => k' b o e hb)
  refine hideG fun g9 hg9 => ?_
  obtain ⟨F, k1, k2, k3, k4, t1, t3, vl, nl, np, N, s4⟩ := S
  refine hg9 ?_
  clear hg9 g9
  refine k' _ _ (N _ (.head _)).1 fun hm => ?_
  refine hideG fun g9 hg9 => ?_
  obtain ⟨b1, b2, b3, b4⟩ := T.lb
  refine hg9 ?_
  clear hg9 g9
  have b5 := T.lI
  simp only [LA.mut, List.mem_cons, List.not_mem_nil, or_false] at hm
  rcases hm with rfl | rfl | rfl
  · exact absurd (Nat.lt_trans b4 b5) (Nat.lt_irrefl _)
  · exact absurd (Nat.lt_trans b1 b5) (Nat.lt_irrefl _)
  · exact absurd (Nat.lt_trans b2 b5) (Nat.lt_irrefl _)
end Mine

end

theorem Mine.reset_M17 : True ∧ True := by
  w_top off
  walk1 <;> trivial
section
open PySem PySem.W PyProof.Rows PySem.Calls
set_option Elab.async false
set_option maxRecDepth 100000
set_option maxHeartbeats 1000000
namespace Mine

theorem fn43 {w : World} {h : Heap} (X : (kk.heap_1 w.params).In h) : ∃ qc qd fd sl, h.get? 43 = some ⟨qc, qd, .func fd, sl⟩ := by
  have e : fnIn (kk.heap_1 w.params) 43 = true := by k_is
  unfold fnIn at e
  split at e
  · rename_i q
    exact ⟨_, _, _, _, X _ _ q⟩
  · cases e

section
variable {w : World} {A : Around} {E : Value → Shared → Prop} {s : Shared} {g : Heap} {a : LA} {L I bm : Addr} {m : PySem.Str → Option Value} {line : Nat} {rem : List Nat} {Q : Option Value → Shared → Prop}

theorem gt_next {t0 : Tok} (T : GT w g a L I bm) (hA : AOk A 6) (S : LS w (hideAll g [a.x, a.dx, a.pb, a.l]) L a I bm (ciObj bm t0) m line rem s.heap) (hl : rem.length ≤ 1000000)
    (hend : rem = [] → ∀ h' tk', LS w (hideAll g [a.x, a.dx, a.pb, a.l]) L a I bm ciEnd m line [] h' → Q none { s with heap := h', toks := tk' })
    (hstep : ∀ c r, rem = c :: r → ∀ h' tk' u, LS w (hideAll g [a.x, a.dx, a.pb, a.l]) L a I bm (ciObj bm t0) m (if c = 10 then line + 1 else line) r h' → Q (some (.str (sx [c]) u)) { s with heap := h', toks := tk' }) :
    wpAny (model PG w) A (pyNext (.ref I)) Q E s := by
  refine hideG fun g9 hg9 => ?_
  obtain ⟨X, k⟩ := S.lex T
  refine hg9 ?_
  clear hg9 g9
  have Gh := T.gd k
  refine hideG fun g9 hg9 => ?_
  obtain ⟨qc, qd, fd, sl, e43⟩ := fn43 Gh.X
  refine hg9 ?_
  clear hg9 g9
  have N := S
  refine hideG fun g9 hg9 => ?_
  obtain ⟨F, k1, k2, k3, k4, t1, t3, vl, nl, np, N, s4⟩ := N
  refine hg9 ?_
  clear hg9 g9
  have n43 : ∀ h' : Heap, (∀ b o, (hideAll g [a.x, a.dx, a.pb, a.l]).get? b = some o → h'.get? b = some o) → ∃ qc qd fd sl, h'.get? 43 = some ⟨qc, qd, .func fd, sl⟩ := fun h' kk => by
    refine fn43 (w := w) (T.G.X.keeps fun b o e => kk b o (hideAll_get _ (of_hideAll _ e) fun hm => ?_))
    rw [hideAll_none _ (by simp only [LA.all, List.mem_cons, List.not_mem_nil, or_false] at hm ⊢; rcases hm with rfl | rfl | rfl | rfl <;> simp)] at e
    cases e
  have c43 : ∃ o, (hideAll g [a.x, a.dx, a.pb, a.l]).get? 43 = some o := by
    refine hideG fun g9 hg9 => ?_
    obtain ⟨qc, qd, fd, sl, e⟩ := n43 _ (fun b o e => e)
    refine hg9 ?_
    clear hg9 g9
    exact ⟨_, e⟩
  refine hideG fun g9 hg9 => ?_
  obtain ⟨o43, e43'⟩ := c43
  refine hg9 ?_
  clear hg9 g9
  have e43'' := F.keep _ _ e43'
  have eo : o43 = ⟨qc, qd, .func fd, sl⟩ := by
    have := of_hideAll _ e43
    rw [e43''] at this
    cases this; rfl
  subst eo
  refine next_ci hA.hand (N _ (.head _)).1 (N _ (.tail _ (.head _))).1 e43'' ?_
  refine gt_read T hA.in1 S hl fun h' tk t' S' => ⟨_, _, rfl, ?_⟩
  have N' := S'
  refine hideG fun g9 hg9 => ?_
  obtain ⟨F', k1, k2, k3, k4, t1, t3, vl', nl', np', N', s4'⟩ := N'
  refine hg9 ?_
  clear hg9 g9
  refine ⟨(N' _ (.head _)).1, (N' _ (.tail _ (.head _))).1, F'.keep _ _ e43', ?_⟩
  cases rem with
  | nil =>
    refine .inr ⟨by decide +kernel, fun (h2 : Heap) hI2 hk2 hs2 => ?_⟩
    refine hend rfl _ _ ?_
    refine hideG fun g9 hg9 => ?_
    obtain ⟨X', k'⟩ := S'.lex T
    refine hg9 ?_
    clear hg9 g9
    have lI := T.lI
    refine hideG fun g9 hg9 => ?_
    obtain ⟨b1, b2, b3, b4⟩ := T.lb
    refine hg9 ?_
    clear hg9 g9
    have nI : ∀ b ∈ a.all, b ≠ a.c' → b ≠ I := fun b hb hc => by
      refine hideG fun g9 hg9 => ?_
      obtain ⟨o1, o2, o3, o4, o5, o6, o7, p1, p2, p3⟩ := T.O
      refine hg9 ?_
      clear hg9 g9
      simp only [LA.all, List.mem_cons, List.not_mem_nil, or_false] at hb
      have x1 : a.pb < I := Nat.lt_trans b1 lI
      clear b1 b2 b3 b4 lI
      rcases hb with rfl | rfl | rfl | rfl | rfl | rfl | rfl | rfl | rfl <;> first | exact absurd rfl hc | exact Nat.ne_of_lt (by (first | lia | omega))
    have X2 : LexIn w h2 a line [] [] := by
      have hcI : a.c' ≠ I := by
        refine hideG fun g9 hg9 => ?_
        obtain ⟨l0, r0, li⟩ := T.li
        refine hg9 ?_
        clear hg9 g9
        refine hideG fun g9 hg9 => ?_
        obtain ⟨c, oc, vs, tq, ec, h8, -⟩ := li.co'
        refine hg9 ?_
        clear hg9 g9
        obtain rfl := PySem.Value.ref.inj ec
        intro e
        have := (N _ (.head _)).2.2
        rw [← e] at this
        have nin : a.c' ∉ [a.x, a.dx, a.pb, a.l] := by
          refine hideG fun g9 hg9 => ?_
          obtain ⟨o1, o2, o3, o4, o5, o6, o7, p1, p2, p3⟩ := T.O
          refine hg9 ?_
          clear hg9 g9
          simp only [List.mem_cons, List.not_mem_nil, or_false, not_or]
          refine ⟨?_, p1, p2, p3⟩
          rw [e]
          exact Ne.symm (Nat.ne_of_lt (Nat.lt_trans b3 lI))
        rw [hideAll_get _ h8 nin] at this
        cases this
      have : LexIn w h' a line [] [] := by simpa using X'
      exact this.keeps (as := [I]) (fun b o e hb => hk2 b o (by simpa using hb) e) (fun b hb hm => by
        rcases List.mem_singleton.mp hb with rfl
        by_cases q : b = a.c'
        · exact hcI q.symm
        · exact nI b hm q rfl)
    exact LS.step T S' X2 hI2 fun b o e _ hb => hk2 b o hb e
  | cons c r =>
    refine .inl ⟨?_, ?_⟩
    · show PySem.Str.ofString "" ≠ sx [c]
      rw [show PySem.Str.ofString "" = sx [] by decide +kernel]
      intro e
      exact absurd (sx_inj e) (by simp)
    · have e1 : ((c :: r).take 1 = [10]) = (c = 10) := by simp
      have e2 : (if (c :: r).take 1 = [10] then line + 1 else line) = (if c = 10 then line + 1 else line) := by simp
      rw [e2] at S'
      exact hstep c r rfl _ _ _ S'

theorem gt_next_end (T : GT w g a L I bm) (hh : A.handled = none) (S : LS w (hideAll g [a.x, a.dx, a.pb, a.l]) L a I bm ciEnd m line rem s.heap)
    (hend : ∀ h', LS w (hideAll g [a.x, a.dx, a.pb, a.l]) L a I bm ciEnd m line rem h' → Q none { s with heap := h' }) : wpAny (model PG w) A (pyNext (.ref I)) Q E s := by
  refine hideG fun g9 hg9 => ?_
  obtain ⟨F, k1, k2, k3, k4, t1, t3, vl, nl, np, N, s4⟩ := S
  refine hg9 ?_
  clear hg9 g9
  refine next_ci_end hh (N _ (.head _)).1 fun h' hk hs => hend h' ⟨F.keeps hk, k1, k2, k3, k4, t1, t3, vl, nl, np, N.grown hk, s4⟩
end
theorem iter_twoN {prog : Program} {w : World} {A : Around} {E : Value → Shared → Prop} {s : Shared} {Q : Value → Shared → Prop} {bm : Addr} {f x : Value} {t : Tok} {h₀ : Heap} {L : Addr} {m : PySem.Str → Option Value} {news : List (Addr × Obj)} (F : Fr h₀ L s.heap m) (N : News h₀ L s.heap news)
    (hb : (bm, methodObj f x) ∈ news) (h : ∀ I h', Fr h₀ L h' m → News h₀ L h' ((I, ciObj bm t) :: news) → (∀ p ∈ news, p.1 < I) → L < I → Q (.ref I) { s with heap := h' }) :
    wpAny (model prog w) A (call (.builtin "iter") [.ref bm, .str (PySem.Str.ofString "") t]) Q E s :=
  iter_two (N _ hb).1 (h _ _ (F.push _) (N.push F _) (fun p hp => Heap.lt_size (N p hp).1) F.ns.lt)
end Mine

end

theorem Mine.reset_M18 : True ∧ True := by
  w_top off
  walk1 <;> trivial
section
open PySem PySem.W PyProof.Rows PySem.Calls
set_option Elab.async false
set_option maxRecDepth 100000
set_option maxHeartbeats 1000000
namespace Mine

/-- a turn's end of a reading loop -/
inductive RdEnd (w : World) (g : Heap) (L : Addr) (a : LA) (I bm : Addr) (t0 : Tok) (k : Nat) (P : Bool → (PySem.Str → Option Value) → List Nat → Nat → Prop) (s s' : Shared) : Prop
  | mk (h : Heap) (tk : Nat) (m : PySem.Str → Option Value) (rem : List Nat) (line : Nat) (live : Bool) (e : s' = { s with heap := h, toks := tk }) (S : LS w (hideAll g [a.x, a.dx, a.pb, a.l]) L a I bm (if live = true then ciObj bm t0 else ciEnd) m line rem h)
    (p : P live m rem line) (hk : rem.length ≤ k) (hl : live = false → rem = []) : RdEnd w g L a I bm t0 k P s s'
/-- what holds between two turns of a reading loop -/
inductive RdInv (mp : List Nat → Tok → Option Value → PySem.Str → Option Value) (f : List Nat → List Nat → Prop) (out : List Nat × List Nat) (n total : Nat) (live : Bool) (m : PySem.Str → Option Value) (rem : List Nat) (ln : Nat) : Prop
  | mk (acc : List Nat) (tt : Tok) (chv : Option Value) (e : m = mp acc tt chv) (hl : acc.length + rem.length ≤ n) (h1 : live = true → f acc rem) (h2 : live = false → out = (acc, [])) (hc : ln + rem.count 10 = total) : RdInv mp f out n total live m rem ln

theorem gt_loop {w : World} {A : Around} {s : Shared} {env : Env} {g : Heap} {a : LA} {I bm : Addr} {t0 : Tok} {body orelse : List Stmt} {Q : Flow → Shared → Prop} {m0 : PySem.Str → Option Value} {rem0 : List Nat} {line0 : Nat} {x : PySem.Str}
    (P : Bool → (PySem.Str → Option Value) → List Nat → Nat → Prop) (T : GT w g a env.locals I bm) (hA : AOk A 6) (hl : rem0.length ≤ 1000000)
    (hx : env.kindOf x = some .local) (hp : (env.scope.kind == .class || (env.scope.kind == .module && env.locals != env.globals)) = false) {live0 : Bool}
    (S0 : LS w (hideAll g [a.x, a.dx, a.pb, a.l]) env.locals a I bm (if live0 = true then ciObj bm t0 else ciEnd) m0 line0 rem0 s.heap) (P0 : P live0 m0 rem0 line0) (h0 : live0 = false → rem0 = [])
    (turn : ∀ m c r line h tk u, P true m (c :: r) line → (c :: r).length ≤ 1000000 → LS w (hideAll g [a.x, a.dx, a.pb, a.l]) env.locals a I bm (ciObj bm t0) (fun y => if y = x then some (.str (sx [c]) u) else m y) (if c = 10 then line + 1 else line) r h →
      wpAny (model PG w) A (execs body env) (LPost (RdEnd w g env.locals a I bm t0 r.length P s) Q) NoE { s with heap := h, toks := tk })
    (done : ∀ live m line h tk, P live m [] line → LS w (hideAll g [a.x, a.dx, a.pb, a.l]) env.locals a I bm ciEnd m line [] h → wpAny (model PG w) A (execs orelse env) Q NoE { s with heap := h, toks := tk }) :
    LoopW PG w A env x body orelse Q (.ref I) s := by
  refine ⟨fun n s' => ∃ k, RdEnd w g env.locals a I bm t0 k P s s' ∧ k ≤ 1000000 ∧ n = k + 1 ∨ (n = 0 ∧ RdEnd w g env.locals a I bm t0 0 (fun b m r l => P b m r l ∧ b = false) s s'), rem0.length + 1, ⟨rem0.length, .inl ⟨⟨s.heap, s.toks, m0, rem0, line0, live0, rfl, S0, P0, Nat.le_refl _, h0⟩, hl, rfl⟩⟩, ?_⟩
  have ended : ∀ {n : Nat} (s' : Shared) (m : PySem.Str → Option Value) line h tk, s' = { s with heap := h, toks := tk } → LS w (hideAll g [a.x, a.dx, a.pb, a.l]) env.locals a I bm ciEnd m line [] h → P false m [] line →
      wpAny (model PG w) A (pyNext (.ref I)) (fun r s₁ => match r with
        | none => wpAny (model PG w) A (execs orelse env) Q NoE s₁
        | some v => wpAny (model PG w) A (storeName env x v) (fun _ s₂ => wpAny (model PG w) A (execs body env) (LPost (fun s₃ => ∃ m, m < n ∧ ∃ k, RdEnd w g env.locals a I bm t0 k P s s₃ ∧ k ≤ 1000000 ∧ m = k + 1 ∨ (m = 0 ∧ RdEnd w g env.locals a I bm t0 0 (fun b m r l => P b m r l ∧ b = false) s s₃)) Q) NoE s₂) NoE s₁) NoE s' := by
    intro n s' m line h tk z91 S p
    refine hideG fun g9 hg9 => ?_
    obtain rfl := z91
    refine hg9 ?_
    clear hg9 g9
    exact gt_next_end T hA.hand S fun h' S' => done false m line h' tk p S'
  rintro n s' ⟨k, ⟨⟨h, tk, m, rem, line, live, rfl, S, p, hk, hlr⟩, hk6, rfl⟩ | ⟨rfl, h, tk, m, rem, line, live, rfl, S, ⟨p, rfl⟩, hk, hlr⟩⟩
  · cases live with
    | false =>
      refine hideG fun g9 hg9 => ?_
      obtain rfl := hlr rfl
      refine hg9 ?_
      clear hg9 g9
      exact ended _ _ _ _ _ rfl (by simpa using S) p
    | true =>
      refine gt_next T hA (by simpa using S) (Nat.le_trans hk hk6) ?_ ?_
      · intro z92 h' tk' S'
        refine hideG fun g9 hg9 => ?_
        obtain rfl := z92
        refine hg9 ?_
        clear hg9 g9
        exact done true m line h' tk' p S'
      · intro c r z93 h' tk' u S'
        refine hideG fun g9 hg9 => ?_
        obtain rfl := z93
        refine hg9 ?_
        clear hg9 g9
        refine hideG fun g9 hg9 => ?_
        obtain ⟨F', k1, k2, k3, k4, t1, t3, vl, nl, np, N', s4⟩ := S'
        refine hg9 ?_
        clear hg9 g9
        refine wpAny_storeName_local hx F'.ns (fun h₂ hn₂ hs₂ => ?_) hp
        refine wpAny_mono (turn m c r line h₂ _ u p (Nat.le_trans hk hk6) ⟨F'.set hn₂ hs₂, k1, k2, k3, k4, t1, t3, vl, nl, np, N'.set hs₂, s4⟩) (fun f s₃ z => ?_) fun _ _ z => z
        cases f with
        | ret v => exact z
        | brk => exact z
        | next => exact ⟨r.length + 1, by simp at hk; (first | lia | omega), r.length, .inl ⟨z, by simp at hk; (first | lia | omega), rfl⟩⟩
        | cont => exact ⟨r.length + 1, by simp at hk; (first | lia | omega), r.length, .inl ⟨z, by simp at hk; (first | lia | omega), rfl⟩⟩
  · refine hideG fun g9 hg9 => ?_
    obtain rfl := hlr rfl
    refine hg9 ?_
    clear hg9 g9
    exact ended _ _ _ _ _ rfl (by simpa using S) p
end Mine

end

theorem Mine.reset_M19 : True ∧ True := by
  w_top off
  walk1 <;> trivial
section
open PySem PySem.W PyProof.Rows PySem.Calls
set_option Elab.async false
set_option maxRecDepth 100000
set_option maxHeartbeats 4000000
namespace Mine

theorem map_four (tok ch0 ch1 fi tk2 se : Option Value) : (fun y : PySem.Str => if y = PySem.Str.ofString "token" then tok else if y = PySem.Str.ofString "ch" then ch0 else if y = PySem.Str.ofString "ch" then ch1 else if y = PySem.Str.ofString "fiter" then fi else if y = PySem.Str.ofString "token" then tk2 else if y = PySem.Str.ofString "self" then se else none) =
    (fun y => if y = PySem.Str.ofString "ch" then ch0 else if y = PySem.Str.ofString "fiter" then fi else if y = PySem.Str.ofString "token" then tok else if y = PySem.Str.ofString "self" then se else none) := by
  funext y
  by_cases q : y = PySem.Str.ofString "token"
  · subst q
    rw [if_pos rfl, if_neg (by decide +kernel), if_neg (by decide +kernel), if_pos rfl]
  · rw [if_neg q]
    by_cases q2 : y = PySem.Str.ofString "ch"
    · rw [if_pos q2, if_pos q2]
    · rw [if_neg q2, if_neg q2, if_neg q2, if_neg q, if_neg q]
theorem map_three (tok ch0 fi tk2 se : Option Value) : (fun y : PySem.Str => if y = PySem.Str.ofString "token" then tok else if y = PySem.Str.ofString "ch" then ch0 else if y = PySem.Str.ofString "fiter" then fi else if y = PySem.Str.ofString "token" then tk2 else if y = PySem.Str.ofString "self" then se else none) =
    (fun y => if y = PySem.Str.ofString "ch" then ch0 else if y = PySem.Str.ofString "fiter" then fi else if y = PySem.Str.ofString "token" then tok else if y = PySem.Str.ofString "self" then se else none) := by
  rw [← map_four tok ch0 ch0 fi tk2 se]
  funext y
  by_cases q2 : y = PySem.Str.ofString "ch"
  · simp [q2]
  · simp [q2]
theorem count_take (L tot : Nat) (r : List Nat) (h : L + r.count 10 = tot) : (if r.take 1 = [10] then L + 1 else L) + (r.drop 1).count 10 = tot := by
  cases r with
  | nil => simpa using h
  | cons c r =>
    rw [List.count_cons] at h
    by_cases q : c = 10
    · subst q; simp at h ⊢; (first | lia | omega)
    · simp [q] at h ⊢; (first | lia | omega)
theorem eq_dec {prog : Program} {w : World} {A : Around} {E : Value → Shared → Prop} {s : Shared} {x y : PySem.Str} {t u : Tok} {b : Bool} {Q : Value → Shared → Prop} (hb : (x == y) = b) (h : Q (.bool b) s) :
    wpAny (model prog w) A (compareOp .Eq (.str x t) (.str y u)) Q E s := by
  subst hb
  exact eq_str h
theorem in_dec {prog : Program} {w : World} {A : Around} {E : Value → Shared → Prop} {s : Shared} {x y : PySem.Str} {t u : Tok} {b : Bool} {Q : Value → Shared → Prop} (hb : (!(Builtin.Str.occurrences x y 0 x.length 1).isEmpty) = b) (h : Q (.bool b) s) :
    wpAny (model prog w) A (compareOp .In (.str y u) (.str x t)) Q E s := by
  subst hb
  exact in_str h
theorem in_white (c : Nat) : (!(Builtin.Str.occurrences (PySem.Str.ofString "\n\t\r ") (sx [c]) 0 (PySem.Str.ofString "\n\t\r ").length 1).isEmpty) = isW c := by
  rw [show PySem.Str.ofString "\n\t\r " = sx [10, 9, 13, 32] by decide +kernel, found_sx]
  unfold isW
  by_cases h1 : c = 10
  · simp [h1]
  by_cases h2 : c = 9
  · simp [h2]
  by_cases h3 : c = 13
  · simp [h3]
  by_cases h4 : c = 32
  · simp [h4]
  simp [h1, h2, h3, h4]
theorem eq_one (c d : Nat) : (sx [c] == sx [d]) = decide (c = d) := by
  by_cases h : c = d
  · subst h; simp
  · rw [decide_eq_false h]
    apply beq_false_of_ne
    intro e
    exact h (by have := sx_inj e; simpa using this)
theorem eq_quote (c : Nat) : (sx [c] == PySem.Str.ofString "\"") = decide (c = 34) := by rw [show PySem.Str.ofString "\"" = sx [34] by decide +kernel]; exact eq_one c 34
theorem eq_back (c : Nat) : (sx [c] == PySem.Str.ofString "\\") = decide (c = 92) := by rw [show PySem.Str.ofString "\\" = sx [92] by decide +kernel]; exact eq_one c 92
local macro_rules | `(tactic| walk_at "compareOp In str str") => `(tactic| refine in_dec (by assumption) ?_)
local macro_rules | `(tactic| walk_at "compareOp Eq str str") => `(tactic| refine eq_dec (by assumption) ?_)
theorem gettok_read {w : World} {A : Around} {s : Shared} {Q : Value → Shared → Prop} {E : Value → Shared → Prop} {a : LA} {line : Nat} {left : List Nat} (G : Gd w (hideAll s.heap a.all)) (hA : AOk A 8)
    (O : a.Ok) (I : LexIn w s.heap a line left []) (hl : left.length ≤ 1000000)
    (h : ∀ h' tk u line', s.toks ≤ tk → LexIn w h' a line' (rdO left).2 [] → line' + (rdO left).2.count 10 = line + left.count 10 → s.heap.objs.size ≤ h'.objs.size → (∀ b o, s.heap.get? b = some o → b ∉ a.mut → h'.get? b = some o) →
      Q (.str (sx (rdO left).1) u) { s with heap := h', toks := tk }) :
    wpAny (model PG w) A (call (.ref 50) [.ref a.x]) Q E s := by
  have I' := I
  refine hideG fun g9 hg9 => ?_
  obtain ⟨x, dx, pb, f, fd, g, c, l, c'⟩ := a
  refine hg9 ?_
  clear hg9 g9
  refine hideG fun g9 hg9 => ?_
  obtain ⟨o1, o2, o3, o4, o5, o6, o7, p1, p2, p3⟩ := O
  refine hg9 ?_
  clear hg9 g9
  dsimp only at o1 o2 o3 o4 o5 o6 o7 p1 p2 p3
  refine hideG fun g9 hg9 => ?_
  obtain ⟨h1, ⟨k1, k2, k3, k4, t1, t3, h2⟩, ⟨vp, np, h3, s3⟩, ⟨vl, nl, h4, s4⟩, ⟨fdt, sl, h5⟩, ⟨kr, h6⟩, ⟨pm, ct, h7⟩, h8, ⟨oce, h9, h9d⟩⟩ := I
  refine hg9 ?_
  clear hg9 g9
  dsimp only at h1 h2 h3 h4 h5 h6 h7 h8 h9 h9d
  have Gb : Gd w (hideAll s.heap [x, dx, pb, l]) := G.hide (fun _ _ e => of_hideAll _ e) fun b hb => hideAll_none _ (by
    simp only [List.mem_cons, List.not_mem_nil, or_false] at hb
    rcases hb with e | e | e | e <;> simp [LA.all, e])
  have G' := Gb
  refine hideG fun g9 hg9 => ?_
  obtain ⟨X, p, loose, mean, mg, mb, T⟩ := Gb
  refine hg9 ?_
  clear hg9 g9
  refine hideG fun g9 hg9 => ?_
  obtain ⟨ha, dp, fr, gd, un⟩ := A
  refine hg9 ?_
  clear hg9 g9
  refine hideG fun g9 hg9 => ?_
  obtain rfl : ha = none := hA.hand
  refine hg9 ?_
  clear hg9 g9
  refine wpAny_with_toks (Nat.le_refl s.toks) ?_
  refine wpAny_call ?_
  refine' enterK (h₀ := hideAll s.heap [x, dx, pb, l]) (fun _ _ e => of_hideAll _ e) (Nat.le_of_eq (hideAll_size _ _)) (news := [(x, instObj 60 dx), (dx, lexD w k1 k2 k3 k4 t1 t3 line f pb), (pb, listOf vp.toArray np), (l, listOf vl.toArray nl)]) (fun q hq => by
    have e : q.1 ∈ [x, dx, pb, l] := by have := List.mem_map_of_mem (f := Prod.fst) hq; exact this
    refine ⟨?_, hideAll_none _ e⟩
    simp only [List.mem_cons, List.not_mem_nil, or_false] at hq
    rcases hq with rfl | rfl | rfl | rfl <;> assumption) X T.nolimit ?ho ?hcd hA.room ?hbind ?hloc ?_ ?c1 ?c2 ?c3 ?c4
  ((case ho => k_is); (case hcd => k_is); (case hbind => exact BindsTo.of_eq rfl); (case hloc => exact locs rfl); (case c1 => exact rfl); (case c2 => exact rfl); (case c3 => exact rfl); (case c4 => decide))
  intro L h₁ tk0 htk F N hL hLt hk
  have F0 := Fr.cong (m' := fun y => if y = PySem.Str.ofString "self" then some (.ref x) else none) F (fun y => by
    show List.lookup y [(PySem.Str.ofString "self", _)] = _
    rw [lk1])
  clear F
  refine hold fun R0 hR0 => ?_
  cases s3
  iterate 6 walk1
  refine truthy_own N (.tail _ (.tail _ (.head _))) (by decide) ?_
  rw [if_neg (by decide)]
  iterate 18 walk1
  rename_i F2 N2 lq
  refine iter_twoN F2 N2 (.head _) ?_
  intro I h3' F3 N3 lI hLI
  k_lt lI
  rename_i bm _
  walk1
  dsimp only
  refine wpAny_execs_cons ?_
  rename_i h4' F4 N4
  have GTh : GT w s.heap ⟨x, dx, pb, f, fd, g, c, l, c'⟩ L I bm := by
    refine ⟨G, ⟨o1, o2, o3, o4, o5, o6, o7, p1, p2, p3⟩, ⟨_, _, I'⟩, ?_, ⟨lq.2.2.1, lq.2.2.2, lq.1, lq.2.1⟩, lI.1⟩
    intro b hb
    rw [hL]
    simp only [LA.all, List.mem_cons, List.not_mem_nil, or_false] at hb
    refine hideG fun g9 hg9 => ?_
    obtain ⟨c2, oc2, vs2, tq2, ec, h8', -⟩ := h8
    refine hg9 ?_
    clear hg9 g9
    obtain rfl := PySem.Value.ref.inj ec
    rcases hb with e | e | e | e | e | e | e | e | e <;> rw [e] <;> first | exact Nat.ne_of_lt (Heap.lt_size h1) | exact Nat.ne_of_lt (Heap.lt_size h2) | exact Nat.ne_of_lt (Heap.lt_size h3) | exact Nat.ne_of_lt (Heap.lt_size h4) | exact Nat.ne_of_lt (Heap.lt_size h5) | exact Nat.ne_of_lt (Heap.lt_size h6) | exact Nat.ne_of_lt (Heap.lt_size h7) | exact Nat.ne_of_lt (Heap.lt_size h9) | exact Nat.ne_of_lt (Heap.lt_size h8')
  have S4 : LS w (hideAll s.heap [x, dx, pb, l]) L ⟨x, dx, pb, f, fd, g, c, l, c'⟩ I bm (ciObj bm _) _ line left h4' := ⟨F4, _, _, _, _, _, _, _, _, _, N4, s4⟩
  clear h1 h2 h3 h4 h5 h6 h7 h8 h9 h9d hk I' G
  refine for_raw ?_
  walk1
  intro hts
  refine iter_ci ⟨_, (N4 _ (.head _)).1, rfl⟩ ?_
  clear F4 N4
  have fin : ∀ {io : Obj} {m : PySem.Str → Option Value} {ln' : Nat} {rem acc : List Nat} {h' : Heap} {tk : Nat} {u : Tok}, LS w (hideAll s.heap [x, dx, pb, l]) L ⟨x, dx, pb, f, fd, g, c, l, c'⟩ I bm io m ln' rem h' → rdO left = (acc, rem) → ln' + rem.count 10 = line + left.count 10 → s.toks ≤ tk → Q (.str (sx acc) u) { s with heap := h', toks := tk } := by
    intro io m ln' rem acc h' tk u S e hc htk
    refine hideG fun g9 hg9 => ?_
    obtain ⟨X, k⟩ := S.lex GTh
    refine hg9 ?_
    clear hg9 g9
    have := h h' tk u ln' htk
    rw [e] at this
    exact this X hc (Nat.le_of_lt (hL ▸ S.fr.ns.lt)) k
  let mp : List Nat → Tok → Option Value → PySem.Str → Option Value := fun acc tt chv y => if y = PySem.Str.ofString "ch" then chv else if y = PySem.Str.ofString "fiter" then some (.ref I) else if y = PySem.Str.ofString "token" then some (.str (sx acc) tt) else if y = PySem.Str.ofString "self" then some (.ref x) else none
  obtain ⟨tt0, S5⟩ : ∃ tt0, LS w (hideAll s.heap [x, dx, pb, l]) L ⟨x, dx, pb, f, fd, g, c, l, c'⟩ I bm (ciObj bm _) (mp [] tt0 none) line left h4' := ⟨tk, S4.cong (fun y => by
    by_cases q : y = PySem.Str.ofString "ch"
    · subst q; rfl
    · simp only [mp, q, if_false, show PySem.Str.ofString "" = sx [] by decide +kernel])⟩
  clear S4
  refine gt_loop (t0 := _) (rem0 := left) (line0 := line) (live0 := true) (RdInv mp (fun acc rem => acc = [] ∧ rdO rem = rdO left) (rdO left) left.length (line + left.count 10))
    GTh (AOk.le hA.deeper (by decide)) hl rfl rfl (m0 := mp [] tt0 none) (by rw [if_pos rfl]; exact S5) ⟨[], tt0, none, rfl, by simp, fun _ => ⟨rfl, rfl⟩, (fun e => by cases e), rfl⟩ (fun e => by cases e) ?_ ?_
  · intro m c0 r ln h5 tk5 u5 z91 hr S5
    refine hideG fun g9 hg9 => ?_
    obtain ⟨acc, tt, chv, rfl, hacc, hlive, -, hcnt⟩ := z91
    refine hg9 ?_
    clear hg9 g9
    refine hideG fun g9 hg9 => ?_
    obtain ⟨rfl, hrd⟩ := hlive rfl
    refine hg9 ?_
    clear hg9 g9
    refine hideG fun g9 hg9 => ?_
    obtain ⟨F5, k1, k2, k3, k4, t1, t3, vl, nl, np, N5, s5⟩ := S5
    refine hg9 ?_
    clear hg9 g9
    have F6 := Fr.cong (m' := fun y => if y = PySem.Str.ofString "ch" then some (.str (sx [c0]) u5) else if y = PySem.Str.ofString "fiter" then some (.ref I) else if y = PySem.Str.ofString "token" then some (.str (sx []) tt) else if y = PySem.Str.ofString "self" then some (.ref x) else none) F5 (fun y => by
      show (if y = PySem.Str.ofString "ch" then _ else mp [] tt chv y) = _
      by_cases q : y = PySem.Str.ofString "ch" <;> simp [mp, q])
    clear F5
    change Fr _ L h5 _ at F6
    change News _ L h5 _ at N5
    dsimp only at N5
    have wq := in_white c0
    have qq := eq_quote c0
    have bq := eq_back c0
    rw [rdO] at hrd
    clear hlive s4 hts S5
    have hcr : (if c0 = 10 then ln + 1 else ln) + r.count 10 = line + left.count 10 := by
      rw [List.count_cons] at hcnt
      by_cases q : c0 = 10
      · subst q; simp at hcnt ⊢; (first | lia | omega)
      · simp [q] at hcnt ⊢; (first | lia | omega)
    simp at hacc
    refine hold fun R1 hR1 => ?_
    cases hw : isW c0 with
    | true =>
      rw [hw] at wq hrd
      rw [if_pos rfl] at hrd
      iterate 13 walk1
      refine hR1 _ _ <| LPost.cnt ⟨_, _, _, r, _, true, rfl, ⟨F6, _, _, _, _, _, _, _, _, _, N5, s5⟩, ⟨[], tt, some (.str (sx [c0]) u5), rfl, by simp; (first | lia | omega), fun _ => ⟨rfl, hrd⟩, (fun e => by cases e), hcr⟩, Nat.le_refl _, fun e => by cases e⟩
    | false =>
      rw [hw] at wq hrd
      rw [if_neg (by decide)] at hrd
      by_cases h34 : c0 = 34
      · rw [if_pos h34] at hrd
        rw [decide_eq_true h34] at qq
        iterate 22 walk1
        refine for_raw ?_
        walk1
        intro _
        refine iter_ci ⟨_, (N5 _ (.head _)).1, rfl⟩ ?_
        refine gt_loop (t0 := _) (rem0 := r) (line0 := if c0 = 10 then ln + 1 else ln) (live0 := true) (RdInv mp (fun acc rem => rdQ (· == 34) acc rem = rdO left) (rdO left) left.length (line + left.count 10))
          GTh (AOk.le hA.deeper (by decide)) (by (first | lia | omega)) rfl rfl (m0 := mp [] tt (some (.str (sx [c0]) u5))) (by rw [if_pos rfl]; exact ⟨F6, _, _, _, _, _, _, _, _, _, N5, s5⟩) ⟨[], tt, _, rfl, by simp; (first | lia | omega), fun _ => hrd, (fun e => by cases e), hcr⟩ (fun e => by cases e) ?_ ?_
        · intro m c1 r1 ln1 h6 tk6 u6 z92 hr1 S6
          refine hideG fun g9 hg9 => ?_
          obtain ⟨acc, tt6, chv, rfl, hacc6, hlive6, -, hcnt6⟩ := z92
          refine hg9 ?_
          clear hg9 g9
          have hq6 : _ = rdO left := hlive6 rfl
          clear hlive6
          refine hideG fun g9 hg9 => ?_
          obtain ⟨F7', k1, k2, k3, k4, t1, t3, vl, nl, np, N7, s7⟩ := S6
          refine hg9 ?_
          clear hg9 g9
          have F7 := Fr.cong (m' := fun y => if y = PySem.Str.ofString "ch" then some (.str (sx [c1]) u6) else if y = PySem.Str.ofString "fiter" then some (.ref I) else if y = PySem.Str.ofString "token" then some (.str (sx acc) tt6) else if y = PySem.Str.ofString "self" then some (.ref x) else none) F7' (fun y => by
            show (if y = PySem.Str.ofString "ch" then _ else mp acc tt6 chv y) = _
            by_cases q : y = PySem.Str.ofString "ch" <;> simp [mp, q])
          change Fr (hideAll s.heap [x, dx, pb, l]) L h6 _ at F7
          change News _ L h6 _ at N7
          dsimp only at N7
          clear F6 N5 F7' wq qq bq hcnt hrd hcr hacc s5
          have qq1 := eq_quote c1
          have bq1 := eq_back c1
          have hcr1 : (if c1 = 10 then ln1 + 1 else ln1) + r1.count 10 = line + left.count 10 := by
            rw [List.count_cons] at hcnt6
            by_cases q : c1 = 10
            · subst q; simp at hcnt6 ⊢; (first | lia | omega)
            · simp [q] at hcnt6 ⊢; (first | lia | omega)
          simp only [List.length_cons] at hacc6
          rw [rdQ] at hq6
          refine hold fun R2 hR2 => ?_
          by_cases h34b : c1 = 34
          · rw [if_pos (by simp [h34b])] at hq6
            rw [decide_eq_true h34b] at qq1
            repeat walk1
            refine hR2 _ _ (LPost.ret (hR1 _ _ (LPost.ret (hR0 _ _ ?_))))
            dsimp only
            intro ht9
            exact fin ⟨F7, _, _, _, _, _, _, _, _, _, N7, s7⟩ hq6.symm hcr1 ht9
          · rw [if_neg (by simpa using h34b)] at hq6
            rw [decide_eq_false h34b] at qq1
            have hs1 : (sx acc).length ≤ 1000000 := by rw [sx_len]; (first | lia | omega)
            have hs2 : (sx [c1]).length ≤ 1 := by rw [sx_len]; simp
            by_cases h92 : c1 = 92
            · rw [if_pos h92] at hq6
              rw [decide_eq_true h92] at bq1
              iterate 24 walk1
              dsimp only [List.singleton_append, List.append_nil]
              refine wpAny_call (gt_read GTh (AOk.le hA.deeper (by decide)) ⟨F7, _, _, _, _, _, _, _, _, _, N7, s7⟩ (by simp at hr1; (first | lia | omega)) ?_)
              intro h8 tk8 t8 S8
              refine hideG fun g9 hg9 => ?_
              obtain ⟨F8, k1, k2, k3, k4, t1, t3, vl, nl, np, N8, s8⟩ := S8
              refine hg9 ?_
              clear hg9 g9
              clear F7 N7
              have hs3 : (sx (r1.take 1)).length ≤ 1 := by rw [sx_len]; exact List.length_take_le _ _
              repeat walk1
              rename_i F9 N9
              rw [sx_app] at F9
              rw [map_four] at F9
              exact hR2 _ _ <| LPost.nxt ⟨_, _, _, r1.drop 1, _, true, rfl, ⟨F9, _, _, _, _, _, _, _, _, _, N9, s8⟩, ⟨acc ++ r1.take 1, _, some (.str (sx (r1.take 1)) t8), rfl, by simp; (first | lia | omega), fun _ => hq6, (fun e => by cases e), count_take _ _ _ hcr1⟩, by simp, fun e => by cases e⟩
            · rw [if_neg h92] at hq6
              rw [decide_eq_false h92] at bq1
              repeat walk1
              rename_i F9 N9
              rw [sx_app, map_three] at F9
              exact hR2 _ _ <| LPost.nxt ⟨_, _, _, r1, _, true, rfl, ⟨F9, _, _, _, _, _, _, _, _, _, N9, s7⟩, ⟨acc ++ [c1], _, some (.str (sx [c1]) u6), rfl, by simp; (first | lia | omega), fun _ => hq6, (fun e => by cases e), hcr1⟩, Nat.le_refl _, fun e => by cases e⟩
        · intro live m ln1 h6 tk6 z93 S6
          refine hideG fun g9 hg9 => ?_
          obtain ⟨acc, tt6, chv, rfl, hacc6, hlive6, hdead6, hcnt6⟩ := z93
          refine hg9 ?_
          clear hg9 g9
          have hq6 : rdO left = (acc, []) := by
            cases live with
            | true => have e0 : _ = rdO left := hlive6 rfl; rw [← e0, rdQ]
            | false => exact hdead6 rfl
          repeat (refine wpAny_execs_nil ?_; (try dsimp only))
          exact hR1 _ _ <| LPost.nxt ⟨_, _, _, [], _, false, rfl, S6, ⟨acc, tt6, chv, rfl, hacc6, (fun e => by cases e), (fun _ => hq6), hcnt6⟩, Nat.zero_le _, fun _ => rfl⟩
      · rw [if_neg h34] at hrd
        rw [decide_eq_false h34] at qq
        have hs1 : (sx []).length ≤ 1000000 := by rw [sx_len]; simp
        have hs2 : (sx [c0]).length ≤ 1 := by rw [sx_len]; simp
        by_cases h92 : c0 = 92
        · rw [if_pos h92] at hrd
          rw [decide_eq_true h92] at bq
          iterate 36 walk1
          dsimp only [List.singleton_append, List.append_nil]
          refine wpAny_call (gt_read GTh (AOk.le hA.deeper (by decide)) ⟨F6, _, _, _, _, _, _, _, _, _, N5, s5⟩ (by simp at hr; (first | lia | omega)) ?_)
          intro h8 tk8 t8 S8
          refine hideG fun g9 hg9 => ?_
          obtain ⟨F8, k1, k2, k3, k4, t1, t3, vl, nl, np, N8, s8⟩ := S8
          refine hg9 ?_
          clear hg9 g9
          clear F6 N5
          have hs3 : (sx (r.take 1)).length ≤ 1 := by rw [sx_len]; exact List.length_take_le _ _
          repeat ((fail_if_success (with_reducible show wpAny _ _ (exec (Stmt.For _ _ _ _ _) _) _ _ _)); walk1)
          rename_i F9 N9
          rw [sx_app, map_four] at F9
          have hcr9 := count_take _ _ _ hcr
          clear wq qq bq hcnt hcr
          refine for_raw ?_
          walk1
          intro _
          refine iter_ci ⟨_, (N9 _ (.head _)).1, rfl⟩ ?_
          refine gt_loop (t0 := _) (rem0 := (r.drop 1)) (line0 := _) (live0 := true) (RdInv mp (fun acc rem => rdQ isW acc rem = rdO left) (rdO left) left.length (line + left.count 10))
            GTh (AOk.le hA.deeper (by decide)) (by simp at hr ⊢; (first | lia | omega)) rfl rfl (m0 := mp ([] ++ r.take 1) _ (some (.str (sx (r.take 1)) t8))) (by rw [if_pos rfl]; exact ⟨F9, _, _, _, _, _, _, _, _, _, N9, s8⟩) ⟨([] ++ r.take 1), _, _, rfl, by simp; (first | lia | omega), fun _ => hrd, (fun e => by cases e), hcr9⟩ (fun e => by cases e) ?_ ?_
          · clear F9 N9 s8
            intro m c1 r1 ln1 h6 tk6 u6 z94 hr1 S6
            refine hideG fun g9 hg9 => ?_
            obtain ⟨acc, tt6, chv, rfl, hacc6, hlive6, -, hcnt6⟩ := z94
            refine hg9 ?_
            clear hg9 g9
            have hq6 : _ = rdO left := hlive6 rfl
            clear hlive6
            refine hideG fun g9 hg9 => ?_
            obtain ⟨F7', k1, k2, k3, k4, t1, t3, vl, nl, np, N7, s7⟩ := S6
            refine hg9 ?_
            clear hg9 g9
            have F7 := Fr.cong (m' := fun y => if y = PySem.Str.ofString "ch" then some (.str (sx [c1]) u6) else if y = PySem.Str.ofString "fiter" then some (.ref I) else if y = PySem.Str.ofString "token" then some (.str (sx acc) tt6) else if y = PySem.Str.ofString "self" then some (.ref x) else none) F7' (fun y => by
              show (if y = PySem.Str.ofString "ch" then _ else mp acc tt6 chv y) = _
              by_cases q : y = PySem.Str.ofString "ch" <;> simp [mp, q])
            change Fr (hideAll s.heap [x, dx, pb, l]) L h6 _ at F7
            change News _ L h6 _ at N7
            dsimp only at N7
            clear F7'
            have qq1 := in_white c1
            have bq1 := eq_back c1
            have hcr1 : (if c1 = 10 then ln1 + 1 else ln1) + r1.count 10 = line + left.count 10 := by
              rw [List.count_cons] at hcnt6
              by_cases q : c1 = 10
              · subst q; simp at hcnt6 ⊢; (first | lia | omega)
              · simp [q] at hcnt6 ⊢; (first | lia | omega)
            simp only [List.length_cons] at hacc6
            rw [rdQ] at hq6
            refine hold fun R2 hR2 => ?_
            by_cases h34b : isW c1 = true
            · rw [if_pos (by simp [h34b])] at hq6
              rw [h34b] at qq1
              repeat walk1
              refine hR2 _ _ (LPost.ret (hR1 _ _ (LPost.ret (hR0 _ _ ?_))))
              dsimp only
              intro ht9
              exact fin ⟨F7, _, _, _, _, _, _, _, _, _, N7, s7⟩ hq6.symm hcr1 ht9
            · rw [if_neg (by simpa using h34b)] at hq6
              rw [Bool.not_eq_true _ |>.mp h34b] at qq1
              have hs1 : (sx acc).length ≤ 1000000 := by rw [sx_len]; (first | lia | omega)
              have hs2 : (sx [c1]).length ≤ 1 := by rw [sx_len]; simp
              by_cases h92 : c1 = 92
              · rw [if_pos h92] at hq6
                rw [decide_eq_true h92] at bq1
                iterate 26 walk1
                dsimp only [List.singleton_append, List.append_nil]
                refine wpAny_call (gt_read GTh (AOk.le hA.deeper (by decide)) ⟨F7, _, _, _, _, _, _, _, _, _, N7, s7⟩ (by simp at hr1; (first | lia | omega)) ?_)
                intro h8 tk8 t8 S8
                refine hideG fun g9 hg9 => ?_
                obtain ⟨F8, k1, k2, k3, k4, t1, t3, vl, nl, np, N8, s8⟩ := S8
                refine hg9 ?_
                clear hg9 g9
                clear F7 N7
                have hs3 : (sx (r1.take 1)).length ≤ 1 := by rw [sx_len]; exact List.length_take_le _ _
                repeat walk1
                rename_i F9 N9
                rw [sx_app] at F9
                rw [map_four] at F9
                exact hR2 _ _ <| LPost.nxt ⟨_, _, _, r1.drop 1, _, true, rfl, ⟨F9, _, _, _, _, _, _, _, _, _, N9, s8⟩, ⟨acc ++ r1.take 1, _, some (.str (sx (r1.take 1)) t8), rfl, by simp; (first | lia | omega), fun _ => hq6, (fun e => by cases e), count_take _ _ _ hcr1⟩, by simp, fun e => by cases e⟩
              · rw [if_neg h92] at hq6
                rw [decide_eq_false h92] at bq1
                repeat walk1
                rename_i F9 N9
                rw [sx_app, map_three] at F9
                exact hR2 _ _ <| LPost.nxt ⟨_, _, _, r1, _, true, rfl, ⟨F9, _, _, _, _, _, _, _, _, _, N9, s7⟩, ⟨acc ++ [c1], _, some (.str (sx [c1]) u6), rfl, by simp; (first | lia | omega), fun _ => hq6, (fun e => by cases e), hcr1⟩, Nat.le_refl _, fun e => by cases e⟩
          · clear F9 N9 s8
            intro live m ln1 h6 tk6 z95 S6
            refine hideG fun g9 hg9 => ?_
            obtain ⟨acc, tt6, chv, rfl, hacc6, hlive6, hdead6, hcnt6⟩ := z95
            refine hg9 ?_
            clear hg9 g9
            have hq6 : rdO left = (acc, []) := by
              cases live with
              | true => have e0 : _ = rdO left := hlive6 rfl; rw [← e0, rdQ]
              | false => exact hdead6 rfl
            repeat (refine wpAny_execs_nil ?_; (try dsimp only))
            exact hR1 _ _ <| LPost.nxt ⟨_, _, _, [], _, false, rfl, S6, ⟨acc, tt6, chv, rfl, hacc6, (fun e => by cases e), (fun _ => hq6), hcnt6⟩, Nat.zero_le _, fun _ => rfl⟩
        · rw [if_neg h92] at hrd
          rw [decide_eq_false h92] at bq
          repeat ((fail_if_success (with_reducible show wpAny _ _ (exec (Stmt.For _ _ _ _ _) _) _ _ _)); walk1)
          rename_i F9 N9
          rw [sx_app, map_three] at F9
          clear wq qq bq hcnt
          (try clear F6)
          (try clear N5)
          refine for_raw ?_
          walk1
          intro _
          refine iter_ci ⟨_, (N9 _ (.head _)).1, rfl⟩ ?_
          refine gt_loop (t0 := _) (rem0 := r) (line0 := _) (live0 := true) (RdInv mp (fun acc rem => rdQ isW acc rem = rdO left) (rdO left) left.length (line + left.count 10))
            GTh (AOk.le hA.deeper (by decide)) (by simp at hr ⊢; (first | lia | omega)) rfl rfl (m0 := mp ([] ++ [c0]) _ (some (.str (sx [c0]) u5))) (by rw [if_pos rfl]; exact ⟨F9, _, _, _, _, _, _, _, _, _, N9, s5⟩) ⟨([] ++ [c0]), _, _, rfl, by simp; (first | lia | omega), fun _ => hrd, (fun e => by cases e), hcr⟩ (fun e => by cases e) ?_ ?_
          · clear F9 N9 s5
            intro m c1 r1 ln1 h6 tk6 u6 z96 hr1 S6
            refine hideG fun g9 hg9 => ?_
            obtain ⟨acc, tt6, chv, rfl, hacc6, hlive6, -, hcnt6⟩ := z96
            refine hg9 ?_
            clear hg9 g9
            have hq6 : _ = rdO left := hlive6 rfl
            clear hlive6
            refine hideG fun g9 hg9 => ?_
            obtain ⟨F7', k1, k2, k3, k4, t1, t3, vl, nl, np, N7, s7⟩ := S6
            refine hg9 ?_
            clear hg9 g9
            have F7 := Fr.cong (m' := fun y => if y = PySem.Str.ofString "ch" then some (.str (sx [c1]) u6) else if y = PySem.Str.ofString "fiter" then some (.ref I) else if y = PySem.Str.ofString "token" then some (.str (sx acc) tt6) else if y = PySem.Str.ofString "self" then some (.ref x) else none) F7' (fun y => by
              show (if y = PySem.Str.ofString "ch" then _ else mp acc tt6 chv y) = _
              by_cases q : y = PySem.Str.ofString "ch" <;> simp [mp, q])
            change Fr (hideAll s.heap [x, dx, pb, l]) L h6 _ at F7
            change News _ L h6 _ at N7
            dsimp only at N7
            clear F7'
            have qq1 := in_white c1
            have bq1 := eq_back c1
            have hcr1 : (if c1 = 10 then ln1 + 1 else ln1) + r1.count 10 = line + left.count 10 := by
              rw [List.count_cons] at hcnt6
              by_cases q : c1 = 10
              · subst q; simp at hcnt6 ⊢; (first | lia | omega)
              · simp [q] at hcnt6 ⊢; (first | lia | omega)
            simp only [List.length_cons] at hacc6
            rw [rdQ] at hq6
            refine hold fun R2 hR2 => ?_
            by_cases h34b : isW c1 = true
            · rw [if_pos (by simp [h34b])] at hq6
              rw [h34b] at qq1
              repeat walk1
              refine hR2 _ _ (LPost.ret (hR1 _ _ (LPost.ret (hR0 _ _ ?_))))
              dsimp only
              intro ht9
              exact fin ⟨F7, _, _, _, _, _, _, _, _, _, N7, s7⟩ hq6.symm hcr1 ht9
            · rw [if_neg (by simpa using h34b)] at hq6
              rw [Bool.not_eq_true _ |>.mp h34b] at qq1
              have hs1 : (sx acc).length ≤ 1000000 := by rw [sx_len]; (first | lia | omega)
              have hs2 : (sx [c1]).length ≤ 1 := by rw [sx_len]; simp
              by_cases h92 : c1 = 92
              · rw [if_pos h92] at hq6
                rw [decide_eq_true h92] at bq1
                iterate 26 walk1
                dsimp only [List.singleton_append, List.append_nil]
                refine wpAny_call (gt_read GTh (AOk.le hA.deeper (by decide)) ⟨F7, _, _, _, _, _, _, _, _, _, N7, s7⟩ (by simp at hr1; (first | lia | omega)) ?_)
                intro h8 tk8 t8 S8
                refine hideG fun g9 hg9 => ?_
                obtain ⟨F8, k1, k2, k3, k4, t1, t3, vl, nl, np, N8, s8⟩ := S8
                refine hg9 ?_
                clear hg9 g9
                clear F7 N7
                have hs3 : (sx (r1.take 1)).length ≤ 1 := by rw [sx_len]; exact List.length_take_le _ _
                repeat walk1
                rename_i F9 N9
                rw [sx_app] at F9
                rw [map_four] at F9
                exact hR2 _ _ <| LPost.nxt ⟨_, _, _, r1.drop 1, _, true, rfl, ⟨F9, _, _, _, _, _, _, _, _, _, N9, s8⟩, ⟨acc ++ r1.take 1, _, some (.str (sx (r1.take 1)) t8), rfl, by simp; (first | lia | omega), fun _ => hq6, (fun e => by cases e), count_take _ _ _ hcr1⟩, by simp, fun e => by cases e⟩
              · rw [if_neg h92] at hq6
                rw [decide_eq_false h92] at bq1
                repeat walk1
                rename_i F9 N9
                rw [sx_app, map_three] at F9
                exact hR2 _ _ <| LPost.nxt ⟨_, _, _, r1, _, true, rfl, ⟨F9, _, _, _, _, _, _, _, _, _, N9, s7⟩, ⟨acc ++ [c1], _, some (.str (sx [c1]) u6), rfl, by simp; (first | lia | omega), fun _ => hq6, (fun e => by cases e), hcr1⟩, Nat.le_refl _, fun e => by cases e⟩
          · clear F9 N9 s5
            intro live m ln1 h6 tk6 z97 S6
            refine hideG fun g9 hg9 => ?_
            obtain ⟨acc, tt6, chv, rfl, hacc6, hlive6, hdead6, hcnt6⟩ := z97
            refine hg9 ?_
            clear hg9 g9
            have hq6 : rdO left = (acc, []) := by
              cases live with
              | true => have e0 : _ = rdO left := hlive6 rfl; rw [← e0, rdQ]
              | false => exact hdead6 rfl
            repeat (refine wpAny_execs_nil ?_; (try dsimp only))
            exact hR1 _ _ <| LPost.nxt ⟨_, _, _, [], _, false, rfl, S6, ⟨acc, tt6, chv, rfl, hacc6, (fun e => by cases e), (fun _ => hq6), hcnt6⟩, Nat.zero_le _, fun _ => rfl⟩
  · intro live m ln1 h6 tk6 z98 S6
    refine hideG fun g9 hg9 => ?_
    obtain ⟨acc, tt6, chv, rfl, hacc6, hlive6, hdead6, hcnt6⟩ := z98
    refine hg9 ?_
    clear hg9 g9
    have hq6 : rdO left = (acc, []) := by
      cases live with
      | true =>
        refine hideG fun g9 hg9 => ?_
        obtain ⟨ea, eb⟩ := hlive6 rfl
        refine hg9 ?_
        clear hg9 g9
        rw [← eb, ea]; rfl
      | false => exact hdead6 rfl
    refine wpAny_execs_nil ?_
    dsimp only
    refine hideG fun g9 hg9 => ?_
    obtain ⟨F7', k1, k2, k3, k4, t1, t3, vl, nl, np, N7, s7⟩ := S6
    refine hg9 ?_
    clear hg9 g9
    have F7 := Fr.cong (m' := fun y => if y = PySem.Str.ofString "ch" then chv else if y = PySem.Str.ofString "fiter" then some (.ref I) else if y = PySem.Str.ofString "token" then some (.str (sx acc) tt6) else if y = PySem.Str.ofString "self" then some (.ref x) else none) F7' (fun y => rfl)
    change Fr (hideAll s.heap [x, dx, pb, l]) L h6 _ at F7
    change News _ L h6 _ at N7
    dsimp only at N7
    clear F7'
    repeat walk1
    refine hR0 _ _ ?_
    dsimp only
    intro ht9
    exact fin ⟨F7, _, _, _, _, _, _, _, _, _, N7, s7⟩ hq6 hcnt6 ht9
end Mine

end

theorem Mine.reset_M25 : True ∧ True := by
  w_top off
  walk1 <;> trivial
section
open PySem PySem.W PyProof.Rows PySem.Calls
set_option Elab.async false
set_option maxRecDepth 100000
set_option maxHeartbeats 1000000
namespace Mine

/-- a card as a word of a netrc text -/
noncomputable def markL (card : List Nat) (d : Nat) : List Nat := if d / 10 % 3 = 0 then [34, 92] else if d / 10 % 3 = 1 then card else [34, 92, 32, 10, 9, 13]
noncomputable def whiteL (d : Nat) : Nat := [32, 10, 9, 13].getD (d / 30 % 4) 0
noncomputable def spellL (mk : List Nat) (card : List Nat) : List Nat := card.flatMap fun c => if c ∈ mk then [92, c] else [c]
noncomputable def encL (card : List Nat) (d : Nat) : List Nat := if d / 10 % 3 = 0 then [whiteL d, 34] ++ spellL (markL card d) card ++ [34] else spellL (markL card d) card ++ [whiteL d]
noncomputable def textTo (cards : List (List Nat)) (ds : List Nat) (i : Nat) : List Nat := ((cards.zip ds).take i).flatMap fun p => encL p.1 p.2
noncomputable def textL (cards : List (List Nat)) (ds : List Nat) : List Nat := textTo cards ds cards.length ++ [46]

local macro_rules | `(tactic| walk_at "compareOp In str str") => `(tactic| refine in_mem (by assumption) ?_)
theorem spellL_len (mk cd : List Nat) : (spellL mk cd).length ≤ 2 * cd.length := by
  unfold spellL
  induction cd with
  | nil => simp
  | cons c r ih =>
    rw [List.flatMap_cons, List.length_append, List.length_cons]
    have : (if c ∈ mk then [92, c] else [c]).length ≤ 2 := by split <;> simp
    (first | lia | omega)
theorem encL_len (card : List Nat) (d : Nat) : (encL card d).length ≤ 2 * card.length + 3 := by
  have := spellL_len (markL card d) card
  unfold encL
  split <;> simp <;> (first | lia | omega)
theorem textTo_len (cards : List (List Nat)) (ds : List Nat) (i : Nat) (hc : ∀ c ∈ cards, c.length ≤ 5) : (textTo cards ds i).length ≤ 13 * i := by
  unfold textTo
  have key : ∀ l : List (List Nat × Nat), (∀ p ∈ l, p.1.length ≤ 5) → (l.flatMap fun p => encL p.1 p.2).length ≤ 13 * l.length := by
    intro l hl
    induction l with
    | nil => simp
    | cons p r ih =>
      rw [List.flatMap_cons, List.length_append, List.length_cons]
      have h1 := encL_len p.1 p.2
      have h2 := hl p (.head _)
      have h3 := ih fun q hq => hl q (.tail _ hq)
      (first | lia | omega)
  have h1 := key ((cards.zip ds).take i) fun p hp => hc _ (List.of_mem_zip (List.mem_of_mem_take hp)).1
  have h2 := List.length_take_le i (cards.zip ds)
  (first | lia | omega)
theorem textTo_snoc (cards : List (List Nat)) (ds : List Nat) (i : Nat) (h1 : i < cards.length) (h2 : i < ds.length) : textTo cards ds (i + 1) = textTo cards ds i ++ encL cards[i] ds[i] := by
  unfold textTo
  have hz : i < (cards.zip ds).length := by rw [List.length_zip]; (first | lia | omega)
  rw [List.take_add_one, List.getElem?_eq_getElem hz, List.flatMap_append]
  simp
theorem map_txt (T S W M K S' W' M' K' T' D C : Option Value) : (fun y : PySem.Str => if y = PySem.Str.ofString "text" then T else if y = PySem.Str.ofString "spelled" then S else if y = PySem.Str.ofString "white" then W else if y = PySem.Str.ofString "manner" then M else if y = PySem.Str.ofString "k" then K else if y = PySem.Str.ofString "spelled" then S' else if y = PySem.Str.ofString "white" then W' else if y = PySem.Str.ofString "manner" then M' else if y = PySem.Str.ofString "k" then K' else if y = PySem.Str.ofString "text" then T' else if y = PySem.Str.ofString "draws" then D else if y = PySem.Str.ofString "cards" then C else none) =
    fun y => if y = PySem.Str.ofString "spelled" then S else if y = PySem.Str.ofString "white" then W else if y = PySem.Str.ofString "manner" then M else if y = PySem.Str.ofString "k" then K else if y = PySem.Str.ofString "text" then T else if y = PySem.Str.ofString "draws" then D else if y = PySem.Str.ofString "cards" then C else none := by
  funext y
  by_cases q1 : y = PySem.Str.ofString "spelled"
  · subst q1; rfl
  by_cases q2 : y = PySem.Str.ofString "white"
  · subst q2; rfl
  by_cases q3 : y = PySem.Str.ofString "manner"
  · subst q3; rfl
  by_cases q4 : y = PySem.Str.ofString "k"
  · subst q4; rfl
  by_cases q5 : y = PySem.Str.ofString "text"
  · subst q5; rfl
  simp only [if_neg q1, if_neg q2, if_neg q3, if_neg q4, if_neg q5]
/-- what holds between two cards -/
inductive TextInv (cards : List (List Nat)) (ds : List Nat) (ld lc L : Addr) (i : Nat) (m : PySem.Str → Option Value) (news : List (Addr × Obj)) : Prop
  | mk (sp wh mn kv : Option Value) (tu : Tok) (em : m = fun y => if y = PySem.Str.ofString "spelled" then sp else if y = PySem.Str.ofString "white" then wh else if y = PySem.Str.ofString "manner" then mn else if y = PySem.Str.ofString "k" then kv else if y = PySem.Str.ofString "text" then some (.str (sx (textTo cards ds i)) tu) else if y = PySem.Str.ofString "draws" then some (.ref ld) else if y = PySem.Str.ofString "cards" then some (.ref lc) else none) (oc : Obj) (v : Option Value) (en : news = [(L + 1, oc)]) (hv : oc.data = .cell v) : TextInv cards ds ld lc L i m news

theorem text_ok {w : World} {A : Around} {s : Shared} {Q : Value → Shared → Prop} {E : Value → Shared → Prop} (G : Gd w s.heap) (hA : AOk A 4) {lc ld : Addr} {vc vd : List Value} {cards : List (List Nat)} {ds : List Nat}
    (hc : s.heap.IsList lc vc.toArray) (hcs : StrsAre vc (cards.map sx)) (hd' : s.heap.IsList ld vd.toArray) (hds : IntsAre vd (ds.map Int.ofNat)) (hln : cards.length ≤ 8) (hle : ds.length = cards.length)
    (hcl : ∀ c ∈ cards, c.length ≤ 5) (hdb : ∀ d ∈ ds, d ≤ 100000000)
    (h : ∀ h' tk u, s.toks ≤ tk → Grow s.heap h' → Q (.str (sx (textL cards ds)) u) { s with heap := h', toks := tk }) :
   wpAny (model PG w) A (call (.ref 125) [.ref lc, .ref ld]) Q E s := by
  have G' := G
  refine hideG fun g9 hg9 => ?_
  obtain ⟨X, p, loose, mean, mg, mb, T⟩ := G
  refine hg9 ?_
  clear hg9 g9
  refine hideG fun g9 hg9 => ?_
  obtain ⟨hh, dp, fr, gd, un⟩ := A
  refine hg9 ?_
  clear hg9 g9
  refine hideG fun g9 hg9 => ?_
  obtain rfl : hh = none := hA.hand
  refine hg9 ?_
  clear hg9 g9
  refine wpAny_with_toks (Nat.le_refl s.toks) ?_
  refine wpAny_call ?_
  refine' enterKC (h₀ := s.heap) (fun _ _ e => e) (Nat.le_refl _) (news := []) (fun _ hp => nomatch hp) X T.nolimit ?ho ?hcd hA.room ?hbind ?hkind ?hnd ?_ ?c1 ?c2 ?c3
  ((case ho => k_is); (case hcd => k_is); (case hbind => exact BindsTo.of_eq rfl); (case hkind => exact rfl); (case hnd => decide +kernel); (case c1 => exact rfl); (case c2 => exact rfl); (case c3 => exact rfl))
  intro L h₁ tk0 cells htk F N Y hlt hL hLt hk
  k_cells Y
  simp only [List.cons_append, List.nil_append] at N
  dsimp only
  have F0 : Fr s.heap L h₁ (fun y => if y = PySem.Str.ofString "draws" then some (.ref ld) else if y = PySem.Str.ofString "cards" then some (.ref lc) else none) := Fr.cong F (fun y => by rfl)
  clear F
  rename_i oc hoc
  have hoc2 : ∃ v, oc.data = .cell v := ⟨_, hoc⟩
  clear hoc
  have hcl0 := hcs.length
  rw [List.length_map] at hcl0
  repeat ((fail_if_success (with_reducible show wpAny _ _ (exec (Stmt.For _ _ _ _ _) _) _ _ _)); walk1)
  refine for_raw ?_
  repeat walk1
  (with_reducible rename Fr _ _ _ _ => F1)
  (with_reducible rename News _ _ _ _ => N1)
  refine len_sx (hc.at fun o e => F1.keep _ o e) hcs (by (first | lia | omega)) ?_
  repeat ((fail_if_success (with_reducible show _ → _)); walk1)
  intro hts
  rename_i hR F1 N1 hk1
  have hrs := range_small0 (n := cards.length) (by (first | lia | omega))
  refine loop_range (n := cards.length) (TextInv cards ds ld lc L)
    rfl rfl rfl hR hrs.1 hrs.2 F1 N1 ⟨none, none, none, none, tk0, ?_, oc, hoc2.choose, rfl, hoc2.choose_spec⟩ ?_ ?_ ?_
  · funext y
    by_cases q1 : y = PySem.Str.ofString "spelled"
    · subst q1; rfl
    by_cases q2 : y = PySem.Str.ofString "white"
    · subst q2; rfl
    by_cases q3 : y = PySem.Str.ofString "manner"
    · subst q3; rfl
    by_cases q4 : y = PySem.Str.ofString "k"
    · subst q4; rfl
    rw [if_neg q1, if_neg q2, if_neg q3, if_neg q4]
    rfl
  · intro i m₁ news₁ z91 p hp
    refine hideG fun g9 hg9 => ?_
    obtain ⟨-, -, -, -, -, -, oc, v, rfl, -⟩ := z91
    refine hg9 ?_
    clear hg9 g9
    rcases List.mem_singleton.mp hp with rfl
    simp
  · intro i m₁ news₁ h3 tk3 I o t3 hi2 z92 htk3 hLI hnI F3 N3
    refine hideG fun g9 hg9 => ?_
    obtain ⟨sp, wh, mn, kv, tu, rfl, oc, ov, rfl, hov⟩ := z92
    refine hg9 ?_
    clear hg9 g9
    change Fr s.heap L h3 _ at F3
    change News s.heap L h3 _ at N3
    clear N1 F1 hk1 hR hrs
    have e0 : (0 : Int) + (i : Int) = (i : Int) := Int.zero_add _
    rw [e0] at F3
    have hi3 : i < ds.length := by (first | lia | omega)
    have eg : (List.map Int.ofNat ds).getD ((i : Int)).toNat 0 = ((ds[i] : Nat) : Int) := by
      rw [Int.toNat_natCast]; simp [List.getD, hi3]
    have em : ((((List.map Int.ofNat ds).getD ((i : Int)).toNat 0).fdiv 10).fmod 3) = ((ds[i] / 10 % 3 : Nat) : Int) := by
      rw [eg, Int.fmod_eq_emod_of_nonneg _ (by decide), Int.fdiv_eq_ediv_of_nonneg _ (by decide)]; (first | lia | omega)
    have ew : ((((List.map Int.ofNat ds).getD ((i : Int)).toNat 0).fdiv 30).fmod 4) = ((ds[i] / 30 % 4 : Nat) : Int) := by
      rw [eg, Int.fmod_eq_emod_of_nonneg _ (by decide), Int.fdiv_eq_ediv_of_nonneg _ (by decide)]; (first | lia | omega)
    refine hold fun R1 hR1 => ?_
    iterate 12 walk1
    rw [em]
    iterate 15 walk1
    rw [ew, show PySem.Str.ofString " \n\t\r" = sx [32, 10, 9, 13] by decide +kernel]
    have hw4 : ds[i] / 30 % 4 < 4 := Nat.mod_lt _ (by decide)
    refine item_text (by exact hw4) (by decide) ?_
    intro wt wk
    have ewh : ([32, 10, 9, 13] : List Nat)[ds[i] / 30 % 4]'hw4 = whiteL ds[i] := by
      unfold whiteL; simp [List.getD, hw4]
    rw [ewh]
    iterate 11 walk1
    (with_reducible rename Fr _ _ _ _ => F4)
    (with_reducible rename News _ _ _ _ => N4)
    refine item_sx (hc.at fun o e => F4.keep _ o e) hcs hi2 (by (first | lia | omega)) ?_
    intro ct
    iterate 5 walk1
    (with_reducible rename Fr _ _ _ _ => F5)
    (with_reducible rename News _ _ _ _ => N5)
    have l0 : L + 1 < I := hnI _ (.head _)
    k_lt2 l0
    have hm3 : ds[i] / 10 % 3 < 3 := Nat.mod_lt _ (by decide)
    rw [show PySem.Str.ofString "\"\\" = sx [34, 92] by decide +kernel, show PySem.Str.ofString "\"\\ \n\t\r" = sx [34, 92, 32, 10, 9, 13] by decide +kernel] at N5
    refine item_sxR (cards := [[34, 92], cards[i], [34, 92, 32, 10, 9, 13]]) (vs := [_, _, _]) ⟨_, (N5 _ (.head _)).1, rfl, _, rfl⟩ (.cons _ _ (.cons _ _ (.cons _ _ .nil))) hm3 (by show 3 ≤ 1000000; decide) ?_
    intro mt
    have emk : ([[34, 92], cards[i], [34, 92, 32, 10, 9, 13]] : List (List Nat))[ds[i] / 10 % 3]'hm3 = markL cards[i] ds[i] := by
      unfold markL
      have : ds[i] / 10 % 3 = 0 ∨ ds[i] / 10 % 3 = 1 ∨ ds[i] / 10 % 3 = 2 := by (first | lia | omega)
      rcases this with q | q | q <;> simp [q]
    rw [emk]
    dsimp only
    dsimp only at F5
    refine' storeX_C F5 N5 ?c ?U hov ?_ ?a ?b
    (case a => rfl)
    (case b => rfl)
    (case c => rfl)
    (case U => k_updF)
    intro h6 oc2 F6 N6 hoc2
    iterate 8 walk1
    have ecl : cards[i].length ≤ 5 := hcl _ (List.getElem_mem hi2)
    refine ListComp_S (h₀ := s.heap) (L := L) F6 (by with_unfolding_all rfl) (by decide) rfl (by decide) rfl ?_
    iterate 3 walk1
    refine item_sx (hc.at fun o e => F6.keep _ o e) hcs hi2 (by (first | lia | omega)) ?_
    intro ct2
    refine ⟨_, _, _, rfl, rfl, F6, N6, by (first | lia | omega), ?_⟩
    intro s₂ z93
    refine hideG fun g9 hg9 => ?_
    obtain ⟨g, rfl⟩ := z93
    refine hg9 ?_
    clear hg9 g9
    generalize hcd : cards[i] = cd at *
    generalize hmk : markL cd ds[i] = mk at *
    refine comp_inv (fun j ys news => news = [(_, _), (I, o), (L + 1, oc2)] ∧ StrsAre ys (((cd.take j).map fun c => if c ∈ mk then [92, c] else [c]).map sx)) ⟨rfl, .nil⟩ ?_ ?_
    · intro j ys news v I2 oI C oC D m₂ h7 tk7 E' hj z94 z95 hoC hm₂ F7 N7 off ne
      refine hideG fun g9 hg9 => ?_
      obtain ⟨c, u, hcj, rfl⟩ := z94
      obtain ⟨rfl, hys⟩ := z95
      refine hg9 ?_
      clear hg9 g9
      have hcj2 : cd[j] = c := by
        have : (sx cd).cps[j]? = some cd[j] := by simp [sx, hj]
        rw [this] at hcj
        exact Option.some.inj hcj
      change m₂ _ = some (.str (sx [c]) u) at hm₂
      have etk : (cd.take (j + 1)).map (fun c => if c ∈ mk then [92, c] else [c]) = (cd.take j).map (fun c => if c ∈ mk then [92, c] else [c]) ++ [if c ∈ mk then [92, c] else [c]] := by
        rw [List.take_add_one, List.getElem?_eq_getElem hj, hcj2]; simp
      refine hold fun R2 hR2 => ?_
      by_cases hin : c ∈ mk
      · have hb : decide (c ∈ mk) = true := decide_eq_true hin
        rw [if_pos hin] at etk
        repeat ((fail_if_success (with_reducible refine hR2 _ _ ?_)); walk1)
        refine hR2 _ _ (LCg.CompEnd.intro F7 N7 _ (fun _ h => h) off trivial ⟨rfl, ?_⟩)
        rw [etk, List.map_append, show PySem.Str.ofString "\\" = sx [92] by decide +kernel, sx_app]
        exact strsAre_snoc hys
      · have hb : decide (c ∈ mk) = false := decide_eq_false hin
        rw [if_neg hin] at etk
        repeat ((fail_if_success (with_reducible refine hR2 _ _ ?_)); walk1)
        refine hR2 _ _ (LCg.CompEnd.intro F7 N7 _ (fun _ h => h) off trivial ⟨rfl, ?_⟩)
        rw [etk, List.map_append, show PySem.Str.ofString "" = sx [] by decide +kernel, sx_app]
        exact strsAre_snoc hys
    · intro ys news z96
      refine hideG fun g9 hg9 => ?_
      obtain ⟨rfl, hys⟩ := z96
      refine hg9 ?_
      clear hg9 g9
      rw [List.take_length] at hys
      intro D h8 tk8 F8 N8 off8
      clear F6 N6
      walk1
      have hsl := spellL_len mk cd
      have htl := textTo_len cards ds i hcl
      have hil := encL_len cd ds[i]
      have hjn : ((cd.map fun c => if c ∈ mk then [92, c] else [c])).flatten = spellL mk cd := by unfold spellL; rw [List.flatMap_def]
      have hw := sumLen_le (cd.map fun c => if c ∈ mk then [92, c] else [c]) 2 (fun x hx => by
        refine hideG fun g9 hg9 => ?_
        obtain ⟨c, -, rfl⟩ := List.mem_map.mp hx
        refine hg9 ?_
        clear hg9 g9
        split <;> simp)
      rw [List.length_map] at hw
      refine join_listW (items := ys.toArray) (ys := (cd.map fun c => if c ∈ mk then [92, c] else [c]).map sx) ⟨_, (N8 (D, _) (.head _)).1, rfl, _, rfl⟩ hys (by decide +kernel) (by rw [List.length_map, List.length_map]; (first | lia | omega)) ?_
      intro t' k
      rw [join_nil, hjn]
      have est := textTo_snoc cards ds i hi2 hi3
      rw [hcd] at est
      dsimp only
      iterate 3 walk1
      have q1 : (sx (spellL mk cd)).length ≤ 20 := by rw [sx_len]; (first | lia | omega)
      have q2 : (sx (textTo cards ds i)).length ≤ 200 := by rw [sx_len]; (first | lia | omega)
      have q3 : (sx [whiteL ds[i]]).length ≤ 1 := by rw [sx_len]; exact Nat.le_refl _
      clear off8 hys
      repeat ((fail_if_success (with_reducible refine hR1 _ _ ?_)); walk1)
      · have hm0 : ds[i] / 10 % 3 = 0 := by (first | lia | omega)
        (with_reducible rename Fr _ _ _ _ => F9)
        (with_reducible rename News _ _ _ _ => N9)
        have eT : sx (textTo cards ds i) ++ (sx [whiteL ds[i]] ++ PySem.Str.ofString "\"" ++ sx (spellL mk cd) ++ PySem.Str.ofString "\"") = sx (textTo cards ds (i + 1)) := by
          rw [est, show PySem.Str.ofString "\"" = sx [34] by decide +kernel, sx_app, sx_app, sx_app, sx_app]
          unfold encL
          rw [if_pos hm0, hmk]
          simp
        rw [eT] at F9
        exact hR1 _ _ (LPost.nxt (TurnEnd.mk (news₂ := [(L + 1, oc2)]) F9 N9 (by simp) (by simp) ⟨_, _, _, _, _, map_txt _ _ _ _ _ _ _ _ _ _ _ _, _, _, rfl, hoc2⟩))
      · repeat ((fail_if_success (with_reducible refine hR1 _ _ ?_)); walk1)
        have hm0 : ds[i] / 10 % 3 ≠ 0 := by (first | lia | omega)
        (with_reducible rename Fr _ _ _ _ => F9)
        (with_reducible rename News _ _ _ _ => N9)
        have eT : sx (textTo cards ds i) ++ (sx (spellL mk cd) ++ sx [whiteL ds[i]]) = sx (textTo cards ds (i + 1)) := by
          rw [est, sx_app, sx_app]
          unfold encL
          rw [if_neg hm0, hmk]
        rw [eT] at F9
        exact hR1 _ _ (LPost.nxt (TurnEnd.mk (news₂ := [(L + 1, oc2)]) F9 N9 (by simp) (by simp) ⟨_, _, _, _, _, map_txt _ _ _ _ _ _ _ _ _ _ _ _, _, _, rfl, hoc2⟩))
  · intro m₁ news₁ h3 tk3 z97 htk3 F3 N3
    refine hideG fun g9 hg9 => ?_
    obtain ⟨sp, wh, mn, kv, tu, rfl, oc, ov, rfl, hov⟩ := z97
    refine hg9 ?_
    clear hg9 g9
    change Fr s.heap L h3 _ at F3
    change News s.heap L h3 _ at N3
    clear N1 F1 hk1 hR hrs
    have htl := textTo_len cards ds cards.length hcl
    have q2 : (sx (textTo cards ds cards.length)).length ≤ 200 := by rw [sx_len]; (first | lia | omega)
    refine wpAny_execs_nil ?_
    dsimp only
    repeat walk1
    rename_i ht9
    rw [show PySem.Str.ofString "." = sx [46] by decide +kernel, sx_app]
    exact h _ _ _ ht9 ⟨Nat.le_of_lt (hL ▸ F3.ns.lt), F3.keep⟩
end Mine

end

theorem Mine.reset_L0 : True ∧ True := by
  w_top off
  walk1 <;> trivial
section
open PySem PySem.W PyProof.Rows PySem.Calls
set_option Elab.async false
set_option maxRecDepth 100000
set_option maxHeartbeats 1000000
namespace Mine
noncomputable def lawBody : List Stmt := defBody (nthS PySem.Challenge.pw_wn0077_01.main.body 20)
noncomputable def lawScope : Scope := defScope (nthS PySem.Challenge.pw_wn0077_01.main.body 20)
noncomputable abbrev lawEnv (L fa : Addr) (cd : Value) : Env := envOfC (PySem.Str.ofString "law") lawScope L fa cd
theorem off1_ne {D : Addr} : ∀ {l : List (Addr × Obj)}, LCg.Off1 D l → ∀ p : Addr × Obj, p ∈ l → p.1 ≠ D
  | [], _, _, h => nomatch h
  | _ :: _, x, p, h => by
    rcases List.mem_cons.mp h with rfl | h
    · exact x.1
    · exact off1_ne x.2 p h
theorem news_new {h₀ h h' : Heap} {L x : Addr} {m : PySem.Str → Option Value} {news : List (Addr × Obj)} {o : Obj} (F : Fr h₀ L h m) (N : News h₀ L h news) (g : Grow h h') (hf : h.get? x = none) (hx : h'.get? x = some o) :
    Fr h₀ L h' m ∧ News h₀ L h' ((x, o) :: news) ∧ ∀ p ∈ news, p.1 ≠ x := by
  refine ⟨Fr.grow F g, fun p hp => ?_, fun p hp e => ?_⟩
  · rcases List.mem_cons.mp hp with rfl | hp
    · refine ⟨hx, fun e => ?_, ?_⟩
      · obtain ⟨oL, _, _, hL, _⟩ := F.ns
        rw [show x = L from e, hL] at hf; cases hf
      · cases q : h₀.get? x with
        | none => rfl
        | some o' => rw [F.keep _ _ q] at hf; cases hf
    · exact News.grow N g p hp
  · rw [← e, (N p hp).1] at hf; cases hf
end Mine

end

theorem Mine.reset_LA5 : True ∧ True := by
  w_top off
  walk1 <;> trivial
section
open PySem PySem.W PyProof.Rows PySem.Calls
set_option Elab.async false
set_option maxRecDepth 100000
set_option maxHeartbeats 4000000
namespace Mine
theorem fm_le (x : Int) (k : Nat) (hk : 0 < k) : ∃ n : Nat, x.fmod (k : Int) = (n : Int) ∧ n < k := by
  have h1 := Int.fmod_nonneg_of_pos x (b := (k : Int)) (by (first | lia | omega))
  have h2 := Int.fmod_lt_of_pos x (b := (k : Int)) (by (first | lia | omega))
  exact ⟨(x.fmod k).toNat, by (first | lia | omega), by (first | lia | omega)⟩
theorem fm_one (x : Int) (k : Nat) (hk : 0 < k) : ∃ n : Nat, 1 + x.fmod (k : Int) = (n : Int) ∧ 1 ≤ n ∧ n ≤ k := by
  refine hideG fun g9 hg9 => ?_
  obtain ⟨n, e, h⟩ := fm_le x k hk
  refine hg9 ?_
  clear hg9 g9
  exact ⟨n + 1, by (first | lia | omega), by (first | lia | omega), by (first | lia | omega)⟩
theorem ab_le {c : Int} (x : Int) (hc : c = 1 ∨ c = 0 ∨ c = -1) : (c * (1 + x.fmod 15)).natAbs ≤ 15 := by
  refine hideG fun g9 hg9 => ?_
  obtain ⟨n, e, h⟩ := fm_le x 15 (by decide)
  refine hg9 ?_
  clear hg9 g9
  rw [show ((15 : Nat) : Int) = 15 from rfl] at e
  rw [e]
  rcases hc with rfl | rfl | rfl <;> (first | lia | omega)
theorem law_A {w : World} {h₀ : Heap} {s : Shared} {L fa : Addr} {cd : Value} {dp : Nat} {fr : Option (List Env)} {gd : Option (List Code)} {un : Nat} {Q : Flow → Shared → Prop} {rest : List Stmt} (G : Gd w h₀) (hA : AOk (Around.deeper ⟨none, dp, fr, gd, un⟩ (envOfC (PySem.Str.ofString "law") lawScope L fa cd)) 20) {sc : Addr} {sv : List Value} {ns : List Int} {oD oS oR oH : Obj} {gH : Option Value} (hsc : h₀.IsList sc sv.toArray) (hns : IntsAre sv ns) (hln : ns.length ≤ 63) (dH : oH.data = .cell gH) (l0 : @LT.lt Nat _ 127 L)
    (F : Fr h₀ L s.heap (fun y => if y = PySem.Str.ofString "script" then some (.ref sc) else none)) (N : News h₀ L s.heap [(L + 1 + 1 + 1 + 1, oD), (L + 1 + 1 + 1, oS), (L + 1 + 1, oR), (L + 1, oH), (127, tabObj #[])])
    (hk : ∀ h' tk HL hv hn hs oH2 half times first shift ts tf tt th, Fr h₀ L h' (fun y => if y = PySem.Str.ofString "shift" then some (.int (shift : Nat) ts) else if y = PySem.Str.ofString "first" then some (.int (first : Nat) tf) else if y = PySem.Str.ofString "times" then some (.int (times : Nat) tt) else if y = PySem.Str.ofString "half" then some (.int (half : Nat) th) else if y = PySem.Str.ofString "script" then some (.ref sc) else none) → News h₀ L h' [(HL, listOf (List.toArray hv) hn), (L + 1 + 1 + 1 + 1, oD), (L + 1 + 1 + 1, oS), (L + 1 + 1, oR), (L + 1, oH2), (127, tabObj #[])] → oH2.data = .cell (some (.ref HL)) → IntsAre hv hs → hs.length = 5 → (∀ y ∈ hs, 0 ≤ y ∧ y ≤ 100000000) → (1 ≤ half ∧ half ≤ 4) → (1 ≤ times ∧ times ≤ 10) → first < 5 → shift ≤ 22 → (@Ne Nat (L + 1 + 1 + 1 + 1) HL ∧ @Ne Nat (L + 1 + 1 + 1) HL ∧ @Ne Nat (L + 1 + 1) HL ∧ @Ne Nat (L + 1) HL ∧ @Ne Nat 127 HL) → wpAny (model PG w) (Around.deeper ⟨none, dp, fr, gd, un⟩ (envOfC (PySem.Str.ofString "law") lawScope L fa cd)) (execs rest (envOfC (PySem.Str.ofString "law") lawScope L fa cd)) Q NoE { s with heap := h', toks := tk }) :
    wpAny (model PG w) (Around.deeper ⟨none, dp, fr, gd, un⟩ (envOfC (PySem.Str.ofString "law") lawScope L fa cd)) (execs (nthS lawBody 0 :: nthS lawBody 1 :: nthS lawBody 2 :: nthS lawBody 3 :: nthS lawBody 4 :: rest) (envOfC (PySem.Str.ofString "law") lawScope L fa cd)) Q NoE s := by
  have G' := G
  refine hideG fun g9 hg9 => ?_
  obtain ⟨X, p, loose, mean, mg, mb, T⟩ := G
  refine hg9 ?_
  clear hg9 g9
  have eS : lawScope = lawScope := rfl
  conv at eS => rhs; whnf
  have eT0 : nthS lawBody 0 = nthS lawBody 0 := rfl
  conv at eT0 => rhs; whnf
  have eT1 : nthS lawBody 1 = nthS lawBody 1 := rfl
  conv at eT1 => rhs; whnf
  have eT2 : nthS lawBody 2 = nthS lawBody 2 := rfl
  conv at eT2 => rhs; whnf
  have eT3 : nthS lawBody 3 = nthS lawBody 3 := rfl
  conv at eT3 => rhs; whnf
  have eT4 : nthS lawBody 4 = nthS lawBody 4 := rfl
  conv at eT4 => rhs; whnf
  rw [eT0, eT1, eT2, eT3, eT4]
  simp only [eS] at hA hk ⊢
  clear eS eT0 eT1 eT2 eT3 eT4
  repeat walk1
  refine heaps_ok (by exact G'.keeps F.keep) (AOk.le hA (by decide)) (hsc.at fun o e => F.keep _ o e) hns hln ?_
  intro h1 tk1 HL hv hn hs _ hf hx hhs h5 hbd g1
  refine hideG fun g9 hg9 => ?_
  obtain ⟨F1, N1, nn⟩ := news_new F N g1 hf hx
  refine hg9 ?_
  clear hg9 g9
  clear F N
  refine' storeX_C F1 N1 ?c ?U dH ?_ ?a ?b
  (case a => rfl)
  (case b => rfl)
  (case c => rfl)
  (case U => exact .tail (Ne.symm (nn (L + 1, oH) (.tail _ (.tail _ (.tail _ (.head _)))))) (.tail (Nat.ne_of_gt (by dsimp only; (first | lia | omega))) (.tail (Nat.ne_of_gt (by dsimp only; (first | lia | omega))) (.tail (Nat.ne_of_gt (by dsimp only; (first | lia | omega))) (.head (by intro q hq; rw [List.mem_singleton.mp hq]; exact Nat.ne_of_lt (by dsimp only; (first | lia | omega))))))))
  intro h2 oH2 F2 N2 dH2
  clear F1 N1
  repeat walk1
  (with_reducible rename Fr _ _ _ _ => F9)
  (with_reducible rename News _ _ _ _ => N9)
  refine hideG fun g9 hg9 => ?_
  obtain ⟨half, e1, b1⟩ := fm_one (hs.getD (Int.toNat 0) 0) 4 (by decide)
  refine hg9 ?_
  clear hg9 g9
  refine hideG fun g9 hg9 => ?_
  obtain ⟨times, e2, b2⟩ := fm_one ((hs.getD (Int.toNat 0) 0).fdiv 4) 10 (by decide)
  refine hg9 ?_
  clear hg9 g9
  refine hideG fun g9 hg9 => ?_
  obtain ⟨first, e3, b3⟩ := fm_le ((hs.getD (Int.toNat 0) 0).fdiv 40) 5 (by decide)
  refine hg9 ?_
  clear hg9 g9
  refine hideG fun g9 hg9 => ?_
  obtain ⟨shift, e4, b4⟩ := fm_le ((hs.getD (Int.toNat 0) 0).fdiv 200) 23 (by decide)
  refine hg9 ?_
  clear hg9 g9
  rw [show ((4 : Nat) : Int) = 4 from rfl] at e1
  rw [show ((10 : Nat) : Int) = 10 from rfl] at e2
  rw [show ((5 : Nat) : Int) = 5 from rfl] at e3
  rw [show ((23 : Nat) : Int) = 23 from rfl] at e4
  dsimp only at F9
  rw [e1, e2, e3, e4] at F9
  refine hk _ _ HL hv hn hs oH2 half times first shift _ _ _ _ F9 N9 dH2 hhs h5 hbd b1 b2 b3 (Nat.le_of_lt_succ b4) ⟨nn _ (.head _), nn _ (.tail _ (.head _)), nn _ (.tail _ (.tail _ (.head _))), nn (L + 1, oH) (.tail _ (.tail _ (.tail _ (.head _)))), nn _ (.tail _ (.tail _ (.tail _ (.tail _ (.head _)))))⟩
theorem law_5 {w : World} {h₀ : Heap} {s : Shared} {L fa : Addr} {cd : Value} {dp : Nat} {fr : Option (List Env)} {gd : Option (List Code)} {un : Nat} {Q : Flow → Shared → Prop} {rest : List Stmt} (G : Gd w h₀) (hA : AOk (Around.deeper ⟨none, dp, fr, gd, un⟩ (envOfC (PySem.Str.ofString "law") lawScope L fa cd)) 20) {sc : Addr} {HL hn half times first shift : Nat} {ts tf tt th : Tok} {hv : List Value} {hs : List Int} {oD oS oR oH : Obj} (dH : oH.data = .cell (some (.ref HL))) (hhs : IntsAre hv hs) (h5 : hs.length = 5) (hbd : ∀ y ∈ hs, 0 ≤ y ∧ y ≤ 100000000)
    (F : Fr h₀ L s.heap (fun y => if y = PySem.Str.ofString "shift" then some (.int (shift : Nat) ts) else if y = PySem.Str.ofString "first" then some (.int (first : Nat) tf) else if y = PySem.Str.ofString "times" then some (.int (times : Nat) tt) else if y = PySem.Str.ofString "half" then some (.int (half : Nat) th) else if y = PySem.Str.ofString "script" then some (.ref sc) else none)) (N : News h₀ L s.heap [(HL, listOf (List.toArray hv) hn), (L + 1 + 1 + 1 + 1, oD), (L + 1 + 1 + 1, oS), (L + 1 + 1, oR), (L + 1, oH), (127, tabObj #[])])
    (hk : ∀ h' tk above ta, Fr h₀ L h' (fun y => if y = PySem.Str.ofString "above" then some (.int above ta) else if y = PySem.Str.ofString "shift" then some (.int (shift : Nat) ts) else if y = PySem.Str.ofString "first" then some (.int (first : Nat) tf) else if y = PySem.Str.ofString "times" then some (.int (times : Nat) tt) else if y = PySem.Str.ofString "half" then some (.int (half : Nat) th) else if y = PySem.Str.ofString "script" then some (.ref sc) else none) → News h₀ L h' [(HL, listOf (List.toArray hv) hn), (L + 1 + 1 + 1 + 1, oD), (L + 1 + 1 + 1, oS), (L + 1 + 1, oR), (L + 1, oH), (127, tabObj #[])] → above.natAbs ≤ 15 → 0 < tk → wpAny (model PG w) (Around.deeper ⟨none, dp, fr, gd, un⟩ (envOfC (PySem.Str.ofString "law") lawScope L fa cd)) (execs rest (envOfC (PySem.Str.ofString "law") lawScope L fa cd)) Q NoE { s with heap := h', toks := tk }) :
    wpAny (model PG w) (Around.deeper ⟨none, dp, fr, gd, un⟩ (envOfC (PySem.Str.ofString "law") lawScope L fa cd)) (execs (nthS lawBody 5 :: rest) (envOfC (PySem.Str.ofString "law") lawScope L fa cd)) Q NoE s := by
  have G' := G
  refine hideG fun g9 hg9 => ?_
  obtain ⟨X, p, loose, mean, mg, mb, T⟩ := G
  refine hg9 ?_
  clear hg9 g9
  have eS : lawScope = lawScope := rfl
  conv at eS => rhs; whnf
  have eT5 : nthS lawBody 5 = nthS lawBody 5 := rfl
  conv at eT5 => rhs; whnf
  rw [eT5]
  simp only [eS] at hA hk ⊢
  clear eS eT5
  repeat' walk1
  all_goals
    (with_reducible rename Fr _ _ _ _ => F9)
    (with_reducible rename News _ _ _ _ => N9)
    exact hk _ _ _ _ F9 (fun q hq => N9 q (.tail _ hq)) (ab_le _ (by decide)) (Nat.succ_pos _)
end Mine

end

theorem Mine.reset_L6 : True ∧ True := by
  w_top off
  walk1 <;> trivial
section
open PySem PySem.W PyProof.Rows PySem.Calls
set_option Elab.async false
set_option maxRecDepth 100000
set_option maxHeartbeats 4000000
namespace Mine
theorem law_6 {w : World} {h₀ : Heap} {s : Shared} {L fa : Addr} {cd : Value} {dp : Nat} {fr : Option (List Env)} {gd : Option (List Code)} {un : Nat} {Q : Flow → Shared → Prop} {rest : List Stmt} (G : Gd w h₀) (hA : AOk (Around.deeper ⟨none, dp, fr, gd, un⟩ (envOfC (PySem.Str.ofString "law") lawScope L fa cd)) 20) {sc HL : Addr} {hn half times first shift : Nat} {above : Int} {ta ts tf tt th : Tok} {hv : List Value} {hs : List Int} {oD oS oR oH : Obj} {gR : Option Value} (dH : oH.data = .cell (some (.ref HL))) (dR : oR.data = .cell gR) (hhs : IntsAre hv hs) (h5 : hs.length = 5) (hbd : ∀ y ∈ hs, 0 ≤ y ∧ y ≤ 100000000) (hhf : 1 ≤ half ∧ half ≤ 4) (nR : L + 1 + 1 ≠ HL) (l0 : @LT.lt Nat _ 127 L)
    (F : Fr h₀ L s.heap (fun y => if y = PySem.Str.ofString "above" then some (.int above ta) else if y = PySem.Str.ofString "shift" then some (.int (shift : Nat) ts) else if y = PySem.Str.ofString "first" then some (.int (first : Nat) tf) else if y = PySem.Str.ofString "times" then some (.int (times : Nat) tt) else if y = PySem.Str.ofString "half" then some (.int (half : Nat) th) else if y = PySem.Str.ofString "script" then some (.ref sc) else none)) (N : News h₀ L s.heap [(HL, listOf (List.toArray hv) hn), (L + 1 + 1 + 1 + 1, oD), (L + 1 + 1 + 1, oS), (L + 1 + 1, oR), (L + 1, oH), (127, tabObj #[])])
    (hk : ∀ h' tk DL dv dn (ds : List Nat) oR2, Fr h₀ L h' (fun y => if y = PySem.Str.ofString "above" then some (.int above ta) else if y = PySem.Str.ofString "shift" then some (.int (shift : Nat) ts) else if y = PySem.Str.ofString "first" then some (.int (first : Nat) tf) else if y = PySem.Str.ofString "times" then some (.int (times : Nat) tt) else if y = PySem.Str.ofString "half" then some (.int (half : Nat) th) else if y = PySem.Str.ofString "script" then some (.ref sc) else none) → News h₀ L h' [(DL, listOf (List.toArray dv) dn), (HL, listOf (List.toArray hv) hn), (L + 1 + 1 + 1 + 1, oD), (L + 1 + 1 + 1, oS), (L + 1 + 1, oR2), (L + 1, oH), (127, tabObj #[])] → oR2.data = .cell (some (.ref DL)) → IntsAre dv (ds.map Int.ofNat) → ds.length = 2 * half → (∀ d ∈ ds, d ≤ 100000000) → (∀ p : Addr × Obj, p ∈ [(HL, listOf (List.toArray hv) hn), (L + 1 + 1 + 1 + 1, oD), (L + 1 + 1 + 1, oS), (L + 1 + 1, oR), (L + 1, oH), (127, tabObj #[])] → p.1 ≠ DL) → wpAny (model PG w) (Around.deeper ⟨none, dp, fr, gd, un⟩ (envOfC (PySem.Str.ofString "law") lawScope L fa cd)) (execs rest (envOfC (PySem.Str.ofString "law") lawScope L fa cd)) Q NoE { s with heap := h', toks := tk }) :
    wpAny (model PG w) (Around.deeper ⟨none, dp, fr, gd, un⟩ (envOfC (PySem.Str.ofString "law") lawScope L fa cd)) (execs (nthS lawBody 6 :: rest) (envOfC (PySem.Str.ofString "law") lawScope L fa cd)) Q NoE s := by
  have G' := G
  refine hideG fun g9 hg9 => ?_
  obtain ⟨X, p, loose, mean, mg, mb, T⟩ := G
  refine hg9 ?_
  clear hg9 g9
  have eS : lawScope = lawScope := rfl
  conv at eS => rhs; whnf
  have eT6 : nthS lawBody 6 = nthS lawBody 6 := rfl
  conv at eT6 => rhs; whnf
  rw [eT6]
  simp only [eS] at hA hk ⊢
  clear eS eT6
  iterate 2 walk1
  refine LCg.ListComp_U F (by with_unfolding_all rfl) (by decide) rfl (by decide) rfl ?_
  iterate 10 walk1
  rename_i hR F2 N2 hk2
  have e2 : (2 : Int) * (half : Int) = ((2 * half : Nat) : Int) := by (first | lia | omega)
  rw [e2] at hR
  have hrs := range_small0 (n := 2 * half) (by (first | lia | omega))
  refine LCg.CompSrc.range rfl F2 N2 hR hrs.1 hrs.2 (by rw [sizeLine_eq]; (first | lia | omega)) ?_
  intro g
  refine comp_inv (fun j ys news => news = _ ∧ ∃ ds : List Nat, ds.length = j ∧ (∀ d ∈ ds, d ≤ 100000000) ∧ IntsAre ys (ds.map Int.ofNat)) ⟨rfl, [], rfl, (fun _ h => nomatch h), .nil⟩ ?_ ?_
  · intro j ys news v I2 oI C oC D2 m₂ h7 tk7 E' hj z91 z92 hoC hm₂ F7 N7 off ne
    refine hideG fun g9 hg9 => ?_
    obtain ⟨tv, rfl⟩ := z91
    obtain ⟨rfl, ds, hdl, hdb, hys⟩ := z92
    refine hg9 ?_
    clear hg9 g9
    clear F2 N2 hR hk2 hrs
    have ez : (0 : Int) + (j : Int) = (j : Int) := by (first | lia | omega)
    rw [ez] at hm₂
    have hD7 := (N7 (HL, listOf hv.toArray hn) (.tail _ (.tail _ (.tail _ (.head _))))).1
    refine hold fun R2 hR2 => ?_
    iterate 10 walk1
    have em : (1 : Int) + ((j : Int)).fmod 4 = ((1 + j % 4 : Nat) : Int) := by
      rw [Int.fmod_eq_emod_of_nonneg _ (by decide)]; (first | lia | omega)
    rw [em]
    refine item_list_intsR ⟨_, hD7, rfl, _, rfl⟩ hhs (by (first | lia | omega)) (by rw [h5]; (first | lia | omega)) (by (first | lia | omega)) ?_
    intro ti
    have hx : 0 ≤ hs.getD ((1 + j % 4 : Nat) : Int).toNat 0 ∧ hs.getD ((1 + j % 4 : Nat) : Int).toNat 0 ≤ 100000000 := by
      have hl : ((1 + j % 4 : Nat) : Int).toNat < hs.length := by rw [Int.toNat_natCast, h5]; (first | lia | omega)
      exact hbd _ (by rw [List.getD_eq_getElem?_getD, List.getElem?_eq_getElem hl]; exact List.getElem_mem hl)
    refine hideG fun g9 hg9 => ?_
    obtain ⟨x, ex⟩ : ∃ x : Nat, hs.getD ((1 + j % 4 : Nat) : Int).toNat 0 = (x : Int) := ⟨_, (Int.toNat_of_nonneg hx.1).symm⟩
    refine hg9 ?_
    clear hg9 g9
    rw [ex] at hx ⊢
    clear ex em ez
    have hx2 : x ≤ 100000000 := by (first | lia | omega)
    repeat' ((fail_if_success (with_reducible refine hR2 _ _ ?_)); walk1)
    · have e3 : (x : Int).fdiv 120 = Int.ofNat (x / 120) := by
        rw [Int.fdiv_eq_ediv_of_nonneg _ (by decide)]; show _ = ((x / 120 : Nat) : Int); (first | lia | omega)
      have e4 : ∀ t : Tok, IntsAre (ys ++ [Value.int ((x : Int).fdiv 120) t]) ((ds ++ [x / 120]).map Int.ofNat) := fun t => by
        rw [List.map_append, e3]; exact hys.append (.cons _ _ .nil)
      exact hR2 _ _ <| LCg.CompEnd.intro F7 N7 _ (fun _ h => h) off trivial ⟨rfl, ds ++ [x / 120], by rw [List.length_append, hdl]; rfl, fun d hd => by
        rcases List.mem_append.mp hd with hd | hd
        · exact hdb d hd
        · rw [List.mem_singleton.mp hd]; exact Nat.le_trans (Nat.div_le_self _ _) hx2, e4 _⟩
    · have e3 : (x : Int).fdiv 1 = Int.ofNat (x / 1) := by
        rw [Int.fdiv_eq_ediv_of_nonneg _ (by decide)]; show _ = ((x / 1 : Nat) : Int); (first | lia | omega)
      have e4 : ∀ t : Tok, IntsAre (ys ++ [Value.int ((x : Int).fdiv 1) t]) ((ds ++ [x / 1]).map Int.ofNat) := fun t => by
        rw [List.map_append, e3]; exact hys.append (.cons _ _ .nil)
      exact hR2 _ _ <| LCg.CompEnd.intro F7 N7 _ (fun _ h => h) off trivial ⟨rfl, ds ++ [x / 1], by rw [List.length_append, hdl]; rfl, fun d hd => by
        rcases List.mem_append.mp hd with hd | hd
        · exact hdb d hd
        · rw [List.mem_singleton.mp hd]; exact Nat.le_trans (Nat.div_le_self _ _) hx2, e4 _⟩
  · intro ys news z93
    refine hideG fun g9 hg9 => ?_
    obtain ⟨rfl, ds, hdl, hdb, hys⟩ := z93
    refine hg9 ?_
    clear hg9 g9
    intro D3 h8 tk8 F8 N8 off8
    clear F2 N2 hR hk2 hrs
    have nn : ∀ p : Addr × Obj, p ∈ [(HL, listOf (List.toArray hv) hn), (L + 1 + 1 + 1 + 1, oD), (L + 1 + 1 + 1, oS), (L + 1 + 1, oR), (L + 1, oH), (127, tabObj #[])] → p.1 ≠ D3 := off1_ne off8
    refine' storeX_C F8 N8 ?c ?U dR ?_ ?a ?b
    (case a => rfl)
    (case b => rfl)
    (case c => rfl)
    (case U => exact .tail (Ne.symm (nn (L + 1 + 1, oR) (.tail _ (.tail _ (.tail _ (.head _)))))) (.tail (Ne.symm nR) (.tail (Nat.ne_of_gt (by dsimp only; (first | lia | omega))) (.tail (Nat.ne_of_gt (by dsimp only; (first | lia | omega))) (.head (by
      intro q hq
      simp only [List.mem_cons, List.not_mem_nil, or_false] at hq
      rcases hq with rfl | rfl
      · exact Nat.ne_of_lt (by dsimp only; (first | lia | omega))
      · exact Nat.ne_of_lt (by dsimp only; (first | lia | omega))))))))
    intro h9 oR2 F9 N9 dR2
    exact hk _ _ D3 ys _ ds oR2 F9 N9 dR2 hys hdl hdb nn
end Mine

end

theorem Mine.reset_D0 : True ∧ True := by
  w_top off
  walk1 <;> trivial
section
open PySem PySem.W PyProof.Rows PySem.Calls
set_option Elab.async false
set_option maxRecDepth 100000
set_option maxHeartbeats 1000000
namespace Mine
noncomputable def sgL : List Nat := [38, 60, 62, 34, 13, 10, 9, 32, 92, 35]
noncomputable def cardL (k d : Nat) : List Nat := [sgL.getD (d % 10) 0] ++ List.replicate (1 + d / 3 % 3) (97 + k) ++ [sgL.getD (d / 7 % 10) 0]
noncomputable def cardsL (ds : List Nat) : List (List Nat) := (List.range ds.length).map fun k => cardL k (ds.getD k 0)
/-! reading -/
theorem rdQ_spell {stop : Nat → Bool} {mk : List Nat} (h92 : stop 92 = false) {t : Nat} (ht : stop t = true) (rest : List Nat) : ∀ (card acc : List Nat), (∀ c ∈ card, c ∉ mk → stop c = false ∧ c ≠ 92) →
    rdQ stop acc (spellL mk card ++ t :: rest) = (acc ++ card, rest)
  | [], acc, _ => by
    show rdQ stop acc (t :: rest) = _
    rw [rdQ, if_pos ht, List.append_nil]
  | c :: r, acc, h => by
    have ih := fun acc => rdQ_spell (stop := stop) (mk := mk) h92 ht rest r acc fun x hx => h x (.tail _ hx)
    by_cases hm : c ∈ mk
    · have e : spellL mk (c :: r) ++ t :: rest = 92 :: c :: (spellL mk r ++ t :: rest) := by
        simp [spellL, hm]
      rw [e, rdQ, if_neg (by rw [h92]; decide), if_pos rfl]
      show rdQ stop (acc ++ [c]) (spellL mk r ++ t :: rest) = _
      rw [ih, List.append_assoc]; rfl
    · obtain ⟨h1, h2⟩ := h c (.head _) hm
      have e : spellL mk (c :: r) ++ t :: rest = c :: (spellL mk r ++ t :: rest) := by
        simp [spellL, hm]
      rw [e, rdQ, if_neg (by rw [h1]; decide), if_neg h2, ih, List.append_assoc]; rfl
theorem white_isW (d : Nat) : isW (whiteL d) = true := by
  have key : ∀ j : _root_.Fin 4, isW ([32, 10, 9, 13].getD j.val 0) = true := by decide
  exact key ⟨d / 30 % 4, Nat.mod_lt _ (by decide)⟩
theorem not_mark2 {c : Nat} (h : c ∉ [34, 92, 32, 10, 9, 13]) : isW c = false ∧ c ≠ 92 ∧ c ≠ 34 := by
  simp only [List.mem_cons, List.not_mem_nil, or_false, not_or] at h
  refine ⟨?_, h.2.1, h.1⟩
  unfold isW
  simp; (first | lia | omega)
theorem rdO_enc (card : List Nat) (d : Nat) (rest : List Nat) (hc : card ≠ []) : rdO (encL card d ++ rest) = (card, rest) := by
  unfold encL
  by_cases h0 : d / 10 % 3 = 0
  · rw [if_pos h0]
    have e : [whiteL d, 34] ++ spellL (markL card d) card ++ [34] ++ rest = whiteL d :: 34 :: (spellL (markL card d) card ++ 34 :: rest) := by simp
    rw [e, rdO, if_pos (white_isW d), rdO, if_neg (by decide), if_pos rfl, rdQ_spell (by decide) (by decide)]
    · rfl
    · intro c _ hn
      unfold markL at hn
      rw [if_pos h0] at hn
      simp only [List.mem_cons, List.not_mem_nil, or_false, not_or] at hn
      exact ⟨by simpa using hn.1, hn.2⟩
  · rw [if_neg h0]
    have hmk : ∀ c ∈ card, c ∉ markL card d → isW c = false ∧ c ≠ 92 ∧ c ≠ 34 := by
      intro c hc hn
      unfold markL at hn
      rw [if_neg h0] at hn
      by_cases h1 : d / 10 % 3 = 1
      · rw [if_pos h1] at hn; exact absurd hc hn
      · rw [if_neg h1] at hn; exact not_mark2 hn
    have e : spellL (markL card d) card ++ [whiteL d] ++ rest = spellL (markL card d) card ++ whiteL d :: rest := by simp
    rw [e]
    generalize markL card d = mk at hmk ⊢
    cases card with
    | nil => exact absurd rfl hc
    | cons c r =>
      have hr : ∀ x ∈ r, x ∉ mk → isW x = false ∧ x ≠ 92 := fun x hx hn => ⟨(hmk x (.tail _ hx) hn).1, (hmk x (.tail _ hx) hn).2.1⟩
      by_cases hm : c ∈ mk
      · have e : spellL mk (c :: r) ++ whiteL d :: rest = 92 :: c :: (spellL mk r ++ whiteL d :: rest) := by simp [spellL, hm]
        rw [e, rdO, if_neg (by decide), if_neg (by decide), if_pos rfl]
        show rdQ isW [c] (spellL mk r ++ whiteL d :: rest) = _
        rw [rdQ_spell (by decide) (white_isW d) rest r [c] hr]; rfl
      · obtain ⟨q1, q2, q3⟩ := hmk c (.head _) hm
        have e : spellL mk (c :: r) ++ whiteL d :: rest = c :: (spellL mk r ++ whiteL d :: rest) := by simp [spellL, hm]
        rw [e, rdO, if_neg (by rw [q1]; decide), if_neg q3, if_neg q2]
        rw [rdQ_spell (by decide) (white_isW d) rest r [c] hr]; rfl
/-- what is left of the text behind i cards -/
noncomputable def leftL (cards : List (List Nat)) (ds : List Nat) (i : Nat) : List Nat := ((cards.zip ds).drop i).flatMap (fun p => encL p.1 p.2) ++ [46]
theorem left_zero {cards : List (List Nat)} {ds : List Nat} (hl : ds.length = cards.length) : leftL cards ds 0 = textL cards ds := by
  unfold leftL textL textTo
  rw [List.drop_zero, List.take_of_length_le]
  rw [List.length_zip]; (first | lia | omega)
theorem left_end {cards : List (List Nat)} {ds : List Nat} (hl : ds.length = cards.length) : leftL cards ds cards.length = [46] := by
  unfold leftL
  rw [List.drop_eq_nil_of_le (by rw [List.length_zip]; (first | lia | omega))]; rfl
theorem left_read {cards : List (List Nat)} {ds : List Nat} (hl : ds.length = cards.length) {i : Nat} (hi : i < cards.length) (hc : cards[i] ≠ []) : rdO (leftL cards ds i) = (cards[i], leftL cards ds (i + 1)) := by
  have hz : i < (cards.zip ds).length := by rw [List.length_zip]; (first | lia | omega)
  have e : leftL cards ds i = encL cards[i] (ds[i]'(by (first | lia | omega))) ++ leftL cards ds (i + 1) := by
    unfold leftL
    rw [List.drop_eq_getElem_cons hz, List.flatMap_cons]
    simp
  rw [e, rdO_enc _ _ _ hc]
theorem rdO_dot : rdO [46] = ([46], []) := by
  rw [rdO, if_neg (by decide), if_neg (by decide), if_neg (by decide), rdQ]
theorem rdO_nil : rdO [] = ([], []) := by rw [rdO]

/-! the escapes, sign by sign -/
noncomputable def escF (h : Nat) : List Nat → List Nat := match h with
  | 0 => escL_cdata
  | 1 => escL_attrib
  | 2 => escL_html
  | 3 => escL_cdata_c14n
  | _ => escL_attrib_c14n
theorem sub1_flat (c : Nat) (z : List Nat) (f : Nat → List Nat) (l : List Nat) : sub1 c z (l.flatMap f) = l.flatMap fun k => sub1 c z (f k) := by
  unfold sub1
  rw [List.flatMap_assoc]
theorem flat_id (l : List Nat) : l.flatMap (fun k => [k]) = l := by
  induction l with
  | nil => rfl
  | cons a r ih => rw [List.flatMap_cons, ih]; rfl
theorem plain_sub {c k : Nat} {z : List Nat} (h : k ≠ c) : sub1 c z [k] = [k] := by simp [sub1, h]
theorem escF_flat {h : Nat} (hh : h < 5) (l : List Nat) : escF h l = l.flatMap (spL h) := by
  have e0 : ∀ l : List Nat, l = l.flatMap (fun k => [k]) := fun l => (flat_id l).symm
  have hc : h = 0 ∨ h = 1 ∨ h = 2 ∨ h = 3 ∨ h = 4 := by (first | lia | omega)
  have key : ∀ f : List Nat → List Nat, (∀ l, f l = l.flatMap fun k => f [k]) → (∀ k, f [k] = spL h k) → f l = l.flatMap (spL h) := by
    intro f h1 h2
    rw [h1]
    congr 1
    funext k
    exact h2 k
  rcases hc with rfl | rfl | rfl | rfl | rfl
  · refine key escL_cdata (fun l => ?_) (fun k => ?_)
    · unfold escL_cdata
      conv => lhs; rw [e0 l]
      simp only [sub1_flat]
    · unfold escL_cdata spL
      by_cases q : k ∈ handSigns 0
      · rw [if_pos q]
        simp only [handSigns, List.mem_cons, List.not_mem_nil, or_false] at q
        rcases q with rfl | rfl | rfl <;> rfl
      · rw [if_neg q]
        simp only [handSigns, List.mem_cons, List.not_mem_nil, or_false, not_or] at q
        rw [plain_sub q.1, plain_sub q.2.1, plain_sub q.2.2]
  · refine key escL_attrib (fun l => ?_) (fun k => ?_)
    · unfold escL_attrib
      conv => lhs; rw [e0 l]
      simp only [sub1_flat]
    · unfold escL_attrib spL
      by_cases q : k ∈ handSigns 1
      · rw [if_pos q]
        simp only [handSigns, List.mem_cons, List.not_mem_nil, or_false] at q
        rcases q with rfl | rfl | rfl | rfl | rfl | rfl | rfl <;> rfl
      · rw [if_neg q]
        simp only [handSigns, List.mem_cons, List.not_mem_nil, or_false, not_or] at q
        obtain ⟨q1, q2, q3, q4, q5, q6, q7⟩ := q
        rw [plain_sub q1, plain_sub q2, plain_sub q3, plain_sub q4, plain_sub q5, plain_sub q6, plain_sub q7]
  · refine key escL_html (fun l => ?_) (fun k => ?_)
    · unfold escL_html
      conv => lhs; rw [e0 l]
      simp only [sub1_flat]
    · unfold escL_html spL
      by_cases q : k ∈ handSigns 2
      · rw [if_pos q]
        simp only [handSigns, List.mem_cons, List.not_mem_nil, or_false] at q
        rcases q with rfl | rfl | rfl <;> rfl
      · rw [if_neg q]
        simp only [handSigns, List.mem_cons, List.not_mem_nil, or_false, not_or] at q
        rw [plain_sub q.1, plain_sub q.2.1, plain_sub q.2.2]
  · refine key escL_cdata_c14n (fun l => ?_) (fun k => ?_)
    · unfold escL_cdata_c14n
      conv => lhs; rw [e0 l]
      simp only [sub1_flat]
    · unfold escL_cdata_c14n spL
      by_cases q : k ∈ handSigns 3
      · rw [if_pos q]
        simp only [handSigns, List.mem_cons, List.not_mem_nil, or_false] at q
        rcases q with rfl | rfl | rfl | rfl <;> rfl
      · rw [if_neg q]
        simp only [handSigns, List.mem_cons, List.not_mem_nil, or_false, not_or] at q
        obtain ⟨q1, q2, q3, q4⟩ := q
        rw [plain_sub q1, plain_sub q2, plain_sub q3, plain_sub q4]
  · refine key escL_attrib_c14n (fun l => ?_) (fun k => ?_)
    · unfold escL_attrib_c14n
      conv => lhs; rw [e0 l]
      simp only [sub1_flat]
    · unfold escL_attrib_c14n spL
      by_cases q : k ∈ handSigns 4
      · rw [if_pos q]
        simp only [handSigns, List.mem_cons, List.not_mem_nil, or_false] at q
        rcases q with rfl | rfl | rfl | rfl | rfl | rfl <;> rfl
      · rw [if_neg q]
        simp only [handSigns, List.mem_cons, List.not_mem_nil, or_false, not_or] at q
        obtain ⟨q1, q2, q3, q4, q5, q6⟩ := q
        rw [plain_sub q1, plain_sub q2, plain_sub q3, plain_sub q6, plain_sub q5, plain_sub q4]

/-! faces -/
theorem sp_free {h k : Nat} (hh : h < 5) (hk : k ∈ [35, 48, 49, 51, 57, 59, 65, 68, 97, 98, 99, 100, 101, 102, 103, 104, 108, 109, 111, 112, 113, 116, 117, 120]) : spL h k = [k] := by
  have key : ∀ j : _root_.Fin 5, ∀ k ∈ [35, 48, 49, 51, 57, 59, 65, 68, 97, 98, 99, 100, 101, 102, 103, 104, 108, 109, 111, 112, 113, 116, 117, 120], spL j.val k = [k] := by decide
  exact key ⟨h, hh⟩ k hk
theorem sp_amp {h : Nat} (hh : h < 5) : spL h 38 = [38, 97, 109, 112, 59] := by
  have key : ∀ j : _root_.Fin 5, spL j.val 38 = [38, 97, 109, 112, 59] := by decide
  exact key ⟨h, hh⟩
theorem flat_free {h : Nat} (hh : h < 5) : ∀ {l : List Nat}, (∀ k ∈ l, k ∈ [35, 48, 49, 51, 57, 59, 65, 68, 97, 98, 99, 100, 101, 102, 103, 104, 108, 109, 111, 112, 113, 116, 117, 120]) → l.flatMap (spL h) = l
  | [], _ => rfl
  | k :: r, hl => by rw [List.flatMap_cons, sp_free hh (hl k (.head _)), flat_free hh fun x hx => hl x (.tail _ hx)]; rfl
theorem name_free (h c : Nat) : ∀ k ∈ nameOf h c ++ [59], k ∈ [35, 48, 49, 51, 57, 59, 65, 68, 97, 98, 99, 100, 101, 102, 103, 104, 108, 109, 111, 112, 113, 116, 117, 120] := by
  unfold nameOf
  (repeat' split) <;> decide
theorem sp_form {h c : Nat} (hn : spL h c ≠ [c]) : spL h c = 38 :: (nameOf h c ++ [59]) := by
  unfold spL at hn ⊢
  by_cases q : c ∈ handSigns h
  · rw [if_pos q]; rfl
  · rw [if_neg q] at hn; exact absurd rfl hn
theorem face_snoc {h c : Nat} (hh : h < 5) : ∀ hs : List Nat, (∀ x ∈ hs, x < 5) → (faceL c hs).flatMap (spL h) = faceL c (hs ++ [h])
  | [], _ => by
    show [c].flatMap (spL h) = if spL h c = [c] then [c] else [38] ++ [] ++ (spL h c).tail
    rw [List.flatMap_cons, List.flatMap_nil, List.append_nil]
    by_cases q : spL h c = [c]
    · rw [if_pos q]; exact q
    · rw [if_neg q, sp_form q]; rfl
  | g :: r, hs => by
    show (if spL g c = [c] then faceL c r else [38] ++ (List.replicate r.length [97, 109, 112, 59]).flatten ++ (spL g c).tail).flatMap (spL h) = if spL g c = [c] then faceL c (r ++ [h]) else [38] ++ (List.replicate (r ++ [h]).length [97, 109, 112, 59]).flatten ++ (spL g c).tail
    by_cases q : spL g c = [c]
    · rw [if_pos q, if_pos q]
      exact face_snoc hh r fun x hx => hs x (.tail _ hx)
    · rw [if_neg q, if_neg q, sp_form q]
      show ([38] ++ (List.replicate r.length [97, 109, 112, 59]).flatten ++ (nameOf g c ++ [59])).flatMap (spL h) = [38] ++ (List.replicate (r ++ [h]).length [97, 109, 112, 59]).flatten ++ (nameOf g c ++ [59])
      rw [List.flatMap_append, List.flatMap_append, flat_free hh (name_free g c)]
      have e1 : (List.replicate r.length [97, 109, 112, 59]).flatten.flatMap (spL h) = (List.replicate r.length [97, 109, 112, 59]).flatten := by
        refine flat_free hh fun k hk => ?_
        obtain ⟨l, hl, hkl⟩ := List.mem_flatten.mp hk
        rw [List.eq_of_mem_replicate hl] at hkl
        have key : ∀ x ∈ [97, 109, 112, 59], x ∈ [35, 48, 49, 51, 57, 59, 65, 68, 97, 98, 99, 100, 101, 102, 103, 104, 108, 109, 111, 112, 113, 116, 117, 120] := by decide
        exact key k hkl
      rw [e1, List.length_append]
      show (spL h 38 ++ []) ++ _ ++ _ = _
      rw [sp_amp hh, List.append_nil]
      show _ = [38] ++ (List.replicate (r.length + 1) [97, 109, 112, 59]).flatten ++ (nameOf g c ++ [59])
      rw [List.replicate_succ, List.flatten_cons]
      simp
/-- a card as the law makes it -/
structure CardOk (card : List Nat) : Prop where
  len : 3 ≤ card.length ∧ card.length ≤ 5
  mid : ∀ k ∈ midL card, k ∈ [97, 98, 99, 100, 101, 102, 103, 104]
theorem tell_snoc {h : Nat} {card : List Nat} (hc : CardOk card) (hh : h < 5) {hs : List Nat} (hs5 : ∀ x ∈ hs, x < 5) : escF h (tellL card hs) = tellL card (hs ++ [h]) := by
  rw [escF_flat hh]
  unfold tellL
  rw [List.flatMap_append, List.flatMap_append, face_snoc hh hs hs5, face_snoc hh hs hs5, flat_free hh]
  exact fun k hk => (by decide +kernel : ∀ k ∈ [97, 98, 99, 100, 101, 102, 103, 104], k ∈ [35, 48, 49, 51, 57, 59, 65, 68, 97, 98, 99, 100, 101, 102, 103, 104, 108, 109, 111, 112, 113, 116, 117, 120]) k (hc.mid k hk)
theorem tell_nil {card : List Nat} (hc : 2 ≤ card.length) : tellL card [] = card := by
  unfold tellL midL faceL
  cases card with
  | nil => simp at hc
  | cons a r =>
    have hr : r ≠ [] := by intro e; subst e; simp at hc
    have e : r.take (r.length + 1 - 2) ++ [r.getD (r.length - 1) 0] = r := by
      have h1 : r.length + 1 - 2 = r.length - 1 := by (first | lia | omega)
      have h2 : r.getD (r.length - 1) 0 = r.getLast hr := by
        rw [List.getD_eq_getElem?_getD, List.getElem?_eq_getElem (by have := List.length_pos_iff.mpr hr; (first | lia | omega)), List.getLast_eq_getElem]; rfl
      rw [h1, h2, ← List.dropLast_eq_take, List.dropLast_concat_getLast]
    have e2 : (a :: r).getD ((a :: r).length - 1) 0 = r.getD (r.length - 1) 0 := by
      have := List.length_pos_iff.mpr hr
      obtain ⟨m, hm⟩ : ∃ m, r.length = m + 1 := ⟨r.length - 1, by (first | lia | omega)⟩
      simp [hm]
    rw [e2]
    show [a] ++ r.take (r.length + 1 - 2) ++ [r.getD (r.length - 1) 0] = a :: r
    rw [List.append_assoc, e]; rfl
theorem face_len {c : Nat} : ∀ hs : List Nat, (faceL c hs).length ≤ 7 + 4 * hs.length
  | [] => by simp [faceL]
  | g :: r => by
    show (if spL g c = [c] then faceL c r else [38] ++ (List.replicate r.length [97, 109, 112, 59]).flatten ++ (spL g c).tail).length ≤ _
    have ih := face_len (c := c) r
    rw [List.length_cons]
    by_cases q : spL g c = [c]
    · rw [if_pos q]; (first | lia | omega)
    · rw [if_neg q, sp_form q]
      have n : (nameOf g c).length ≤ 4 := by unfold nameOf; (repeat' split) <;> simp
      have f : ((List.replicate r.length [97, 109, 112, 59]).flatten).length = 4 * r.length := by
        rw [List.length_flatten, List.map_replicate]; simp [Nat.mul_comm]
      simp only [List.length_append, List.length_cons, List.length_nil, List.tail_cons, f]
      (first | lia | omega)
theorem tell_len {card hs : List Nat} (hc : CardOk card) (hl : hs.length ≤ 9) : (tellL card hs).length ≤ 100 := by
  unfold tellL
  have h1 := face_len (c := card.getD 0 0) hs
  have h2 := face_len (c := card.getD (card.length - 1) 0) hs
  have h3 : (midL card).length ≤ 3 := by
    unfold midL
    rw [List.length_take]
    have := hc.len.2
    (first | lia | omega)
  rw [List.length_append, List.length_append]
  exact Nat.le_trans (Nat.add_le_add (Nat.add_le_add h1 h3) h2) (by omega)

/-! the places -/
noncomputable def weaveP : List (Nat × List Nat) → List (Nat × List Nat) → List (Nat × List Nat)
  | a :: r, b :: q => a :: b :: weaveP r q
  | _, _ => []
noncomputable def stepS (half h : Nat) (S : List (Nat × List Nat)) : List (Nat × List Nat) := weaveP ((S.drop half).map fun p => (p.1, p.2 ++ [h])) (S.take half)
noncomputable def seqS (half first : Nat) : Nat → List (Nat × List Nat)
  | 0 => (List.range (2 * half)).map fun i => (i, [])
  | t + 1 => stepS half ((first + t) % 5) (seqS half first t)
noncomputable def toldS (n times first : Nat) : List (Nat × List Nat) :=
  (List.range n).foldl (fun acc j => acc.set (2 ^ times * (j + 1) % (n + 1) - 1) (j, handsL times first (quoL n times (j + 1)))) ((List.range n).map fun i => (i, []))
theorem seq_told {half times first : Nat} (h1 : 1 ≤ half) (h2 : half ≤ 4) (ht : times ≤ 10) (hf : first < 5) : seqS half first times = toldS (2 * half) times first := by
  have key : ∀ (m : _root_.Fin 4) (t : _root_.Fin 11) (f : _root_.Fin 5), seqS (m.val + 1) f.val t.val = toldS (2 * (m.val + 1)) t.val f.val := by decide +kernel
  have := key ⟨half - 1, by (first | lia | omega)⟩ ⟨times, by (first | lia | omega)⟩ ⟨first, hf⟩
  dsimp only at this
  rwa [show half - 1 + 1 = half by (first | lia | omega)] at this
noncomputable def putL (cards : List (List Nat)) (S : List (Nat × List Nat)) : List (List Nat) := S.map fun p => tellL (cards.getD p.1 []) p.2
theorem weave_map (f : Nat × List Nat → List Nat) : ∀ a b : List (Nat × List Nat), weave (a.map f) (b.map f) = (weaveP a b).map f
  | [], _ => by simp [weave, weaveP]
  | _ :: _, [] => by simp [weave, weaveP]
  | a :: r, b :: q => by
    show f a :: f b :: weave (r.map f) (q.map f) = f a :: f b :: (weaveP r q).map f
    rw [weave_map f r q]
theorem weaveP_mem : ∀ {a b : List (Nat × List Nat)} {p : Nat × List Nat}, p ∈ weaveP a b → p ∈ a ∨ p ∈ b
  | [], _, p, h => by simp [weaveP] at h
  | _ :: _, [], p, h => by simp [weaveP] at h
  | a :: r, b :: q, p, h => by
    have h : p ∈ a :: b :: weaveP r q := h
    rcases List.mem_cons.mp h with rfl | h
    · exact .inl (.head _)
    rcases List.mem_cons.mp h with rfl | h
    · exact .inr (.head _)
    rcases weaveP_mem h with h | h
    · exact .inl (.tail _ h)
    · exact .inr (.tail _ h)
structure SOk (n t : Nat) (S : List (Nat × List Nat)) : Prop where
  idx : ∀ p ∈ S, p.1 < n
  hnd : ∀ p ∈ S, p.2.length ≤ t ∧ ∀ x ∈ p.2, x < 5
theorem seq_ok (half first : Nat) : ∀ t, SOk (2 * half) t (seqS half first t)
  | 0 => by
    constructor <;> intro p hp <;> (obtain ⟨i, hi, rfl⟩ := List.mem_map.mp hp)
    · exact List.mem_range.mp hi
    · exact ⟨Nat.le_refl _, fun _ h => nomatch h⟩
  | t + 1 => by
    have ih := seq_ok half first t
    have cs : ∀ p ∈ seqS half first (t + 1), ∃ q ∈ seqS half first t, p = q ∨ p = (q.1, q.2 ++ [(first + t) % 5]) := by
      intro p hp
      rcases weaveP_mem hp with h | h
      · obtain ⟨q, hq, rfl⟩ := List.mem_map.mp h
        exact ⟨q, List.mem_of_mem_drop hq, .inr rfl⟩
      · exact ⟨p, List.mem_of_mem_take h, .inl rfl⟩
    constructor
    · intro p hp
      obtain ⟨q, hq, rfl | rfl⟩ := cs p hp
      · exact ih.idx p hq
      · exact ih.idx q hq
    · intro p hp
      obtain ⟨q, hq, rfl | rfl⟩ := cs p hp
      · exact ⟨Nat.le_succ_of_le (ih.hnd p hq).1, (ih.hnd p hq).2⟩
      · refine ⟨by rw [List.length_append]; exact Nat.succ_le_succ (ih.hnd q hq).1, fun x hx => ?_⟩
        rcases List.mem_append.mp hx with hx | hx
        · exact (ih.hnd q hq).2 x hx
        · rw [List.mem_singleton.mp hx]; exact Nat.mod_lt _ (by decide)
theorem put_step {cards : List (List Nat)} (hc : ∀ c ∈ cards, CardOk c) {half first t : Nat} (hn : cards.length = 2 * half) :
    weave (((putL cards (seqS half first t)).drop half).map (escF ((first + t) % 5))) ((putL cards (seqS half first t)).take half) = putL cards (seqS half first (t + 1)) := by
  have ok := seq_ok half first t
  show _ = putL cards (stepS half ((first + t) % 5) (seqS half first t))
  generalize seqS half first t = S at ok ⊢
  have e : ((putL cards S).drop half).map (escF ((first + t) % 5)) = putL cards ((S.drop half).map fun p => (p.1, p.2 ++ [(first + t) % 5])) := by
    unfold putL
    rw [← List.map_drop, List.map_map, List.map_map]
    refine List.map_congr_left fun p hp => ?_
    have hp := List.mem_of_mem_drop hp
    have h1 := ok.idx p hp
    show escF _ (tellL _ _) = _
    have hm : cards.getD p.1 [] ∈ cards := by
      rw [List.getD_eq_getElem?_getD, List.getElem?_eq_getElem (by (first | lia | omega))]
      exact List.getElem_mem _
    exact tell_snoc (hc _ hm) (Nat.mod_lt _ (by decide)) (ok.hnd p hp).2
  rw [e]
  unfold putL stepS
  rw [← List.map_take]
  exact weave_map _ _ _
theorem put_len {cards : List (List Nat)} (hc : ∀ c ∈ cards, CardOk c) {half first t : Nat} (hn : cards.length = 2 * half) (ht : t ≤ 9) : ∀ x ∈ putL cards (seqS half first t), x.length ≤ 100 := by
  intro x hx
  obtain ⟨p, hp, rfl⟩ := List.mem_map.mp hx
  have ok := seq_ok half first t
  have h1 := ok.idx p hp
  have hm : cards.getD p.1 [] ∈ cards := by
    rw [List.getD_eq_getElem?_getD, List.getElem?_eq_getElem (by (first | lia | omega))]
    exact List.getElem_mem _
  exact tell_len (hc _ hm) (Nat.le_trans (ok.hnd p hp).1 ht)
theorem put_zero {cards : List (List Nat)} (hc : ∀ c ∈ cards, CardOk c) {n : Nat} (hn : cards.length = n) : putL cards ((List.range n).map fun i => (i, [])) = cards := by
  unfold putL
  rw [List.map_map]
  refine List.ext_getElem (by simp [hn]) fun i h1 h2 => ?_
  rw [List.getElem_map, List.getElem_range]
  show tellL (cards.getD i []) [] = _
  rw [List.getD_eq_getElem?_getD, List.getElem?_eq_getElem h2]
  exact tell_nil (Nat.le_trans (by decide) (hc _ (List.getElem_mem h2)).len.1)
theorem put_told {cards : List (List Nat)} (hc : ∀ c ∈ cards, CardOk c) (times first : Nat) : putL cards (toldS cards.length times first) = toldTo cards times first cards.length := by
  unfold toldS toldTo
  have key : ∀ (l : List Nat) (S : List (Nat × List Nat)) (D : List (List Nat)), putL cards S = D →
      putL cards (l.foldl (fun acc j => acc.set (2 ^ times * (j + 1) % (cards.length + 1) - 1) (j, handsL times first (quoL cards.length times (j + 1)))) S) =
      l.foldl (fun acc j => acc.set (2 ^ times * (j + 1) % (cards.length + 1) - 1) (tellL (cards.getD j []) (handsL times first (quoL cards.length times (j + 1))))) D := by
    intro l
    induction l with
    | nil => intro S D e; exact e
    | cons j r ih =>
      intro S D e
      rw [List.foldl_cons, List.foldl_cons]
      refine ih _ _ ?_
      rw [← e]
      unfold putL
      rw [List.map_set]
  exact key _ _ _ (put_zero hc rfl)
theorem deck_told {cards : List (List Nat)} (hc : ∀ c ∈ cards, CardOk c) {half times first : Nat} (hn : cards.length = 2 * half) (h1 : 1 ≤ half) (h2 : half ≤ 4) (ht : times ≤ 10) (hf : first < 5) :
    putL cards (seqS half first times) = toldTo cards times first cards.length := by
  rw [seq_told h1 h2 ht hf, ← hn]
  exact put_told hc times first

theorem cards_ok {ds : List Nat} (hl : ds.length ≤ 8) : ∀ c ∈ cardsL ds, CardOk c := by
  intro c hc
  obtain ⟨k, hk, rfl⟩ := List.mem_map.mp hc
  have hk := List.mem_range.mp hk
  generalize ds.getD k 0 = d
  have hr : d / 3 % 3 < 3 := Nat.mod_lt _ (by decide)
  unfold cardL
  constructor
  · simp only [List.length_append, List.length_cons, List.length_nil, List.length_replicate]; (first | lia | omega)
  · intro x hx
    unfold midL at hx
    have e : (([sgL.getD (d % 10) 0] ++ List.replicate (1 + d / 3 % 3) (97 + k) ++ [sgL.getD (d / 7 % 10) 0]).drop 1).take (([sgL.getD (d % 10) 0] ++ List.replicate (1 + d / 3 % 3) (97 + k) ++ [sgL.getD (d / 7 % 10) 0]).length - 2) = List.replicate (1 + d / 3 % 3) (97 + k) := by
      simp only [List.length_append, List.length_cons, List.length_nil, List.length_replicate]
      rw [List.append_assoc]
      show ((List.replicate (1 + d / 3 % 3) (97 + k)) ++ [_]).take _ = _
      rw [List.take_append_of_le_length (by rw [List.length_replicate]; (first | lia | omega)), List.take_of_length_le (by rw [List.length_replicate]; (first | lia | omega))]
    rw [e] at hx
    rw [List.eq_of_mem_replicate hx]
    simp only [List.mem_cons, List.not_mem_nil, or_false]
    (first | lia | omega)
theorem cards_len (ds : List Nat) : (cardsL ds).length = ds.length := by simp [cardsL]
end Mine

end

theorem Mine.reset_L8 : True ∧ True := by
  w_top off
  walk1 <;> trivial
section
open PySem PySem.W PyProof.Rows PySem.Calls
set_option Elab.async false
set_option maxRecDepth 100000
set_option maxHeartbeats 4000000
namespace Mine
theorem flat_one (n c : Nat) : (List.replicate n [c]).flatten = List.replicate n c := by
  induction n with
  | zero => rfl
  | succ n ih => rw [List.replicate_succ, List.flatten_cons, ih, List.replicate_succ]; rfl
theorem letter_at (j : Nat) (h : j < 8) : ([97, 98, 99, 100, 101, 102, 103, 104] : List Nat)[j]'h = 97 + j := by
  have key : ∀ k : _root_.Fin 8, ([97, 98, 99, 100, 101, 102, 103, 104] : List Nat)[k.val] = 97 + k.val := by decide
  exact key ⟨j, h⟩
theorem law_8 {w : World} {h₀ : Heap} {s : Shared} {L fa : Addr} {cd : Value} {dp : Nat} {fr : Option (List Env)} {gd : Option (List Code)} {un : Nat} {Q : Flow → Shared → Prop} {rest : List Stmt} (G : Gd w h₀) (hA : AOk (Around.deeper ⟨none, dp, fr, gd, un⟩ (envOfC (PySem.Str.ofString "law") lawScope L fa cd)) 20) {sc HL DL : Addr} {hn dn half times first shift : Nat} {above : Int} {ta ts tf tt th : Tok} {hv dv : List Value} {ds : List Nat} {oD oS oR oH : Obj} {gS : Option Value} (dR : oR.data = .cell (some (.ref DL))) (dS : oS.data = .cell gS) (hds : IntsAre dv (ds.map Int.ofNat)) (hdl : ds.length = 2 * half) (hdb : ∀ d ∈ ds, d ≤ 100000000) (hhf : 1 ≤ half ∧ half ≤ 4) (nS : @Ne Nat (L + 1 + 1 + 1) HL) (nS2 : @Ne Nat (L + 1 + 1 + 1) DL) (l0 : @LT.lt Nat _ 127 L)
    (F : Fr h₀ L s.heap (fun y => if y = PySem.Str.ofString "above" then some (.int above ta) else if y = PySem.Str.ofString "shift" then some (.int (shift : Nat) ts) else if y = PySem.Str.ofString "first" then some (.int (first : Nat) tf) else if y = PySem.Str.ofString "times" then some (.int (times : Nat) tt) else if y = PySem.Str.ofString "half" then some (.int (half : Nat) th) else if y = PySem.Str.ofString "script" then some (.ref sc) else none)) (N : News h₀ L s.heap [(DL, listOf (List.toArray dv) dn), (HL, listOf (List.toArray hv) hn), (L + 1 + 1 + 1 + 1, oD), (L + 1 + 1 + 1, oS), (L + 1 + 1, oR), (L + 1, oH), (127, tabObj #[])])
    (hk : ∀ h' tk CL cv cn oS2, Fr h₀ L h' (fun y => if y = PySem.Str.ofString "cards" then some (.ref CL) else if y = PySem.Str.ofString "above" then some (.int above ta) else if y = PySem.Str.ofString "shift" then some (.int (shift : Nat) ts) else if y = PySem.Str.ofString "first" then some (.int (first : Nat) tf) else if y = PySem.Str.ofString "times" then some (.int (times : Nat) tt) else if y = PySem.Str.ofString "half" then some (.int (half : Nat) th) else if y = PySem.Str.ofString "script" then some (.ref sc) else none) → News h₀ L h' [(CL, listOf (List.toArray cv) cn), (DL, listOf (List.toArray dv) dn), (HL, listOf (List.toArray hv) hn), (L + 1 + 1 + 1 + 1, oD), (L + 1 + 1 + 1, oS2), (L + 1 + 1, oR), (L + 1, oH), (127, tabObj #[])] → StrsAre cv ((cardsL ds).map sx) → (@Ne Nat (L + 1 + 1 + 1 + 1) CL ∧ @Ne Nat 127 CL) → wpAny (model PG w) (Around.deeper ⟨none, dp, fr, gd, un⟩ (envOfC (PySem.Str.ofString "law") lawScope L fa cd)) (execs rest (envOfC (PySem.Str.ofString "law") lawScope L fa cd)) Q NoE { s with heap := h', toks := tk }) :
    wpAny (model PG w) (Around.deeper ⟨none, dp, fr, gd, un⟩ (envOfC (PySem.Str.ofString "law") lawScope L fa cd)) (execs (nthS lawBody 7 :: nthS lawBody 8 :: rest) (envOfC (PySem.Str.ofString "law") lawScope L fa cd)) Q NoE s := by
  have G' := G
  refine hideG fun g9 hg9 => ?_
  obtain ⟨X, p, loose, mean, mg, mb, T⟩ := G
  refine hg9 ?_
  clear hg9 g9
  have eS : lawScope = lawScope := rfl
  conv at eS => rhs; whnf
  have eT7 : nthS lawBody 7 = nthS lawBody 7 := rfl
  conv at eT7 => rhs; whnf
  have eT8 : nthS lawBody 8 = nthS lawBody 8 := rfl
  conv at eT8 => rhs; whnf
  rw [eT7, eT8]
  simp only [eS] at hA hk ⊢
  clear eS eT7 eT8
  iterate 3 walk1
  refine' storeX_C F N ?c ?U dS ?_ ?a ?b
  (case a => rfl)
  (case b => rfl)
  (case c => rfl)
  (case U => exact .tail (Ne.symm nS2) (.tail (Ne.symm nS) (.tail (Nat.ne_of_gt (by dsimp only; (first | lia | omega))) (.head (by
      intro q hq
      simp only [List.mem_cons, List.not_mem_nil, or_false] at hq
      rcases hq with rfl | rfl | rfl <;> exact Nat.ne_of_lt (by dsimp only; (first | lia | omega)))))))
  intro h1 oS2 F1 N1 dS2
  clear F N
  dsimp only
  iterate 2 walk1
  clear nS nS2
  refine LCg.Assign_ListComp_U F1 (by rfl) (by with_unfolding_all rfl) (by with_unfolding_all rfl) (by decide) rfl (by decide) rfl (by rfl) (by rfl) ?_
  iterate 10 walk1
  rename_i hR F2 N2 hk2
  have e2 : (2 : Int) * (half : Int) = ((2 * half : Nat) : Int) := by (first | lia | omega)
  rw [e2] at hR
  have hrs := range_small0 (n := 2 * half) (by (first | lia | omega))
  refine LCg.CompSrc.range rfl F2 N2 hR hrs.1 hrs.2 (by rw [sizeLine_eq]; (first | lia | omega)) ?_
  intro g
  refine comp_inv (fun j ys news => news = _ ∧ StrsAre ys (((List.range j).map fun k => cardL k (ds.getD k 0)).map sx)) ⟨rfl, .nil⟩ ?_ ?_
  · intro j ys news v I2 oI C oC D2 m₂ h7 tk7 E' hj z91 z92 hoC hm₂ F7 N7 off ne
    refine hideG fun g9 hg9 => ?_
    obtain ⟨tv, rfl⟩ := z91
    obtain ⟨rfl, hys⟩ := z92
    refine hg9 ?_
    clear hg9 g9
    clear F2 N2 hR hk2 hrs
    have ez : (0 : Int) + (j : Int) = (j : Int) := by (first | lia | omega)
    rw [ez] at hm₂
    have hD7 := (N7 (DL, listOf dv.toArray dn) (.tail _ (.tail _ (.tail _ (.head _))))).1
    have hjd : j < ds.length := by (first | lia | omega)
    have hlD : ∀ {h : Heap}, h.get? DL = some (listOf dv.toArray dn) → h.IsList DL dv.toArray := fun e => ⟨_, e, rfl, _, rfl⟩
    have ed : ds.getD j 0 = ds[j] := by rw [List.getD_eq_getElem?_getD, List.getElem?_eq_getElem hjd]; rfl
    have sE : PySem.Str.ofString "&<>\"\r\n\t \\#" = sx sgL := by decide +kernel
    have aE : PySem.Str.ofString "abcdefgh" = sx [97, 98, 99, 100, 101, 102, 103, 104] := by decide +kernel
    have hsg : sgL.length = 10 := rfl
    refine hideG fun g9 hg9 => ?_
    obtain ⟨d, hd⟩ : ∃ d, ds[j] = d := ⟨_, rfl⟩
    refine hg9 ?_
    clear hg9 g9
    rw [hd] at ed
    have em10 : ((d : Nat) : Int).fmod 10 = ((d % 10 : Nat) : Int) := by rw [Int.fmod_eq_emod_of_nonneg _ (by decide)]; (first | lia | omega)
    have em3 : 1 + (((d : Nat) : Int).fdiv 3).fmod 3 = ((1 + d / 3 % 3 : Nat) : Int) := by rw [Int.fmod_eq_emod_of_nonneg _ (by decide), Int.fdiv_eq_ediv_of_nonneg _ (by decide)]; (first | lia | omega)
    have em7 : (((d : Nat) : Int).fdiv 7).fmod 10 = ((d / 7 % 10 : Nat) : Int) := by rw [Int.fmod_eq_emod_of_nonneg _ (by decide), Int.fdiv_eq_ediv_of_nonneg _ (by decide)]; (first | lia | omega)
    have hlt1 : d % 10 < sgL.length := by rw [hsg]; (first | lia | omega)
    have hlt2 : d / 7 % 10 < sgL.length := by rw [hsg]; (first | lia | omega)
    try dsimp only
    refine hold fun R2 hR2 => ?_
    iterate 8 walk1
    refine item_natE (ds := ds) (hlD hD7) hds rfl hjd (by (first | lia | omega)) ?_
    intro ta1
    try dsimp only
    iterate 2 walk1
    refine item_textE sE (by rw [hd]; exact em10) hlt1 (by rw [hsg]; decide) ?_
    intro tb1 tk1
    try dsimp only
    iterate 4 walk1
    refine item_textE aE rfl (by show j < 8; (first | lia | omega)) (by decide) ?_
    intro tb2 tk2
    try dsimp only
    iterate 7 walk1
    refine item_natE (ds := ds) (hlD hD7) hds rfl hjd (by (first | lia | omega)) ?_
    intro ta3
    try dsimp only
    iterate 5 walk1
    refine mul_sxE rfl (by rw [hd]; exact em3) (by show 1 ≤ 16; decide) (by (first | lia | omega)) ?_
    intro tb3 tk3
    try dsimp only
    refine add_sxE rfl rfl (by rw [flat_one]; simp; (first | lia | omega)) ?_
    intro tb4 tk4
    try dsimp only
    iterate 7 walk1
    refine item_natE (ds := ds) (hlD hD7) hds rfl hjd (by (first | lia | omega)) ?_
    intro ta5
    try dsimp only
    iterate 4 walk1
    refine item_textE sE (by rw [hd]; exact em7) hlt2 (by rw [hsg]; decide) ?_
    intro tb6 tk6
    try dsimp only
    refine add_sxE rfl rfl (by rw [flat_one]; simp; (first | lia | omega)) ?_
    intro tb7 tk7
    try dsimp only
    have ev : [sgL[d % 10]] ++ (List.replicate (1 + d / 3 % 3) [([97, 98, 99, 100, 101, 102, 103, 104] : List Nat)[j]'(by show j < 8; (first | lia | omega))]).flatten ++ [sgL[d / 7 % 10]] = cardL j (ds.getD j 0) := by
      rw [ed, flat_one]
      unfold cardL
      rw [List.getD_eq_getElem?_getD, List.getElem?_eq_getElem hlt1, List.getD_eq_getElem?_getD, List.getElem?_eq_getElem hlt2, letter_at j (by (first | lia | omega))]
      rfl
    rw [ev]
    exact hR2 _ _ <| LCg.CompEnd.intro F7 N7 _ (fun _ h => h) off trivial ⟨rfl, by
      rw [List.range_succ, List.map_append, List.map_append]
      exact strsAre_snoc hys⟩
  · intro ys news z93
    refine hideG fun g9 hg9 => ?_
    obtain ⟨rfl, hys⟩ := z93
    refine hg9 ?_
    clear hg9 g9
    intro D3 h8 tk8 F8 N8 off8
    refine hk _ _ D3 ys _ oS2 F8 N8 ?_ ⟨off1_ne off8 (L + 1 + 1 + 1 + 1, oD) (.tail _ (.tail _ (.head _))), off1_ne off8 (127, tabObj #[]) (.tail _ (.tail _ (.tail _ (.tail _ (.tail _ (.tail _ (.head _))))))) ⟩
    unfold cardsL
    rw [hdl]
    exact hys
end Mine

end

theorem Mine.reset_L1 : True ∧ True := by
  w_top off
  walk1 <;> trivial
section
open PySem PySem.W PyProof.Rows PySem.Calls
set_option Elab.async false
set_option maxRecDepth 100000
set_option maxHeartbeats 1000000
namespace Mine

theorem hide_gd {w : World} {h₀ h : Heap} {L : Addr} {m : PySem.Str → Option Value} (G : Gd w h₀) (F : Fr h₀ L h m) (h0 : h₀.get? 127 = none) : Gd w (hideAll h [127]) :=
  G.hide F.keep fun a ha => by rw [List.mem_singleton.mp ha]; exact h0
theorem hide_code {h₀ h : Heap} {L : Addr} {m : PySem.Str → Option Value} (C : CodeHd h₀ 131 127) (F : Fr h₀ L h m) (h0 : h₀.get? 127 = none) : CodeHd (hideAll h [127]) 131 127 :=
  C.keeps fun b o e => hideAll_get _ (F.keep b o e) fun hm => by rw [List.mem_singleton.mp hm, h0] at e; cases e

/-- what a new lexer leaves of the ledger -/
theorem lex_ledger {w : World} {h₀ h h' : Heap} {L : Addr} {m : PySem.Str → Option Value} {pre lxs lx : List (Addr × Obj)} {t0 t1 : Obj} {a : LA} {n : Nat} {l : List Nat} {d : List (List Nat)} (F : Fr h₀ L h m) (N : News h₀ L h (pre ++ ((127, t0) :: lxs)))
    (hp : ∀ p ∈ pre, p.1 ≠ 127) (hl : ∀ p ∈ lxs, p.1 ≠ 127) (ht : h'.get? 127 = some t1) (hk : ∀ b o, h.get? b = some o → b ≠ 127 → h'.get? b = some o) (X : LexL w lx a n l d) (e : ∀ p ∈ lx, h'.get? p.1 = some p.2)
    (own : ∀ q ∈ a.all, (q ≠ L ∧ h₀.get? q = none)) : Fr h₀ L h' m ∧ News h₀ L h' (pre ++ ((127, t1) :: (lxs ++ lx))) := by
  have z := (N (127, t0) (List.mem_append_right _ (.head _))).2
  refine ⟨Fr.but (as := [127]) F (fun b o e hb => hk b o e (by simpa using hb)) (fun b hb => by rw [List.mem_singleton.mp hb]; exact ⟨z.2, z.1⟩), fun p hm => ?_⟩
  rcases List.mem_append.mp hm with hm | hm
  · have q := N p (List.mem_append_left _ hm)
    exact ⟨hk _ _ q.1 (hp p hm), q.2⟩
  rcases List.mem_cons.mp hm with rfl | hm
  · exact ⟨ht, z⟩
  rcases List.mem_append.mp hm with hm | hm
  · have q := N p (List.mem_append_right _ (.tail _ hm))
    exact ⟨hk _ _ q.1 (hl p hm), q.2⟩
  · exact ⟨e p hm, own p.1 (X.mem hm)⟩

theorem above_own {h₀ h : Heap} {L : Addr} {m : PySem.Str → Option Value} (F : Fr h₀ L h m) {q : Nat} (hq : h.objs.size ≤ q) : q ≠ L ∧ h₀.get? q = none := by
  have h1 := F.ns.lt
  refine ⟨fun e => ?_, Heap.get?_none_of_le (Nat.le_trans F.above (Nat.le_trans (Nat.le_of_lt h1) hq))⟩
  subst e
  exact absurd h1 (Nat.not_lt.mpr hq)

theorem lexer1 {w : World} {A : Around} {s : Shared} {Q : Value → Shared → Prop} {E : Value → Shared → Prop} {h₀ : Heap} {L : Addr} {m : PySem.Str → Option Value} {pre : List (Addr × Obj)} {l : List Nat} {t : Tok} (G : Gd w h₀) (hA : AOk A 6) (hl : l.length ≤ 1000000) (ht : 0 < s.toks)
    (F : Fr h₀ L s.heap m) (N : News h₀ L s.heap (pre ++ [(127, tabObj #[])])) (hp : ∀ p ∈ pre, p.1 ≠ 127) (C : CodeHd h₀ 131 127)
    (h : ∀ h' tk a c1 lx, 0 < tk → LA.Ok a → LexL w lx a 1 l [] → Fr h₀ L h' m → News h₀ L h' (pre ++ ((127, tbl2 c1 a.c') :: lx)) → (∀ p ∈ pre ++ [(127, tabObj #[])], ∀ q ∈ a.all, @LT.lt Nat _ p.1 q) → Q (.ref a.x) { s with heap := h', toks := tk }) :
    wpAny (model PG w) A (call (.ref 132) [.str (sx l) t]) Q E s := by
  have z := N (127, tabObj #[]) (List.mem_append_right _ (.head _))
  refine lexer_first (hide_gd G F z.2.2) hA hl ht z.1 (hide_code C F z.2.2) ?_
  intro h' tk a c1 htk O I hT hq hs hk
  obtain ⟨lx, X, e⟩ := I.led
  obtain ⟨F', N'⟩ := lex_ledger (lxs := []) F N hp (fun _ hp => nomatch hp) hT hk X e (fun q hm => above_own F (hq q hm))
  exact h h' tk a c1 lx htk O X F' N' fun p hm q hqm => Nat.lt_of_lt_of_le (Heap.lt_size (N p hm).1) (hq q hqm)

theorem lexerN {w : World} {A : Around} {s : Shared} {Q : Value → Shared → Prop} {E : Value → Shared → Prop} {h₀ : Heap} {L : Addr} {m : PySem.Str → Option Value} {pre lxs : List (Addr × Obj)} {l : List Nat} {t : Tok} {c1 c2 : Nat} (G : Gd w h₀) (hA : AOk A 6) (hl : l.length ≤ 1000000) (ht : 0 < s.toks)
    (F : Fr h₀ L s.heap m) (N : News h₀ L s.heap (pre ++ ((127, tbl2 c1 c2) :: lxs))) (hp : ∀ p ∈ pre, p.1 ≠ 127) (hlx : ∀ p ∈ lxs, p.1 ≠ 127) (C : CodeHd h₀ 131 127) (hc2 : s.heap.CodeRec (.ref c2) lexQ) (n2 : c2 ≠ 127) (n3 : c2 ≠ L ∧ h₀.get? c2 = none)
    (h : ∀ h' tk a lx, 0 < tk → LA.Ok a → LexL w lx a 1 l [] → a.c' = c2 → Fr h₀ L h' m → News h₀ L h' (pre ++ ((127, tbl2 c1 c2) :: (lxs ++ lx))) → (∀ p ∈ pre ++ ((127, tbl2 c1 c2) :: lxs), ∀ q ∈ a.own, @LT.lt Nat _ p.1 q) → Q (.ref a.x) { s with heap := h', toks := tk }) :
    wpAny (model PG w) A (call (.ref 132) [.str (sx l) t]) Q E s := by
  have z := N (127, tbl2 c1 c2) (List.mem_append_right _ (.head _))
  refine lexer_more (hide_gd G F z.2.2) hA hl ht z.1 hc2 n2 (hide_code C F z.2.2) ?_
  intro h' tk a htk O I ec hT hq hs hk
  obtain ⟨lx, X, e⟩ := I.led
  obtain ⟨F', N'⟩ := lex_ledger F N hp hlx hT hk X e (fun q hm => by
    by_cases hc : q = a.c'
    · rw [hc, ec]; exact n3
    · refine above_own F (hq q ?_)
      simp only [LA.all, LA.own, List.mem_cons, List.not_mem_nil, or_false] at hm ⊢
      rcases hm with h | h | h | h | h | h | h | h | h
      all_goals first | exact absurd h hc | simp [h])
  exact h h' tk a lx htk O X ec F' N' fun p hm q hqm => Nat.lt_of_lt_of_le (Heap.lt_size (N p hm).1) (hq q hqm)
end Mine

end

theorem Mine.reset_L9 : True ∧ True := by
  w_top off
  walk1 <;> trivial
section
open PySem PySem.W PyProof.Rows PySem.Calls
set_option Elab.async false
set_option maxRecDepth 100000
set_option maxHeartbeats 4000000
namespace Mine
theorem law_9 {w : World} {h₀ : Heap} {s : Shared} {L fa : Addr} {cd : Value} {dp : Nat} {fr : Option (List Env)} {gd : Option (List Code)} {un : Nat} {Q : Flow → Shared → Prop} {rest : List Stmt} (G : Gd w h₀) (hA : AOk (Around.deeper ⟨none, dp, fr, gd, un⟩ (envOfC (PySem.Str.ofString "law") lawScope L fa cd)) 20) {sc HL DL CL : Addr} {hn dn cn half times first shift : Nat} {above : Int} {ta ts tf tt th : Tok} {hv dv cv : List Value} {ds : List Nat} {oD oS oR oH : Obj} (dR : oR.data = .cell (some (.ref DL))) (hds : IntsAre dv (ds.map Int.ofNat)) (hcs : StrsAre cv ((cardsL ds).map sx)) (hdl : ds.length = 2 * half) (hdb : ∀ d ∈ ds, d ≤ 100000000) (hhf : 1 ≤ half ∧ half ≤ 4)
    (F : Fr h₀ L s.heap (fun y => if y = PySem.Str.ofString "cards" then some (.ref CL) else if y = PySem.Str.ofString "above" then some (.int above ta) else if y = PySem.Str.ofString "shift" then some (.int (shift : Nat) ts) else if y = PySem.Str.ofString "first" then some (.int (first : Nat) tf) else if y = PySem.Str.ofString "times" then some (.int (times : Nat) tt) else if y = PySem.Str.ofString "half" then some (.int (half : Nat) th) else if y = PySem.Str.ofString "script" then some (.ref sc) else none)) (N : News h₀ L s.heap [(CL, listOf (List.toArray cv) cn), (DL, listOf (List.toArray dv) dn), (HL, listOf (List.toArray hv) hn), (L + 1 + 1 + 1 + 1, oD), (L + 1 + 1 + 1, oS), (L + 1 + 1, oR), (L + 1, oH), (127, tabObj #[])])
    (hk : ∀ h' tk tu, Fr h₀ L h' (fun y => if y = PySem.Str.ofString "text" then some (.str (sx (textL (cardsL ds) ds)) tu) else if y = PySem.Str.ofString "cards" then some (.ref CL) else if y = PySem.Str.ofString "above" then some (.int above ta) else if y = PySem.Str.ofString "shift" then some (.int (shift : Nat) ts) else if y = PySem.Str.ofString "first" then some (.int (first : Nat) tf) else if y = PySem.Str.ofString "times" then some (.int (times : Nat) tt) else if y = PySem.Str.ofString "half" then some (.int (half : Nat) th) else if y = PySem.Str.ofString "script" then some (.ref sc) else none) → News h₀ L h' [(CL, listOf (List.toArray cv) cn), (DL, listOf (List.toArray dv) dn), (HL, listOf (List.toArray hv) hn), (L + 1 + 1 + 1 + 1, oD), (L + 1 + 1 + 1, oS), (L + 1 + 1, oR), (L + 1, oH), (127, tabObj #[])] → wpAny (model PG w) (Around.deeper ⟨none, dp, fr, gd, un⟩ (envOfC (PySem.Str.ofString "law") lawScope L fa cd)) (execs rest (envOfC (PySem.Str.ofString "law") lawScope L fa cd)) Q NoE { s with heap := h', toks := tk }) :
    wpAny (model PG w) (Around.deeper ⟨none, dp, fr, gd, un⟩ (envOfC (PySem.Str.ofString "law") lawScope L fa cd)) (execs (nthS lawBody 9 :: rest) (envOfC (PySem.Str.ofString "law") lawScope L fa cd)) Q NoE s := by
  have G' := G
  refine hideG fun g9 hg9 => ?_
  obtain ⟨X, p, loose, mean, mg, mb, T⟩ := G
  refine hg9 ?_
  clear hg9 g9
  have eS : lawScope = lawScope := rfl
  conv at eS => rhs; whnf
  have eT9 : nthS lawBody 9 = nthS lawBody 9 := rfl
  conv at eT9 => rhs; whnf
  rw [eT9]
  simp only [eS] at hA hk ⊢
  clear eS eT9
  iterate 10 walk1
  refine ⟨X.keeps F.keep, ?_⟩
  have lC : s.heap.IsList CL cv.toArray := ⟨_, (N (CL, listOf cv.toArray cn) (.head _)).1, rfl, _, rfl⟩
  have lD : s.heap.IsList DL dv.toArray := ⟨_, (N (DL, listOf dv.toArray dn) (.tail _ (.head _))).1, rfl, _, rfl⟩
  refine text_ok (G'.keeps F.keep) (AOk.le hA (by decide)) lC hcs lD hds (by rw [cards_len]; (first | lia | omega)) (by rw [cards_len]) (fun c hc => (cards_ok (by (first | lia | omega)) c hc).len.2) hdb ?_
  intro h1 tk1 u1 _ g1
  have F1 := Fr.grow F g1
  have N1 := News.grow N g1
  clear F N lC lD
  walk1
  (with_reducible rename Fr _ _ _ _ => F9)
  (with_reducible rename News _ _ _ _ => N9)
  exact hk _ _ _ F9 N9
end Mine

end

theorem Mine.reset_L10 : True ∧ True := by
  w_top off
  walk1 <;> trivial
section
open PySem PySem.W PyProof.Rows PySem.Calls
set_option Elab.async false
set_option maxRecDepth 100000
set_option maxHeartbeats 4000000
namespace Mine
theorem lx_own {w : World} {h₀ h : Heap} {L : Addr} {lx news : List (Addr × Obj)} {a : LA} {n : Nat} {l : List Nat} {d : List (List Nat)} (N : News h₀ L h news) (X : LexL w lx a n l d) (hs : ∀ p ∈ lx, p ∈ news) {q : Nat} (hq : q ∈ a.all) : q ≠ L ∧ h₀.get? q = none := by
  rw [← X.ad] at hq
  refine hideG fun g9 hg9 => ?_
  obtain ⟨p, hp, rfl⟩ := List.mem_map.mp hq
  refine hg9 ?_
  clear hg9 g9
  exact (N p (hs p hp)).2
theorem code_in {w : World} {h : Heap} {a : LA} {n : Nat} {l : List Nat} {d : List (List Nat)} (X : LexIn w h a n l d) : h.CodeRec (.ref a.c') lexQ := X.co'
theorem law_10 {w : World} {h₀ : Heap} {s : Shared} {L fa : Addr} {cd : Value} {dp : Nat} {fr : Option (List Env)} {gd : Option (List Code)} {un : Nat} {Q : Flow → Shared → Prop} {rest : List Stmt} (G : Gd w h₀) (hA : AOk (Around.deeper ⟨none, dp, fr, gd, un⟩ (envOfC (PySem.Str.ofString "law") lawScope L fa cd)) 20) {sc HL DL CL : Addr} {hn dn cn half times first shift : Nat} {above : Int} {ta ts tf tt th tu : Tok} {hv dv cv : List Value} {T : List Nat} {oD oS oR oH : Obj} {gD : Option Value} (dD : oD.data = .cell gD) (C : CodeHd h₀ 131 127) (ht : 0 < s.toks) (hT : T.length ≤ 1000000) (n127 : ∀ p ∈ [(CL, listOf (List.toArray cv) cn), (DL, listOf (List.toArray dv) dn), (HL, listOf (List.toArray hv) hn), (L + 1 + 1 + 1 + 1, oD), (L + 1 + 1 + 1, oS), (L + 1 + 1, oR), (L + 1, oH)], p.1 ≠ 127) (nC : @Ne Nat CL (L + 1 + 1 + 1 + 1)) (nD : @Ne Nat DL (L + 1 + 1 + 1 + 1)) (nH : @Ne Nat HL (L + 1 + 1 + 1 + 1))
    (F : Fr h₀ L s.heap (fun y => if y = PySem.Str.ofString "text" then some (.str (sx T) tu) else if y = PySem.Str.ofString "cards" then some (.ref CL) else if y = PySem.Str.ofString "above" then some (.int above ta) else if y = PySem.Str.ofString "shift" then some (.int (shift : Nat) ts) else if y = PySem.Str.ofString "first" then some (.int (first : Nat) tf) else if y = PySem.Str.ofString "times" then some (.int (times : Nat) tt) else if y = PySem.Str.ofString "half" then some (.int (half : Nat) th) else if y = PySem.Str.ofString "script" then some (.ref sc) else none)) (N : News h₀ L s.heap [(CL, listOf (List.toArray cv) cn), (DL, listOf (List.toArray dv) dn), (HL, listOf (List.toArray hv) hn), (L + 1 + 1 + 1 + 1, oD), (L + 1 + 1 + 1, oS), (L + 1 + 1, oR), (L + 1, oH), (127, tabObj #[])])
    (hk : ∀ h' tk a c1 lx oD2, Fr h₀ L h' (fun y => if y = PySem.Str.ofString "text" then some (.str (sx T) tu) else if y = PySem.Str.ofString "cards" then some (.ref CL) else if y = PySem.Str.ofString "above" then some (.int above ta) else if y = PySem.Str.ofString "shift" then some (.int (shift : Nat) ts) else if y = PySem.Str.ofString "first" then some (.int (first : Nat) tf) else if y = PySem.Str.ofString "times" then some (.int (times : Nat) tt) else if y = PySem.Str.ofString "half" then some (.int (half : Nat) th) else if y = PySem.Str.ofString "script" then some (.ref sc) else none) → News h₀ L h' ((CL, listOf (List.toArray cv) cn) :: (DL, listOf (List.toArray dv) dn) :: (HL, listOf (List.toArray hv) hn) :: (L + 1 + 1 + 1 + 1, oD2) :: (L + 1 + 1 + 1, oS) :: (L + 1 + 1, oR) :: (L + 1, oH) :: ((127, tbl2 c1 a.c') :: lx)) → LA.Ok a → LexL w lx a 1 T [] → oD2.data = .cell (some (.ref a.x)) → (∀ p ∈ [(CL, listOf (List.toArray cv) cn), (DL, listOf (List.toArray dv) dn), (HL, listOf (List.toArray hv) hn), (L + 1 + 1 + 1 + 1, oD), (L + 1 + 1 + 1, oS), (L + 1 + 1, oR), (L + 1, oH)] ++ [(127, tabObj #[])], ∀ q ∈ a.all, @LT.lt Nat _ p.1 q) → wpAny (model PG w) (Around.deeper ⟨none, dp, fr, gd, un⟩ (envOfC (PySem.Str.ofString "law") lawScope L fa cd)) (execs rest (envOfC (PySem.Str.ofString "law") lawScope L fa cd)) Q NoE { s with heap := h', toks := tk }) :
    wpAny (model PG w) (Around.deeper ⟨none, dp, fr, gd, un⟩ (envOfC (PySem.Str.ofString "law") lawScope L fa cd)) (execs (nthS lawBody 10 :: rest) (envOfC (PySem.Str.ofString "law") lawScope L fa cd)) Q NoE s := by
  have G' := G
  refine hideG fun g9 hg9 => ?_
  obtain ⟨X, p, loose, mean, mg, mb, T⟩ := G
  refine hg9 ?_
  clear hg9 g9
  have eS : lawScope = lawScope := rfl
  conv at eS => rhs; whnf
  have eT10 : nthS lawBody 10 = nthS lawBody 10 := rfl
  conv at eT10 => rhs; whnf
  rw [eT10]
  simp only [eS] at hA hk ⊢
  clear eS eT10
  iterate 8 walk1
  refine ⟨X.keeps F.keep, ?_⟩
  refine lexer1 (pre := [(CL, listOf (List.toArray cv) cn), (DL, listOf (List.toArray dv) dn), (HL, listOf (List.toArray hv) hn), (L + 1 + 1 + 1 + 1, oD), (L + 1 + 1 + 1, oS), (L + 1 + 1, oR), (L + 1, oH)]) G' (AOk.le hA (by decide)) hT ht F N n127 C ?_
  intro h1 tk1 a c1 lx htk1 O XL F1 N1 lt
  clear F N
  simp only [List.cons_append, List.nil_append] at N1
  refine' storeX_C F1 N1 ?c ?U dD ?_ ?a ?b
  (case a => rfl)
  (case b => rfl)
  (case c => rfl)
  (case U => exact .tail nC (.tail nD (.tail nH (.head (by
    intro q hq
    simp only [List.mem_cons] at hq
    rcases hq with rfl | rfl | rfl | rfl | hq
    · exact Nat.ne_of_lt (by dsimp only; (first | lia | omega))
    · exact Nat.ne_of_lt (by dsimp only; (first | lia | omega))
    · exact Nat.ne_of_lt (by dsimp only; (first | lia | omega))
    · exact Ne.symm (n127 (L + 1 + 1 + 1 + 1, oD) (.tail _ (.tail _ (.tail _ (.head _)))))
    · exact Nat.ne_of_gt (lt (L + 1 + 1 + 1 + 1, oD) (.tail _ (.tail _ (.tail _ (.head _)))) _ (XL.mem hq)))))))
  intro h2 oD2 F2 N2 dD2
  exact hk _ _ a c1 lx oD2 F2 N2 O XL dD2 lt
theorem law_11 {w : World} {h₀ : Heap} {s : Shared} {L fa : Addr} {cd : Value} {dp : Nat} {fr : Option (List Env)} {gd : Option (List Code)} {un : Nat} {Q : Flow → Shared → Prop} {rest : List Stmt} (G : Gd w h₀) (hA : AOk (Around.deeper ⟨none, dp, fr, gd, un⟩ (envOfC (PySem.Str.ofString "law") lawScope L fa cd)) 20) {sc HL DL CL : Addr} {hn dn cn half times first shift : Nat} {above : Int} {ta ts tf tt th tu : Tok} {hv dv cv : List Value} {T : List Nat} {oD oS oR oH : Obj} {a : LA} {c1 : Nat} {lx : List (Addr × Obj)} (C : CodeHd h₀ 131 127) (ht : 0 < s.toks) (XL : LexL w lx a 1 T []) (n127 : ∀ p ∈ [(CL, listOf (List.toArray cv) cn), (DL, listOf (List.toArray dv) dn), (HL, listOf (List.toArray hv) hn), (L + 1 + 1 + 1 + 1, oD), (L + 1 + 1 + 1, oS), (L + 1 + 1, oR), (L + 1, oH)], p.1 ≠ 127) (nlx : ∀ q ∈ a.all, q ≠ 127)
    (F : Fr h₀ L s.heap (fun y => if y = PySem.Str.ofString "text" then some (.str (sx T) tu) else if y = PySem.Str.ofString "cards" then some (.ref CL) else if y = PySem.Str.ofString "above" then some (.int above ta) else if y = PySem.Str.ofString "shift" then some (.int (shift : Nat) ts) else if y = PySem.Str.ofString "first" then some (.int (first : Nat) tf) else if y = PySem.Str.ofString "times" then some (.int (times : Nat) tt) else if y = PySem.Str.ofString "half" then some (.int (half : Nat) th) else if y = PySem.Str.ofString "script" then some (.ref sc) else none)) (N : News h₀ L s.heap ((CL, listOf (List.toArray cv) cn) :: (DL, listOf (List.toArray dv) dn) :: (HL, listOf (List.toArray hv) hn) :: (L + 1 + 1 + 1 + 1, oD) :: (L + 1 + 1 + 1, oS) :: (L + 1 + 1, oR) :: (L + 1, oH) :: ((127, tbl2 c1 a.c') :: lx)))
    (hk : ∀ h' tk b ly, Fr h₀ L h' (fun y => if y = PySem.Str.ofString "upper" then some (.ref b.x) else if y = PySem.Str.ofString "text" then some (.str (sx T) tu) else if y = PySem.Str.ofString "cards" then some (.ref CL) else if y = PySem.Str.ofString "above" then some (.int above ta) else if y = PySem.Str.ofString "shift" then some (.int (shift : Nat) ts) else if y = PySem.Str.ofString "first" then some (.int (first : Nat) tf) else if y = PySem.Str.ofString "times" then some (.int (times : Nat) tt) else if y = PySem.Str.ofString "half" then some (.int (half : Nat) th) else if y = PySem.Str.ofString "script" then some (.ref sc) else none) → News h₀ L h' ((CL, listOf (List.toArray cv) cn) :: (DL, listOf (List.toArray dv) dn) :: (HL, listOf (List.toArray hv) hn) :: (L + 1 + 1 + 1 + 1, oD) :: (L + 1 + 1 + 1, oS) :: (L + 1 + 1, oR) :: (L + 1, oH) :: ((127, tbl2 c1 a.c') :: (lx ++ ly))) → LA.Ok b → LexL w ly b 1 [] [] → b.c' = a.c' → (∀ p ∈ [(CL, listOf (List.toArray cv) cn), (DL, listOf (List.toArray dv) dn), (HL, listOf (List.toArray hv) hn), (L + 1 + 1 + 1 + 1, oD), (L + 1 + 1 + 1, oS), (L + 1 + 1, oR), (L + 1, oH)] ++ ((127, tbl2 c1 a.c') :: lx), ∀ q ∈ b.own, @LT.lt Nat _ p.1 q) → wpAny (model PG w) (Around.deeper ⟨none, dp, fr, gd, un⟩ (envOfC (PySem.Str.ofString "law") lawScope L fa cd)) (execs rest (envOfC (PySem.Str.ofString "law") lawScope L fa cd)) Q NoE { s with heap := h', toks := tk }) :
    wpAny (model PG w) (Around.deeper ⟨none, dp, fr, gd, un⟩ (envOfC (PySem.Str.ofString "law") lawScope L fa cd)) (execs (nthS lawBody 11 :: rest) (envOfC (PySem.Str.ofString "law") lawScope L fa cd)) Q NoE s := by
  have G' := G
  refine hideG fun g9 hg9 => ?_
  obtain ⟨X, p, loose, mean, mg, mb, T⟩ := G
  refine hg9 ?_
  clear hg9 g9
  have eS : lawScope = lawScope := rfl
  conv at eS => rhs; whnf
  have eT11 : nthS lawBody 11 = nthS lawBody 11 := rfl
  conv at eT11 => rhs; whnf
  rw [eT11]
  simp only [eS] at hA hk ⊢
  clear eS eT11
  have eE : PySem.Str.ofString "" = sx [] := by decide +kernel
  iterate 8 walk1
  refine ⟨X.keeps F.keep, ?_⟩
  rw [eE]
  have sl : ∀ p ∈ lx, p ∈ [(CL, listOf (List.toArray cv) cn), (DL, listOf (List.toArray dv) dn), (HL, listOf (List.toArray hv) hn), (L + 1 + 1 + 1 + 1, oD), (L + 1 + 1 + 1, oS), (L + 1 + 1, oR), (L + 1, oH)] ++ ((127, tbl2 c1 a.c') :: lx) := fun p hp => List.mem_append_right _ (.tail _ hp)
  have ca : a.c' ∈ a.all := by simp [LA.all]
  refine lexerN (pre := [(CL, listOf (List.toArray cv) cn), (DL, listOf (List.toArray dv) dn), (HL, listOf (List.toArray hv) hn), (L + 1 + 1 + 1 + 1, oD), (L + 1 + 1 + 1, oS), (L + 1 + 1, oR), (L + 1, oH)]) (lxs := lx) (c1 := c1) (c2 := a.c') G' (AOk.le hA (by decide)) (by decide) (Nat.succ_pos _) F N n127 (fun p hp => nlx _ (XL.mem hp)) C (code_in (XL.lex N sl)) (nlx _ ca) (lx_own N XL sl ca) ?_
  intro h1 tk1 b ly htk1 O YL ec F1 N1 lt
  clear F N
  walk1
  (with_reducible rename Fr _ _ _ _ => F9)
  (with_reducible rename News _ _ _ _ => N9)
  exact hk _ _ b ly F9 N9 O YL ec lt
theorem law_12 {w : World} {h₀ : Heap} {s : Shared} {L fa : Addr} {cd : Value} {dp : Nat} {fr : Option (List Env)} {gd : Option (List Code)} {un : Nat} {Q : Flow → Shared → Prop} {rest : List Stmt} (G : Gd w h₀) (hA : AOk (Around.deeper ⟨none, dp, fr, gd, un⟩ (envOfC (PySem.Str.ofString "law") lawScope L fa cd)) 20) {sc HL DL CL : Addr} {hn dn cn half times first shift : Nat} {above : Int} {ta ts tf tt th tu : Tok} {hv dv cv : List Value} {T : List Nat} {oD oS oR oH : Obj} {a b : LA} {c1 : Nat} {lx ly : List (Addr × Obj)} (C : CodeHd h₀ 131 127) (ht : 0 < s.toks) (XL : LexL w lx a 1 T []) (YL : LexL w ly b 1 [] []) (n127 : ∀ p ∈ [(CL, listOf (List.toArray cv) cn), (DL, listOf (List.toArray dv) dn), (HL, listOf (List.toArray hv) hn), (L + 1 + 1 + 1 + 1, oD), (L + 1 + 1 + 1, oS), (L + 1 + 1, oR), (L + 1, oH)], p.1 ≠ 127) (nlx : ∀ q ∈ a.all, q ≠ 127) (nly : ∀ q ∈ b.all, q ≠ 127)
    (F : Fr h₀ L s.heap (fun y => if y = PySem.Str.ofString "upper" then some (.ref b.x) else if y = PySem.Str.ofString "text" then some (.str (sx T) tu) else if y = PySem.Str.ofString "cards" then some (.ref CL) else if y = PySem.Str.ofString "above" then some (.int above ta) else if y = PySem.Str.ofString "shift" then some (.int (shift : Nat) ts) else if y = PySem.Str.ofString "first" then some (.int (first : Nat) tf) else if y = PySem.Str.ofString "times" then some (.int (times : Nat) tt) else if y = PySem.Str.ofString "half" then some (.int (half : Nat) th) else if y = PySem.Str.ofString "script" then some (.ref sc) else none)) (N : News h₀ L s.heap ((CL, listOf (List.toArray cv) cn) :: (DL, listOf (List.toArray dv) dn) :: (HL, listOf (List.toArray hv) hn) :: (L + 1 + 1 + 1 + 1, oD) :: (L + 1 + 1 + 1, oS) :: (L + 1 + 1, oR) :: (L + 1, oH) :: ((127, tbl2 c1 a.c') :: (lx ++ ly))))
    (hk : ∀ h' tk c lz, Fr h₀ L h' (fun y => if y = PySem.Str.ofString "lower" then some (.ref c.x) else if y = PySem.Str.ofString "upper" then some (.ref b.x) else if y = PySem.Str.ofString "text" then some (.str (sx T) tu) else if y = PySem.Str.ofString "cards" then some (.ref CL) else if y = PySem.Str.ofString "above" then some (.int above ta) else if y = PySem.Str.ofString "shift" then some (.int (shift : Nat) ts) else if y = PySem.Str.ofString "first" then some (.int (first : Nat) tf) else if y = PySem.Str.ofString "times" then some (.int (times : Nat) tt) else if y = PySem.Str.ofString "half" then some (.int (half : Nat) th) else if y = PySem.Str.ofString "script" then some (.ref sc) else none) → News h₀ L h' ((CL, listOf (List.toArray cv) cn) :: (DL, listOf (List.toArray dv) dn) :: (HL, listOf (List.toArray hv) hn) :: (L + 1 + 1 + 1 + 1, oD) :: (L + 1 + 1 + 1, oS) :: (L + 1 + 1, oR) :: (L + 1, oH) :: ((127, tbl2 c1 a.c') :: ((lx ++ ly) ++ lz))) → LA.Ok c → LexL w lz c 1 [] [] → c.c' = a.c' → (∀ p ∈ [(CL, listOf (List.toArray cv) cn), (DL, listOf (List.toArray dv) dn), (HL, listOf (List.toArray hv) hn), (L + 1 + 1 + 1 + 1, oD), (L + 1 + 1 + 1, oS), (L + 1 + 1, oR), (L + 1, oH)] ++ ((127, tbl2 c1 a.c') :: (lx ++ ly)), ∀ q ∈ c.own, @LT.lt Nat _ p.1 q) → wpAny (model PG w) (Around.deeper ⟨none, dp, fr, gd, un⟩ (envOfC (PySem.Str.ofString "law") lawScope L fa cd)) (execs rest (envOfC (PySem.Str.ofString "law") lawScope L fa cd)) Q NoE { s with heap := h', toks := tk }) :
    wpAny (model PG w) (Around.deeper ⟨none, dp, fr, gd, un⟩ (envOfC (PySem.Str.ofString "law") lawScope L fa cd)) (execs (nthS lawBody 12 :: rest) (envOfC (PySem.Str.ofString "law") lawScope L fa cd)) Q NoE s := by
  have G' := G
  refine hideG fun g9 hg9 => ?_
  obtain ⟨X, p, loose, mean, mg, mb, T⟩ := G
  refine hg9 ?_
  clear hg9 g9
  have eS : lawScope = lawScope := rfl
  conv at eS => rhs; whnf
  have eT12 : nthS lawBody 12 = nthS lawBody 12 := rfl
  conv at eT12 => rhs; whnf
  rw [eT12]
  simp only [eS] at hA hk ⊢
  clear eS eT12
  have eE : PySem.Str.ofString "" = sx [] := by decide +kernel
  iterate 8 walk1
  refine ⟨X.keeps F.keep, ?_⟩
  rw [eE]
  have sl : ∀ p ∈ lx, p ∈ [(CL, listOf (List.toArray cv) cn), (DL, listOf (List.toArray dv) dn), (HL, listOf (List.toArray hv) hn), (L + 1 + 1 + 1 + 1, oD), (L + 1 + 1 + 1, oS), (L + 1 + 1, oR), (L + 1, oH)] ++ ((127, tbl2 c1 a.c') :: (lx ++ ly)) := fun p hp => List.mem_append_right _ (.tail _ (List.mem_append_left _ hp))
  have ca : a.c' ∈ a.all := by simp [LA.all]
  refine lexerN (pre := [(CL, listOf (List.toArray cv) cn), (DL, listOf (List.toArray dv) dn), (HL, listOf (List.toArray hv) hn), (L + 1 + 1 + 1 + 1, oD), (L + 1 + 1 + 1, oS), (L + 1 + 1, oR), (L + 1, oH)]) (lxs := lx ++ ly) (c1 := c1) (c2 := a.c') G' (AOk.le hA (by decide)) (by decide) (Nat.succ_pos _) F N n127 (fun p hp => by
    rcases List.mem_append.mp hp with hp | hp
    · exact nlx _ (XL.mem hp)
    · exact nly _ (YL.mem hp)) C (code_in (XL.lex N sl)) (nlx _ ca) (lx_own N XL sl ca) ?_
  intro h1 tk1 c lz htk1 O ZL ec F1 N1 lt
  clear F N
  walk1
  (with_reducible rename Fr _ _ _ _ => F9)
  (with_reducible rename News _ _ _ _ => N9)
  exact hk _ _ c lz F9 N9 O ZL ec lt
end Mine

end

theorem Mine.reset_L11 : True ∧ True := by
  w_top off
  walk1 <;> trivial
section
open PySem PySem.W PyProof.Rows PySem.Calls PyProof.V PySem.Spec
set_option Elab.async false
set_option maxRecDepth 100000
set_option maxHeartbeats 1000000
namespace Mine
/-! lists of texts compared -/
theorem st_lay : ∀ ns : List PySem.Str, (∀ x ∈ ns, PyData.strOk x = true) → PyData.canLayAll0 (ns.map PyData.str) = true
  | [], _ => rfl
  | x :: r, h => by simp [PyData.canLayAll0, PyData.canLay0, h x (.head _), st_lay r fun y hy => h y (.tail _ hy)]
theorem st_depth : ∀ ns : List PySem.Str, PyData.depthAll (ns.map PyData.str) = 0
  | [] => rfl
  | _ :: r => by simp [PyData.depthAll, PyData.depth, st_depth r]
theorem st_shaped (ns : List PySem.Str) (h : ∀ x ∈ ns, PyData.strOk x = true) : SeqAt.shaped (.list (ns.map PyData.str)) = true := by
  simp [SeqAt.shaped, PyData.canLay0, PyData.depth, st_lay ns h, st_depth]
theorem st_sameAll : ∀ ns : List PySem.Str, PySem.Spec.sameAll (ns.map PyData.str) (ns.map PyData.str) = true
  | [] => by simp [PySem.Spec.sameAll]
  | _ :: r => by simp [PySem.Spec.sameAll, PySem.Spec.same, st_sameAll r]
theorem st_same (ns : List PySem.Str) : PySem.Spec.same (.list (ns.map PyData.str)) (.list (ns.map PyData.str)) = true := by
  simp only [PySem.Spec.same]; exact st_sameAll ns
theorem st_carried : ∀ {vs : List Value} {ns : List PySem.Str}, StrsAre vs ns → CarriedAll vs (ns.map PyData.str)
  | _, _, .nil => .nil
  | _, _, .cons _ t r => .cons (.str _ t) (st_carried r)
section
variable {prog : Program} {w : World} {A : Around} {E : Value → Shared → Prop} {s : Shared} {a b : Addr} {xs ys : List Value} {ns : List PySem.Str} {Q : Value → Shared → Prop}
theorem eq_strs (ha : s.heap.IsList a xs.toArray) (hb : s.heap.IsList b ys.toArray) (hi : StrsAre xs ns) (hj : StrsAre ys ns) (ho : ∀ x ∈ ns, PyData.strOk x = true) (hu : A.units + 64 < cLine) (h : Q (.bool true) s) :
    wpAny (model prog w) A (compareOp .Eq (.ref a) (.ref b)) Q E s :=
  eq_dataH_same (reads_newData ha (st_carried hi)) (reads_newData hb (st_carried hj)) (st_shaped _ ho) (st_shaped _ ho) hu (SeqAt.noMix_of_shape (.list .str) rfl _ _ (list_map_has fun _ => rfl) (list_map_has fun _ => rfl)) (by rw [st_same]; exact h)
theorem ne_strs (ha : s.heap.IsList a xs.toArray) (hb : s.heap.IsList b ys.toArray) (hi : StrsAre xs ns) (hj : StrsAre ys ns) (ho : ∀ x ∈ ns, PyData.strOk x = true) (hu : A.units + 64 < cLine) (h : Q (.bool false) s) :
    wpAny (model prog w) A (compareOp .NotEq (.ref a) (.ref b)) Q E s :=
  ne_dataH_same (reads_newData ha (st_carried hi)) (reads_newData hb (st_carried hj)) (st_shaped _ ho) (st_shaped _ ho) hu (SeqAt.noMix_of_shape (.list .str) rfl _ _ (list_map_has fun _ => rfl) (list_map_has fun _ => rfl)) (by rw [st_same]; exact h)
end
theorem cnt_count (c : Nat) : ∀ l : List Nat, cnt c l = ((l.count c : Nat) : Int)
  | [] => rfl
  | n :: r => by
    rw [cnt_cons, cnt_count c r, List.count_cons]
    by_cases h : n = c <;> simp [h] <;> (first | lia | omega)
theorem count_sx (l : List Nat) (c : Nat) : Txt.count (sx l) (sx [c]) = ((l.count c : Nat) : Int) := by
  have := count_is (sx l) c
  show Txt.count (sx l) ⟨#[c]⟩ = _
  rw [this, sx_toList]
  exact cnt_count c l

/-! a deck's tokens, one a turn -/
theorem off3_map {I C D : Addr} : ∀ {l l' : List (Addr × Obj)}, l'.map Prod.fst = l.map Prod.fst → LCg.Off3 I C D l → LCg.Off3 I C D l'
  | [], [], _, _ => trivial
  | [], _ :: _, e, _ => by simp at e
  | _ :: _, [], e, _ => by simp at e
  | p :: l, q :: l', e, h => by
    simp only [List.map_cons, List.cons.injEq] at e
    exact ⟨by rw [e.1]; exact h.1, off3_map e.2 h.2⟩
/-- a lexer's token, by a word of its state -/
noncomputable def TokStep (w : World) (a : LA) (P : Nat → Nat → List Nat → List (List Nat) → Prop) (tok : Nat → List Nat) (n : Nat) : Prop :=
  ∀ {j line : Nat} {left : List Nat} {pbk : List (List Nat)}, j < n → P j line left pbk → ∀ {A : Around} {s : Shared} {Q : Value → Shared → Prop} {E : Value → Shared → Prop}, Gd w (hideAll s.heap a.all) → AOk A 8 → LexIn w s.heap a line left pbk →
    (∀ h' tk u line' left' pbk', P (j + 1) line' left' pbk' → LexIn w h' a line' left' pbk' → (∀ b o, s.heap.get? b = some o → b ∉ a.mut → h'.get? b = some o) → Q (.str (sx (tok j)) u) { s with heap := h', toks := tk }) →
    wpAny (model PG w) A (call (.ref 50) [.ref a.x]) Q E s
theorem tok_read {w : World} {a : LA} (O : a.Ok) {P : Nat → Nat → List Nat → List (List Nat) → Prop} {tok : Nat → List Nat} {n : Nat} {rem : Nat → List Nat} {tot : Nat} (hr : ∀ j, j < n → rdO (rem j) = (tok j, rem (j + 1))) (hl : ∀ j, j < n → (rem j).length ≤ 1000000)
    (hP : ∀ j line left pbk, P j line left pbk ↔ left = rem j ∧ pbk = [] ∧ line + (rem j).count 10 = tot) : TokStep w a P tok n := by
  intro j line left pbk hj p A s Q E G hA I h
  refine hideG fun g9 hg9 => ?_
  obtain ⟨rfl, rfl, hc⟩ := (hP _ _ _ _).mp p
  refine hg9 ?_
  clear hg9 g9
  refine gettok_read G hA O I (hl j hj) fun h' tk u line' _ I' hc' _ k => ?_
  rw [hr j hj] at I' hc' ⊢
  exact h h' tk u line' _ _ ((hP _ _ _ _).mpr ⟨rfl, rfl, by dsimp only at hc'; (first | lia | omega)⟩) I' k
theorem tok_push {w : World} {a : LA} (O : a.Ok) {P : Nat → Nat → List Nat → List (List Nat) → Prop} {D : List (List Nat)} (hD : D.length ≤ 1000) {line0 : Nat} {left0 : List Nat}
    (hP : ∀ j line left pbk, P j line left pbk ↔ line = line0 ∧ left = left0 ∧ pbk = D.drop j) : TokStep w a P (fun j => D.getD j []) D.length := by
  intro j line left pbk hj p A s Q E G hA I h
  refine hideG fun g9 hg9 => ?_
  obtain ⟨rfl, rfl, rfl⟩ := (hP _ _ _ _).mp p
  refine hg9 ?_
  clear hg9 g9
  rw [List.drop_eq_getElem_cons hj] at I
  refine gettok_push G (AOk.le hA (by decide)) O I (by rw [List.length_drop]; (first | lia | omega)) fun h' tk u _ I' _ k => ?_
  have e : D.getD j [] = D[j] := by rw [List.getD_eq_getElem?_getD, List.getElem?_eq_getElem hj]; rfl
  have h2 := h h' tk u _ _ _ ((hP _ _ _ _).mpr ⟨rfl, rfl, rfl⟩) I' k
  dsimp only at h2
  rwa [e] at h2

/-- what stands between two turns -/
noncomputable def RJ (w : World) (a : LA) (P : Nat → Nat → List Nat → List (List Nat) → Prop) (tok : Nat → List Nat) (p1 p2 : Addr × Obj) (ly lz : List (Addr × Obj)) (j : Nat) (ys : List Value) (news : List (Addr × Obj)) : Prop :=
  ∃ lx line left pbk, news = p1 :: p2 :: (lx ++ (ly ++ lz)) ∧ LexL w lx a line left pbk ∧ P j line left pbk ∧ StrsAre ys (((List.range j).map tok).map sx)
theorem tok_turn {w : World} {A : Around} {s : Shared} {E : Value → Shared → Prop} {h₀ : Heap} {L : Addr} {m : PySem.Str → Option Value} {I C D : Addr} {oI oC : Obj} {ys : List Value} {news : List (Addr × Obj)} {j n : Nat} {a b c : LA} {nb nc : Nat} {tb tc : List Nat} {db dc : List (List Nat)}
    {P : Nat → Nat → List Nat → List (List Nat) → Prop} {tok : Nat → List Nat} {CL : Addr} {its : Array Value} {k : Nat} {p2 : Addr × Obj} {ly lz : List (Addr × Obj)} (G : Gd w h₀) (hA : AOk A 8) (step : TokStep w a P tok n) (hj : j < n)
    (pab : Apart a b) (pac : Apart a c) (YL : LexL w ly b nb tb db) (ZL : LexL w lz c nc tc dc) (n1 : CL ∉ a.all) (n2 : p2.1 ∉ a.all)
    (F : Fr h₀ L s.heap m) (N : News h₀ L s.heap ((I, oI) :: (C, oC) :: (D, LCg.lst ys) :: news)) (off : LCg.Off3 I C D news) (J : RJ w a P tok (CL, { cls := .type "list", data := .seq its k }) p2 ly lz j ys news) :
    wpAny (model PG w) A (call (.ref 50) [.ref a.x]) (LCg.CompEnd h₀ L m s I oI C oC D (LCg.lst ys) (LCg.SrcAt h₀ CL its) (fun y news' => RJ w a P tok (CL, { cls := .type "list", data := .seq its k }) p2 ly lz (j + 1) (ys ++ [y]) news')) E s := by
  refine hideG fun g9 hg9 => ?_
  obtain ⟨lx, line, left, pbk, rfl, XL, p, hys⟩ := J
  refine hg9 ?_
  clear hg9 g9
  have sl : ∀ q ∈ lx, q ∈ (I, oI) :: (C, oC) :: (D, LCg.lst ys) :: (CL, ({ cls := .type "list", data := .seq its k } : Obj)) :: p2 :: (lx ++ (ly ++ lz)) := fun q hq => .tail _ (.tail _ (.tail _ (.tail _ (.tail _ (List.mem_append_left _ hq)))))
  refine step hj p (gdL G F N XL sl) hA (XL.lex N sl) ?_
  intro h' tk u line' left' pbk' p' I' kk
  have hpre : ∀ q ∈ [(I, oI), (C, oC), (D, LCg.lst ys), (CL, ({ cls := .type "list", data := .seq its k } : Obj)), p2], q.1 ∉ a.mut := by
    have ino : ∀ x, x ∈ a.mut → x ≠ I ∧ x ≠ C ∧ x ≠ D := fun x hx => by
      have hx := mut_all hx
      rw [← XL.ad] at hx
      refine hideG fun g9 hg9 => ?_
      obtain ⟨q, hq, rfl⟩ := List.mem_map.mp hx
      refine hg9 ?_
      clear hg9 g9
      exact off.mem q (.tail _ (.tail _ (List.mem_append_left _ hq)))
    intro q hq hm
    simp only [List.mem_cons, List.not_mem_nil, or_false] at hq
    rcases hq with rfl | rfl | rfl | rfl | rfl
    · exact (ino _ hm).1 rfl
    · exact (ino _ hm).2.1 rfl
    · exact (ino _ hm).2.2 rfl
    · exact n1 (mut_all hm)
    · exact n2 (mut_all hm)
  refine hideG fun g9 hg9 => ?_
  obtain ⟨lx', XL', F', N'⟩ := tri1 (pre := [(I, oI), (C, oC), (D, LCg.lst ys), (CL, ({ cls := .type "list", data := .seq its k } : Obj)), p2]) F N XL YL ZL pab pac hpre I' kk
  refine hg9 ?_
  clear hg9 g9
  refine LCg.CompEnd.intro F' N' ((CL, { cls := .type "list", data := .seq its k }) :: p2 :: (lx' ++ (ly ++ lz))) (fun _ h => h) (off3_map ?_ off) (.inr ⟨_, .head _, rfl, _, rfl⟩) ⟨lx', line', left', pbk', rfl, XL', p', ?_⟩
  · simp only [List.map_cons, List.map_append, XL.ad, XL'.ad]
  · rw [List.range_succ, List.map_append, List.map_append]
    exact strsAre_snoc hys
end Mine

end

theorem Mine.reset_L13 : True ∧ True := by
  w_top off
  walk1 <;> trivial
section
open PySem PySem.W PyProof.Rows PySem.Calls
set_option Elab.async false
set_option maxRecDepth 100000
set_option maxHeartbeats 4000000
namespace Mine
theorem law_13 {w : World} {h₀ : Heap} {s : Shared} {L fa : Addr} {cd : Value} {dp : Nat} {fr : Option (List Env)} {gd : Option (List Code)} {un : Nat} {Q : Flow → Shared → Prop} {rest : List Stmt} (G : Gd w h₀) (hA : AOk (Around.deeper ⟨none, dp, fr, gd, un⟩ (envOfC (PySem.Str.ofString "law") lawScope L fa cd)) 20) {sc CL : Addr} {cn half times first shift : Nat} {above : Int} {ta ts tf tt th tu : Tok} {cv : List Value} {TX : List Nat} {oD : Obj} {a b c : LA} {lx ly lz : List (Addr × Obj)} {cards : List (List Nat)} (dD : oD.data = .cell (some (.ref a.x))) (hcs : StrsAre cv (cards.map sx)) (hcl : cards.length ≤ 8) (Oa : LA.Ok a) (pab : Apart a b) (pac : Apart a c) (nCL : CL ∉ a.all) (nDK : (L + 1 + 1 + 1 + 1) ∉ a.all) (hok : ∀ x ∈ cards.map sx, PyData.strOk x = true) (XL : LexL w lx a 1 TX []) (YL : LexL w ly b 1 [] []) (ZL : LexL w lz c 1 [] []) {P : Nat → Nat → List Nat → List (List Nat) → Prop} {tok : Nat → List Nat} (step : TokStep w a P tok cards.length) (p0 : P 0 1 TX []) (etok : (List.range cards.length).map tok = cards) (pN : ∀ line left pbk, P cards.length line left pbk → left = [46] ∧ pbk = [] ∧ line = 1 + TX.count 10) (hTX : TX.length ≤ 1000000)
    (F : Fr h₀ L s.heap (fun y => if y = PySem.Str.ofString "lower" then some (.ref c.x) else if y = PySem.Str.ofString "upper" then some (.ref b.x) else if y = PySem.Str.ofString "text" then some (.str (sx TX) tu) else if y = PySem.Str.ofString "cards" then some (.ref CL) else if y = PySem.Str.ofString "above" then some (.int above ta) else if y = PySem.Str.ofString "shift" then some (.int (shift : Nat) ts) else if y = PySem.Str.ofString "first" then some (.int (first : Nat) tf) else if y = PySem.Str.ofString "times" then some (.int (times : Nat) tt) else if y = PySem.Str.ofString "half" then some (.int (half : Nat) th) else if y = PySem.Str.ofString "script" then some (.ref sc) else none)) (N : News h₀ L s.heap ((CL, listOf (List.toArray cv) cn) :: (L + 1 + 1 + 1 + 1, oD) :: (lx ++ (ly ++ lz))))
    (hk : ∀ h' tk lx' line, Fr h₀ L h' (fun y => if y = PySem.Str.ofString "lower" then some (.ref c.x) else if y = PySem.Str.ofString "upper" then some (.ref b.x) else if y = PySem.Str.ofString "text" then some (.str (sx TX) tu) else if y = PySem.Str.ofString "cards" then some (.ref CL) else if y = PySem.Str.ofString "above" then some (.int above ta) else if y = PySem.Str.ofString "shift" then some (.int (shift : Nat) ts) else if y = PySem.Str.ofString "first" then some (.int (first : Nat) tf) else if y = PySem.Str.ofString "times" then some (.int (times : Nat) tt) else if y = PySem.Str.ofString "half" then some (.int (half : Nat) th) else if y = PySem.Str.ofString "script" then some (.ref sc) else none) → News h₀ L h' ((CL, listOf (List.toArray cv) cn) :: (L + 1 + 1 + 1 + 1, oD) :: (lx' ++ (ly ++ lz))) → LexL w lx' a line [46] [] → wpAny (model PG w) (Around.deeper ⟨none, dp, fr, gd, un⟩ (envOfC (PySem.Str.ofString "law") lawScope L fa cd)) (execs rest (envOfC (PySem.Str.ofString "law") lawScope L fa cd)) Q NoE { s with heap := h', toks := tk }) :
    wpAny (model PG w) (Around.deeper ⟨none, dp, fr, gd, un⟩ (envOfC (PySem.Str.ofString "law") lawScope L fa cd)) (execs (nthS lawBody 13 :: rest) (envOfC (PySem.Str.ofString "law") lawScope L fa cd)) Q NoE s := by
  have G' := G
  refine hideG fun g9 hg9 => ?_
  obtain ⟨X, p, loose, mean, mg, mb, T⟩ := G
  refine hg9 ?_
  clear hg9 g9
  have eS : lawScope = lawScope := rfl
  conv at eS => rhs; whnf
  have eT13 : nthS lawBody 13 = nthS lawBody 13 := rfl
  conv at eT13 => rhs; whnf
  rw [eT13]
  simp only [eS] at hA hk ⊢
  clear eS eT13
  iterate 4 walk1
  refine LCg.ListComp_U F (by with_unfolding_all rfl) (by decide) rfl (by decide) rfl ?_
  iterate 1 walk1
  refine LCg.CompSrc.ledger (ax := CL) (its := cv.toArray) (k := cn) rfl F N (.head _) (by rw [List.size_toArray, sizeLine_eq]; have := hcs.length; rw [List.length_map] at this; (first | lia | omega)) ?_
  intro g
  have hcv : cv.toArray.size = cards.length := by rw [List.size_toArray, hcs.length, List.length_map]
  rw [hcv]
  refine comp_inv (RJ w a P tok (CL, listOf (List.toArray cv) cn) (L + 1 + 1 + 1 + 1, oD) ly lz) ⟨lx, 1, TX, [], rfl, XL, p0, .nil⟩ ?_ ?_
  · intro j ys news v I oI C oC D m₂ h7 tk7 E' hj hv hJ hoC hm₂ F7 N7 off ne
    clear F N
    have hJ' := hJ
    refine hideG fun g9 hg9 => ?_
    obtain ⟨lx', line, left, pbk, rfl, XL', p7, hys⟩ := hJ'
    refine hg9 ?_
    clear hg9 g9
    have s7 : ∀ q ∈ lx', q ∈ (I, oI) :: (C, oC) :: (D, LCg.lst ys) :: (CL, listOf (List.toArray cv) cn) :: (L + 1 + 1 + 1 + 1, oD) :: (lx' ++ (ly ++ lz)) := fun q hq => .tail _ (.tail _ (.tail _ (.tail _ (.tail _ (List.mem_append_left _ hq)))))
    iterate 3 walk1
    refine lex_meth (X.keeps F7.keep) (XL'.lex N7 s7) (by k_is) (f := 50) (by k_is) (by k_is) (fun _ _ _ _ _ _ => by kernel_rfl) ?_
    walk1
    exact tok_turn G' (AOk.le hA (by decide)) step hj pab pac YL ZL nCL nDK F7 N7 off hJ
  · intro ys news hJ
    refine hideG fun g9 hg9 => ?_
    obtain ⟨lx', line, left, pbk, rfl, XL', p7, hys⟩ := hJ
    refine hg9 ?_
    clear hg9 g9
    refine hideG fun g9 hg9 => ?_
    obtain ⟨rfl, rfl, eline⟩ := pN _ _ _ p7
    refine hg9 ?_
    clear hg9 g9
    rw [etok] at hys
    intro D h7 tk7 F7 N7 off
    clear F N
    iterate 1 walk1
    refine ne_strs ⟨_, (N7 (D, LCg.lst ys) (.head _)).1, rfl, _, rfl⟩ ⟨_, (N7 (CL, listOf (List.toArray cv) cn) (.tail _ (.head _))).1, rfl, _, rfl⟩ hys hcs hok (by have := hA.units; (first | lia | omega)) ?_
    have N8 : News h₀ L h7 ((CL, listOf (List.toArray cv) cn) :: (L + 1 + 1 + 1 + 1, oD) :: (lx' ++ (ly ++ lz))) := fun q hq => N7 q (.tail _ hq)
    clear N7 off
    iterate 6 walk1
    have s8 : ∀ q ∈ lx', q ∈ ((CL, listOf (List.toArray cv) cn) :: (L + 1 + 1 + 1 + 1, oD) :: (lx' ++ (ly ++ lz))) := fun q hq => .tail _ (.tail _ (List.mem_append_left _ hq))
    have I8 := XL'.lex N8 s8
    refine hideG fun g9 hg9 => ?_
    obtain ⟨k1, k2, k3, k4, t1, t3, d8⟩ := I8.dxo
    refine hg9 ?_
    clear hg9 g9
    have x8 := I8.xo
    have o1 : a.x ∈ a.all := by simp [LA.all]
    have o2 : a.dx ∈ a.all := by simp [LA.all]
    have N9 : News h₀ L h7 ((a.x, instObj 60 a.dx) :: (a.dx, lexD w k1 k2 k3 k4 t1 t3 line a.f a.pb) :: ((CL, listOf (List.toArray cv) cn) :: (L + 1 + 1 + 1 + 1, oD) :: (lx' ++ (ly ++ lz)))) := fun q hq => by
      rcases List.mem_cons.mp hq with rfl | hq
      · exact ⟨x8, lx_own N8 XL' s8 o1⟩
      rcases List.mem_cons.mp hq with rfl | hq
      · exact ⟨d8, lx_own N8 XL' s8 o2⟩
      · exact N8 q hq
    clear N8 I8 d8 x8
    dsimp only
    iterate 9 walk1
    dsimp only
    iterate 3 walk1
    dsimp only
    have ec : Txt.count (sx TX) (PySem.Str.ofString "\n") = ((TX.count 10 : Nat) : Int) := by
      rw [show PySem.Str.ofString "\n" = sx [10] by decide +kernel]; exact count_sx TX 10
    have e2 : ((line : Nat) : Int) = 1 + ((TX.count 10 : Nat) : Int) := by (first | lia | omega)
    rw [ec, e2]
    generalize (1 : Int) + ((TX.count 10 : Nat) : Int) = z
    iterate 3 walk1
    · rename_i hz
      exact absurd hz (by simp)
    · iterate 3 walk1
      refine wpAny_execs_nil ?_
      dsimp only
      exact hk _ _ lx' line F7 (fun q hq => N9 q (.tail _ (.tail _ hq))) XL'
end Mine

end

theorem Mine.reset_L12 : True ∧ True := by
  w_top off
  walk1 <;> trivial
section
open PySem PySem.W PyProof.Rows PySem.Calls
set_option Elab.async false
set_option maxRecDepth 100000
set_option maxHeartbeats 1000000
namespace Mine
section
variable {prog : Program} {w : World} {A : Around} {s : Shared} {env : Env} {h₀ : Heap} {x : PySem.Str} {px pos : Pos} {iter : Expr} {body orelse : List Stmt} {Q : Flow → Shared → Prop}
/-- a loop over a list that the call has made -/
theorem loop_led {l : Addr} {items : Array Value} {ln : Nat} {m₀ : PySem.Str → Option Value} {news : List (Addr × Obj)} (J : Nat → (PySem.Str → Option Value) → List (Addr × Obj) → Prop)
    (hh : A.handled = none) (hx : env.kindOf x = some .local) (hp : (env.scope.kind == .class || (env.scope.kind == .module && env.locals != env.globals)) = false)
    (hl : ∀ i m₁ news₁, J i m₁ news₁ → (l, ({ cls := .type "list", data := .seq items ln } : Obj)) ∈ news₁) (F : Fr h₀ env.locals s.heap m₀) (N : News h₀ env.locals s.heap news) (j0 : J 0 m₀ news)
    (hJ : ∀ i m₁ news₁, J i m₁ news₁ → ∀ p ∈ news₁, p.1 ∈ news.map (·.1))
    (turn : ∀ i v m₁ news₁ h tk I o, i < items.size → items[i]? = some v → J i m₁ news₁ → s.toks ≤ tk → env.locals < I → (∀ p ∈ news, p.1 < I) → Fr h₀ env.locals h (fun y => if y = x then some v else m₁ y) → News h₀ env.locals h ((I, o) :: news₁) →
      wpAny (model prog w) A (execs body env) (LPost (TurnEnd h₀ env.locals I o (J (i + 1)) { s with heap := h, toks := tk }) Q) NoE { s with heap := h, toks := tk })
    (done : ∀ m₁ news₁ h tk, J items.size m₁ news₁ → s.toks ≤ tk → Fr h₀ env.locals h m₁ → News h₀ env.locals h news₁ → wpAny (model prog w) A (execs orelse env) Q NoE { s with heap := h, toks := tk }) :
    wpAny (model prog w) A (pyIter (.ref l)) (LoopW prog w A env x body orelse Q) NoE s := by
  have hls : s.heap.IsList l items := ⟨_, (N _ (hl _ _ _ j0)).1, rfl, _, rfl⟩
  have hlt : l < s.heap.objs.size := Heap.lt_size (N _ (hl _ _ _ j0)).1
  refine wpAny_pyIter_list hls ?_
  have hNI : ∀ p ∈ news, p.1 < s.heap.objs.size := fun p hp => Heap.lt_size (N p hp).1
  have W := Walks.list (prog := prog) (w := w) hh s.heap.objs.size l (Nat.ne_of_lt hlt) items
  generalize hI : s.heap.objs.size = I at *
  have hLI0 : env.locals < I := hI ▸ F.ns.lt
  have hLI : env.locals ≠ I := Nat.ne_of_lt hLI0
  have hI0 : ∀ {o}, h₀.get? I = some o → False := fun e => Nat.lt_irrefl _ (Nat.lt_trans (Nat.lt_of_lt_of_le (Heap.lt_size e) F.above) hLI0)
  have hI0' : h₀.get? I = none := by cases q : h₀.get? I with | none => rfl | some o => exact (hI0 q).elim
  have hJI : ∀ i m₁ news₁, J i m₁ news₁ → ∀ p ∈ news₁, p.1 ≠ I := by
    intro i m₁ news₁ hj p hp e
    refine hideG fun g9 hg9 => ?_
    obtain ⟨q, hq, hqe⟩ := List.mem_map.mp (hJ _ _ _ hj p hp)
    refine hg9 ?_
    clear hg9 g9
    have := hNI q hq
    rw [hqe, e] at this
    exact Nat.lt_irrefl _ this
  refine ⟨fun k s' => ∃ h' tk m' news' i, s' = { s with heap := h', toks := tk } ∧ (h'.IsListIter I l i ∧ h'.IsList l items) ∧ Fr h₀ env.locals h' m' ∧ News h₀ env.locals h' news' ∧ J i m' news' ∧ i ≤ items.size ∧ k = items.size + 1 - i ∧ s.toks ≤ tk, items.size + 1,
    ⟨_, s.toks, m₀, news, 0, rfl, ⟨⟨_, hI ▸ Heap.get?_push_size _ rfl, rfl, rfl⟩, hls.at fun o e => Heap.get?_push_of_some _ e⟩, F.push _, fun p hp => ⟨Heap.get?_push_of_some _ (N p hp).1, (N p hp).2⟩, j0, Nat.zero_le _, rfl, Nat.le_refl _⟩, ?_⟩
  intro k s' z91
  refine hideG fun g9 hg9 => ?_
  obtain ⟨h', tk, m', news', i, rfl, hst', F', N', hj, hi, rfl, htk⟩ := z91
  refine hg9 ?_
  clear hg9 g9
  have next : ∀ h₁ : Heap, (∀ b o, b ∉ [I] → h'.get? b = some o → h₁.get? b = some o) → Fr h₀ env.locals h₁ m' ∧ News h₀ env.locals h₁ news' := fun h₁ hk₁ =>
    ⟨⟨F'.ns.at' fun o e => hk₁ _ o (by simpa using hLI) e, fun b o e => hk₁ b o (fun hb => hI0 (List.mem_singleton.mp hb ▸ e)) (F'.keep b o e), F'.above⟩, fun p hp => ⟨hk₁ _ _ (fun hb => hJI _ _ _ hj p hp (List.mem_singleton.mp hb)) (N' p hp).1, (N' p hp).2⟩⟩
  by_cases hlt' : i < items.size
  · refine wpAny_with_toks (n := s.toks) htk (W.item i _ _ _ hlt' hst' fun v h₁ tk₁ hP hst₁ hk₁ htk₁ => ?_)
    refine hideG fun g9 hg9 => ?_
    obtain ⟨F₁, N₁⟩ := next h₁ hk₁
    refine hg9 ?_
    clear hg9 g9
    dsimp only at htk₁ ⊢
    refine wpAny_storeName_local hx F₁.ns (fun h₂ hn₂ hs₂ => ?_) hp
    have F₂ := F₁.set hn₂ hs₂
    refine hideG fun g9 hg9 => ?_
    obtain ⟨o, ho, hoi⟩ := hst₁.1
    refine hg9 ?_
    clear hg9 g9
    have ho₂ : h₂.get? I = some o := (hs₂.2 I (Ne.symm hLI)).trans ho
    have N₂ : News h₀ env.locals h₂ ((I, o) :: news') := fun p hp => by
      rcases List.mem_cons.mp hp with rfl | hp
      · exact ⟨ho₂, Ne.symm hLI, hI0'⟩
      · exact (N₁.set hs₂) p hp
    refine wpAny_with_toks (n := s.toks) (Nat.le_succ_of_le htk₁) (wpAny_mono (turn i v m' news' h₂ _ I o hlt' hP hj (Nat.le_succ_of_le htk₁) hLI0 hNI F₂ N₂) (fun f s₃ h₃ ht₃ => ?_) fun _ _ e _ => e)
    have fin : TurnEnd h₀ env.locals I o (J (i + 1)) { s with heap := h₂, toks := tk₁ + 1 } s₃ → s.toks ≤ s₃.toks → ∃ m, m < items.size + 1 - i ∧ ∃ h' tk m' news' i, s₃ = { s with heap := h', toks := tk } ∧ (h'.IsListIter I l i ∧ h'.IsList l items) ∧ Fr h₀ env.locals h' m' ∧ News h₀ env.locals h' news' ∧ J i m' news' ∧ i ≤ items.size ∧ m = items.size + 1 - i ∧ s.toks ≤ tk := by
      intro z92 ht₃
      refine hideG fun g9 hg9 => ?_
      obtain ⟨h₃', tk₃, m₂, news₂, rfl, F₃, N₃, hI₃, j₃⟩ := z92
      refine hg9 ?_
      clear hg9 g9
      exact ⟨items.size + 1 - (i + 1), by (first | lia | omega), h₃', tk₃, m₂, news₂, i + 1, rfl, ⟨⟨o, hI₃, hoi⟩, ⟨_, (N₃ _ (hl _ _ _ j₃)).1, rfl, _, rfl⟩⟩, F₃, N₃, j₃, hlt', rfl, ht₃⟩
    cases f with
    | ret v => exact h₃
    | brk => exact h₃
    | next => exact fin h₃ ht₃
    | cont => exact fin h₃ ht₃
  · have hin : i = items.size := by (first | lia | omega)
    subst hin
    refine wpAny_with_toks (n := s.toks) htk (W.done _ _ _ hst' fun h₁ tk₁ hk₁ htk₁ => ?_)
    refine hideG fun g9 hg9 => ?_
    obtain ⟨F₁, N₁⟩ := next h₁ hk₁
    refine hg9 ?_
    clear hg9 g9
    exact done m' news' h₁ tk₁ hj htk₁ F₁ N₁
end
end Mine

end

theorem Mine.reset_L14 : True ∧ True := by
  w_top off
  walk1 <;> trivial
section
open PySem PySem.W PyProof.Rows PySem.Calls
set_option Elab.async false
set_option maxRecDepth 100000
set_option maxHeartbeats 4000000
namespace Mine
theorem law_14 {w : World} {h₀ : Heap} {s : Shared} {L fa : Addr} {cd : Value} {dp : Nat} {fr : Option (List Env)} {gd : Option (List Code)} {un : Nat} {Q : Flow → Shared → Prop} {rest : List Stmt} (G : Gd w h₀) (hA : AOk (Around.deeper ⟨none, dp, fr, gd, un⟩ (envOfC (PySem.Str.ofString "law") lawScope L fa cd)) 20) {sc CL : Addr} {cn half times first shift : Nat} {above : Int} {ta ts tf tt th tu : Tok} {cv : List Value} {TX : List Nat} {oD : Obj} {a b c : LA} {lx ly lz : List (Addr × Obj)} {cards : List (List Nat)} (dD : oD.data = .cell (some (.ref a.x))) (hcs : StrsAre cv (cards.map sx)) (hcl : cards.length ≤ 8) (Oa : LA.Ok a) (pab : Apart a b) (pac : Apart a c) (nCL : CL ∉ a.all) (nDK : (L + 1 + 1 + 1 + 1) ∉ a.all) {line : Nat} {left : List Nat} (XL : LexL w lx a line left []) (YL : LexL w ly b 1 [] []) (ZL : LexL w lz c 1 [] [])
    (F : Fr h₀ L s.heap (fun y => if y = PySem.Str.ofString "lower" then some (.ref c.x) else if y = PySem.Str.ofString "upper" then some (.ref b.x) else if y = PySem.Str.ofString "text" then some (.str (sx TX) tu) else if y = PySem.Str.ofString "cards" then some (.ref CL) else if y = PySem.Str.ofString "above" then some (.int above ta) else if y = PySem.Str.ofString "shift" then some (.int (shift : Nat) ts) else if y = PySem.Str.ofString "first" then some (.int (first : Nat) tf) else if y = PySem.Str.ofString "times" then some (.int (times : Nat) tt) else if y = PySem.Str.ofString "half" then some (.int (half : Nat) th) else if y = PySem.Str.ofString "script" then some (.ref sc) else none)) (N : News h₀ L s.heap ((CL, listOf (List.toArray cv) cn) :: (L + 1 + 1 + 1 + 1, oD) :: (lx ++ (ly ++ lz))))
    (hk : ∀ h' tk lx' kv, Fr h₀ L h' (fun y => if y = PySem.Str.ofString "card" then kv else if y = PySem.Str.ofString "lower" then some (.ref c.x) else if y = PySem.Str.ofString "upper" then some (.ref b.x) else if y = PySem.Str.ofString "text" then some (.str (sx TX) tu) else if y = PySem.Str.ofString "cards" then some (.ref CL) else if y = PySem.Str.ofString "above" then some (.int above ta) else if y = PySem.Str.ofString "shift" then some (.int (shift : Nat) ts) else if y = PySem.Str.ofString "first" then some (.int (first : Nat) tf) else if y = PySem.Str.ofString "times" then some (.int (times : Nat) tt) else if y = PySem.Str.ofString "half" then some (.int (half : Nat) th) else if y = PySem.Str.ofString "script" then some (.ref sc) else none) → News h₀ L h' ((CL, listOf (List.toArray cv) cn) :: (L + 1 + 1 + 1 + 1, oD) :: (lx' ++ (ly ++ lz))) → LexL w lx' a line left cards → wpAny (model PG w) (Around.deeper ⟨none, dp, fr, gd, un⟩ (envOfC (PySem.Str.ofString "law") lawScope L fa cd)) (execs rest (envOfC (PySem.Str.ofString "law") lawScope L fa cd)) Q NoE { s with heap := h', toks := tk }) :
    wpAny (model PG w) (Around.deeper ⟨none, dp, fr, gd, un⟩ (envOfC (PySem.Str.ofString "law") lawScope L fa cd)) (execs (nthS lawBody 14 :: rest) (envOfC (PySem.Str.ofString "law") lawScope L fa cd)) Q NoE s := by
  have G' := G
  refine hideG fun g9 hg9 => ?_
  obtain ⟨X, p, loose, mean, mg, mb, T⟩ := G
  refine hg9 ?_
  clear hg9 g9
  have eS : lawScope = lawScope := rfl
  conv at eS => rhs; whnf
  have eT14 : nthS lawBody 14 = nthS lawBody 14 := rfl
  conv at eT14 => rhs; whnf
  rw [eT14]
  simp only [eS] at hA hk ⊢
  clear eS eT14
  have hcv : cv.toArray.size = cards.length := by rw [List.size_toArray, hcs.length, List.length_map]
  walk1
  refine for_raw ?_
  iterate 1 walk1
  intro hts
  refine loop_led (l := CL) (items := cv.toArray) (ln := cn) (fun i m news => (∃ kv, m = (fun y => if y = PySem.Str.ofString "card" then kv else if y = PySem.Str.ofString "lower" then some (.ref c.x) else if y = PySem.Str.ofString "upper" then some (.ref b.x) else if y = PySem.Str.ofString "text" then some (.str (sx TX) tu) else if y = PySem.Str.ofString "cards" then some (.ref CL) else if y = PySem.Str.ofString "above" then some (.int above ta) else if y = PySem.Str.ofString "shift" then some (.int (shift : Nat) ts) else if y = PySem.Str.ofString "first" then some (.int (first : Nat) tf) else if y = PySem.Str.ofString "times" then some (.int (times : Nat) tt) else if y = PySem.Str.ofString "half" then some (.int (half : Nat) th) else if y = PySem.Str.ofString "script" then some (.ref sc) else none)) ∧
      ∃ lx', news = ((CL, listOf (List.toArray cv) cn) :: (L + 1 + 1 + 1 + 1, oD) :: (lx' ++ (ly ++ lz))) ∧ LexL w lx' a line left (cards.take i)) rfl rfl rfl ?_ F N ⟨⟨none, ?_⟩, lx, rfl, XL⟩ ?_ ?_ ?_
  · intro i m₁ news₁ z91
    refine hideG fun g9 hg9 => ?_
    obtain ⟨-, lx', rfl, -⟩ := z91
    refine hg9 ?_
    clear hg9 g9
    exact .head _
  · funext y
    by_cases q : y = PySem.Str.ofString "card"
    · subst q; rfl
    · rw [if_neg q]
  · intro i m₁ news₁ z92 p hp
    refine hideG fun g9 hg9 => ?_
    obtain ⟨-, lx', rfl, Y⟩ := z92
    refine hg9 ?_
    clear hg9 g9
    have h := List.mem_map_of_mem (f := Prod.fst) hp
    simp only [List.map_cons, List.map_append, XL.ad, Y.ad] at h ⊢
    exact h
  · intro i v m₁ news₁ h2 tk2 I o hi hv z93 htk2 hLI hnI F2 N2
    refine hideG fun g9 hg9 => ?_
    obtain ⟨⟨kv, rfl⟩, lx', rfl, Y⟩ := z93
    refine hg9 ?_
    clear hg9 g9
    clear F N hts
    have hi2 : i < cards.length := by rw [← hcv]; exact hi
    have hv' : cv[i]? = some v := by simpa using hv
    refine hideG fun g9 hg9 => ?_
    obtain ⟨xs, u, hxs, rfl⟩ := strsAre_get hcs hv'
    refine hg9 ?_
    clear hg9 g9
    obtain rfl : xs = sx cards[i] := by
      rw [List.getElem?_map, List.getElem?_eq_getElem hi2] at hxs
      exact (Option.some.inj hxs).symm
    dsimp only at F2 N2
    change Fr h₀ L h2 _ at F2
    change News h₀ L h2 _ at N2
    have s2 : ∀ q ∈ lx', q ∈ (I, o) :: ((CL, listOf (List.toArray cv) cn) :: (L + 1 + 1 + 1 + 1, oD) :: (lx' ++ (ly ++ lz))) := fun q hq => .tail _ (.tail _ (.tail _ (List.mem_append_left _ hq)))
    refine hold fun R1 hR1 => ?_
    iterate 4 walk1
    refine lex_meth (X.keeps F2.keep) (Y.lex N2 s2) (by k_is) (f := 57) (by k_is) (by k_is) (fun _ _ _ _ _ _ => by kernel_rfl) ?_
    iterate 4 walk1
    refine ⟨X.keeps F2.keep, ?_⟩
    refine push_ok (gdL G' F2 N2 Y s2) (AOk.le hA (by decide)) Oa (Y.lex N2 s2) (by rw [List.length_take]; (first | lia | omega)) ?_
    intro h3 tk3 _ Z _ k3
    have nI : ∀ q ∈ [(I, o), (CL, listOf (List.toArray cv) cn), (L + 1 + 1 + 1 + 1, oD)], q.1 ∉ a.mut := fun q hq hm => by
      simp only [List.mem_cons, List.not_mem_nil, or_false] at hq
      rcases hq with rfl | rfl | rfl
      · exact pre_apart XL (fun p hp => .tail _ (.tail _ (List.mem_append_left _ hp))) hnI hm
      · exact nCL (mut_all hm)
      · exact nDK (mut_all hm)
    refine hideG fun g9 hg9 => ?_
    obtain ⟨lx'', W, F3, N3⟩ := tri1 (pre := [(I, o), (CL, listOf (List.toArray cv) cn), (L + 1 + 1 + 1 + 1, oD)]) F2 N2 Y YL ZL pab pac nI Z k3
    refine hg9 ?_
    clear hg9 g9
    clear F2 N2 k3 Z
    refine wpAny_execs_nil ?_
    refine hR1 _ _ <| LPost.nxt (TurnEnd.mk (news₂ := (CL, listOf (List.toArray cv) cn) :: (L + 1 + 1 + 1 + 1, oD) :: (lx'' ++ (ly ++ lz))) F3 N3 (.head _) (fun p hp => .tail _ hp) ⟨⟨some (.str (sx cards[i]) u), ?_⟩, lx'', rfl, ?_⟩)
    · funext y
      by_cases q : y = PySem.Str.ofString "card" <;> simp [q]
    · have e : cards.take (i + 1) = cards.take i ++ [cards[i]] := by rw [List.take_add_one, List.getElem?_eq_getElem hi2]; rfl
      rw [e]; exact W
  · intro m₁ news₁ h2 tk2 z94 htk2 F2 N2
    refine hideG fun g9 hg9 => ?_
    obtain ⟨⟨kv, rfl⟩, lx', rfl, Y⟩ := z94
    refine hg9 ?_
    clear hg9 g9
    rw [hcv, List.take_of_length_le (Nat.le_refl _)] at Y
    refine wpAny_execs_nil ?_
    exact hk _ _ lx' kv F2 N2 Y
end Mine

end

theorem Mine.reset_L15a : True ∧ True := by
  w_top off
  walk1 <;> trivial
section
open PySem PySem.W PyProof.Rows PySem.Calls
set_option Elab.async false
set_option maxRecDepth 100000
set_option maxHeartbeats 1000000
namespace Mine
theorem fnAt_of {w : World} {h : Heap} {f : Addr} (X : (kk.heap_1 w.params).In h) (e : fnIn (kk.heap_1 w.params) f = true) : FnAt f h := by
  unfold fnIn at e
  split at e
  · rename_i q
    exact ⟨_, _, _, _, X _ _ q⟩
  · cases e
noncomputable def escA (h : Nat) : Addr := match h with
  | 0 => 78
  | 1 => 85
  | 2 => 92
  | 3 => 99
  | _ => 106
theorem fns_are {w : World} {g : Heap} (X : (kk.heap_1 w.params).In g) (T : ∃ p loose mean mg mb, Top p loose mean mg mb g) : fnIn (kk.heap_1 w.params) 78 = true ∧ fnIn (kk.heap_1 w.params) 85 = true ∧ fnIn (kk.heap_1 w.params) 92 = true ∧ fnIn (kk.heap_1 w.params) 99 = true ∧ fnIn (kk.heap_1 w.params) 106 = true := by
  refine hideG fun g9 hg9 => ?_
  obtain ⟨p, loose, mean, mg, mb, T⟩ := T
  refine hg9 ?_
  clear hg9 g9
  exact ⟨by k_is, by k_is, by k_is, by k_is, by k_is⟩
theorem escF_len {h : Nat} (hh : h < 5) (l : List Nat) : (escF h l).length ≤ 7 * l.length := by
  rw [escF_flat hh]
  induction l with
  | nil => simp
  | cons c r ih =>
    rw [List.flatMap_cons, List.length_append, List.length_cons]
    have := (spL_len (c := c) hh).2
    (first | lia | omega)
theorem esc_ok {w : World} {g : Heap} (G : Gd w g) {h : Nat} (hh : h < 5) : EscOk w (escA h) (escF h) := by
  refine hideG fun g9 hg9 => ?_
  obtain ⟨f0, f1, f2, f3, f4⟩ := fns_are G.X G.T
  refine hg9 ?_
  clear hg9 g9
  have hc : h = 0 ∨ h = 1 ∨ h = 2 ∨ h = 3 ∨ h = 4 := by (first | lia | omega)
  rcases hc with rfl | rfl | rfl | rfl | rfl
  · exact ⟨fun h X => fnAt_of X f0, fun {A s Q E l t} G hA hl ht k => esc_cdata G hA (by (first | lia | omega)) ht (Nat.le_trans (escF_len (h := 0) (by decide) l) (by (first | lia | omega))) k⟩
  · exact ⟨fun h X => fnAt_of X f1, fun {A s Q E l t} G hA hl ht k => esc_attrib G hA (by (first | lia | omega)) ht (Nat.le_trans (escF_len (h := 1) (by decide) l) (by (first | lia | omega))) k⟩
  · exact ⟨fun h X => fnAt_of X f2, fun {A s Q E l t} G hA hl ht k => esc_html G hA (by (first | lia | omega)) ht (Nat.le_trans (escF_len (h := 2) (by decide) l) (by (first | lia | omega))) k⟩
  · exact ⟨fun h X => fnAt_of X f3, fun {A s Q E l t} G hA hl ht k => esc_cdata_c14n G hA (by (first | lia | omega)) ht (Nat.le_trans (escF_len (h := 3) (by decide) l) (by (first | lia | omega))) k⟩
  · exact ⟨fun h X => fnAt_of X f4, fun {A s Q E l t} G hA hl ht k => esc_attrib_c14n G hA (by (first | lia | omega)) ht (Nat.le_trans (escF_len (h := 4) (by decide) l) (by (first | lia | omega))) k⟩

section
variable {w : World} {h₀ h h' : Heap} {L : Addr} {m : PySem.Str → Option Value} {pre lx1 lx2 lx3 : List (Addr × Obj)} {a1 a2 a3 : LA} {n1 n2 n3 n1' n2' n3' : Nat} {l1 l2 l3 l1' l2' l3' : List Nat} {d1 d2 d3 d1' d2' d3' : List (List Nat)}
theorem all_own (N : News h₀ L h (pre ++ (lx1 ++ (lx2 ++ lx3)))) (X1 : LexL w lx1 a1 n1 l1 d1) (X2 : LexL w lx2 a2 n2 l2 d2) (X3 : LexL w lx3 a3 n3 l3 d3) {q : Nat} (hq : q ∈ a1.all ++ (a2.all ++ a3.all)) : q ≠ L ∧ h₀.get? q = none := by
  rcases List.mem_append.mp hq with hq | hq
  · exact lx_own N X1 (fun p hp => List.mem_append_right _ (List.mem_append_left _ hp)) hq
  rcases List.mem_append.mp hq with hq | hq
  · exact lx_own N X2 (fun p hp => List.mem_append_right _ (List.mem_append_right _ (List.mem_append_left _ hp))) hq
  · exact lx_own N X3 (fun p hp => List.mem_append_right _ (List.mem_append_right _ (List.mem_append_right _ hp))) hq
theorem tri_all (F : Fr h₀ L h m) (N : News h₀ L h (pre ++ (lx1 ++ (lx2 ++ lx3)))) (X1 : LexL w lx1 a1 n1 l1 d1) (X2 : LexL w lx2 a2 n2 l2 d2) (X3 : LexL w lx3 a3 n3 l3 d3) (hp : ∀ p ∈ pre, p.1 ∉ a1.all ++ (a2.all ++ a3.all))
    (Y1 : LexIn w h' a1 n1' l1' d1') (Y2 : LexIn w h' a2 n2' l2' d2') (Y3 : LexIn w h' a3 n3' l3' d3') (k : ∀ b o, h.get? b = some o → b ∉ a1.all ++ (a2.all ++ a3.all) → h'.get? b = some o) :
    ∃ lx1' lx2' lx3', LexL w lx1' a1 n1' l1' d1' ∧ LexL w lx2' a2 n2' l2' d2' ∧ LexL w lx3' a3 n3' l3' d3' ∧ Fr h₀ L h' m ∧ News h₀ L h' (pre ++ (lx1' ++ (lx2' ++ lx3'))) := by
  refine hideG fun g9 hg9 => ?_
  obtain ⟨lx1', Z1, e1⟩ := Y1.led
  refine hg9 ?_
  clear hg9 g9
  refine hideG fun g9 hg9 => ?_
  obtain ⟨lx2', Z2, e2⟩ := Y2.led
  refine hg9 ?_
  clear hg9 g9
  refine hideG fun g9 hg9 => ?_
  obtain ⟨lx3', Z3, e3⟩ := Y3.led
  refine hg9 ?_
  clear hg9 g9
  have own := fun {q : Nat} (hq : q ∈ a1.all ++ (a2.all ++ a3.all)) => all_own N X1 X2 X3 hq
  refine ⟨lx1', lx2', lx3', Z1, Z2, Z3, Fr.but F k fun b hb => ⟨(own hb).2, (own hb).1⟩, fun p hm => ?_⟩
  rcases List.mem_append.mp hm with hm | hm
  · have q := N p (List.mem_append_left _ hm)
    exact ⟨k _ _ q.1 (hp p hm), q.2⟩
  rcases List.mem_append.mp hm with hm | hm
  · exact ⟨e1 p hm, own (List.mem_append_left _ (Z1.mem hm))⟩
  rcases List.mem_append.mp hm with hm | hm
  · exact ⟨e2 p hm, own (List.mem_append_right _ (List.mem_append_left _ (Z2.mem hm)))⟩
  · exact ⟨e3 p hm, own (List.mem_append_right _ (List.mem_append_right _ (Z3.mem hm)))⟩
theorem gd_all (G : Gd w h₀) (F : Fr h₀ L h m) (N : News h₀ L h (pre ++ (lx1 ++ (lx2 ++ lx3)))) (X1 : LexL w lx1 a1 n1 l1 d1) (X2 : LexL w lx2 a2 n2 l2 d2) (X3 : LexL w lx3 a3 n3 l3 d3) : Gd w (hideAll h (a1.all ++ (a2.all ++ a3.all))) :=
  G.hide F.keep fun b hb => (all_own N X1 X2 X3 hb).2
end
theorem put_num {cards : List (List Nat)} (hc : ∀ c ∈ cards, CardOk c) {half first : Nat} (hn : cards.length = 2 * half) : ∀ t, (putL cards (seqS half first t)).length = 2 * half
  | 0 => by simp [putL, seqS]
  | t + 1 => by
    have ih := put_num hc (first := first) hn t
    rw [← put_step hc hn, weave_len]
    · rw [List.length_map, List.length_drop, ih]; (first | lia | omega)
    · rw [List.length_map, List.length_drop, List.length_take, ih]; (first | lia | omega)
end Mine

end

theorem Mine.reset_L15 : True ∧ True := by
  w_top off
  walk1 <;> trivial
section
open PySem PySem.W PyProof.Rows PySem.Calls
set_option Elab.async false
set_option maxRecDepth 100000
set_option maxHeartbeats 4000000
namespace Mine
theorem law_15 {w : World} {h₀ : Heap} {s : Shared} {L fa : Addr} {cd : Value} {dp : Nat} {fr : Option (List Env)} {gd : Option (List Code)} {un : Nat} {Q : Flow → Shared → Prop} {rest : List Stmt} (G : Gd w h₀) (hA : AOk (Around.deeper ⟨none, dp, fr, gd, un⟩ (envOfC (PySem.Str.ofString "law") lawScope L fa cd)) 20) {sc CL : Addr} {cn half times first shift : Nat} {above : Int} {ta ts tf tt th tu : Tok} {cv : List Value} {TX : List Nat} {oD : Obj} {a b c : LA} {lx ly lz : List (Addr × Obj)} {cards : List (List Nat)} {kv : Option Value}
    (F : Fr h₀ L s.heap (fun y => if y = PySem.Str.ofString "card" then kv else if y = PySem.Str.ofString "lower" then some (.ref c.x) else if y = PySem.Str.ofString "upper" then some (.ref b.x) else if y = PySem.Str.ofString "text" then some (.str (sx TX) tu) else if y = PySem.Str.ofString "cards" then some (.ref CL) else if y = PySem.Str.ofString "above" then some (.int above ta) else if y = PySem.Str.ofString "shift" then some (.int (shift : Nat) ts) else if y = PySem.Str.ofString "first" then some (.int (first : Nat) tf) else if y = PySem.Str.ofString "times" then some (.int (times : Nat) tt) else if y = PySem.Str.ofString "half" then some (.int (half : Nat) th) else if y = PySem.Str.ofString "script" then some (.ref sc) else none)) (N : News h₀ L s.heap ((CL, listOf (List.toArray cv) cn) :: (L + 1 + 1 + 1 + 1, oD) :: (lx ++ (ly ++ lz))))
    (hk : ∀ h' tk HD hdn, Fr h₀ L h' (fun y => if y = PySem.Str.ofString "hands" then some (.ref HD) else if y = PySem.Str.ofString "card" then kv else if y = PySem.Str.ofString "lower" then some (.ref c.x) else if y = PySem.Str.ofString "upper" then some (.ref b.x) else if y = PySem.Str.ofString "text" then some (.str (sx TX) tu) else if y = PySem.Str.ofString "cards" then some (.ref CL) else if y = PySem.Str.ofString "above" then some (.int above ta) else if y = PySem.Str.ofString "shift" then some (.int (shift : Nat) ts) else if y = PySem.Str.ofString "first" then some (.int (first : Nat) tf) else if y = PySem.Str.ofString "times" then some (.int (times : Nat) tt) else if y = PySem.Str.ofString "half" then some (.int (half : Nat) th) else if y = PySem.Str.ofString "script" then some (.ref sc) else none) → News h₀ L h' ((HD, listOf (List.toArray [Value.ref 78, Value.ref 85, Value.ref 92, Value.ref 99, Value.ref 106]) hdn) :: (CL, listOf (List.toArray cv) cn) :: (L + 1 + 1 + 1 + 1, oD) :: (lx ++ (ly ++ lz))) → (∀ p ∈ ((CL, listOf (List.toArray cv) cn) :: (L + 1 + 1 + 1 + 1, oD) :: (lx ++ (ly ++ lz))), @LT.lt Nat _ p.1 HD) → wpAny (model PG w) (Around.deeper ⟨none, dp, fr, gd, un⟩ (envOfC (PySem.Str.ofString "law") lawScope L fa cd)) (execs rest (envOfC (PySem.Str.ofString "law") lawScope L fa cd)) Q NoE { s with heap := h', toks := tk }) :
    wpAny (model PG w) (Around.deeper ⟨none, dp, fr, gd, un⟩ (envOfC (PySem.Str.ofString "law") lawScope L fa cd)) (execs (nthS lawBody 15 :: rest) (envOfC (PySem.Str.ofString "law") lawScope L fa cd)) Q NoE s := by
  have G' := G
  refine hideG fun g9 hg9 => ?_
  obtain ⟨X, p, loose, mean, mg, mb, T⟩ := G
  refine hg9 ?_
  clear hg9 g9
  have eS : lawScope = lawScope := rfl
  conv at eS => rhs; whnf
  have eT15 : nthS lawBody 15 = nthS lawBody 15 := rfl
  conv at eT15 => rhs; whnf
  rw [eT15]
  simp only [eS] at hA hk ⊢
  clear eS eT15
  walk1
  iterate 13 walk1
  refine newList_K F N ?_ (by decide)
  intro HD h1 F1 N1 l1
  clear F N
  walk1
  (with_reducible rename Fr _ _ _ _ => F9)
  (with_reducible rename News _ _ _ _ => N9)
  exact hk _ _ HD 0 F9 N9 l1
theorem law_16 {w : World} {h₀ : Heap} {s : Shared} {L fa : Addr} {cd : Value} {dp : Nat} {fr : Option (List Env)} {gd : Option (List Code)} {un : Nat} {Q : Flow → Shared → Prop} {rest : List Stmt} (G : Gd w h₀) (hA : AOk (Around.deeper ⟨none, dp, fr, gd, un⟩ (envOfC (PySem.Str.ofString "law") lawScope L fa cd)) 20) {sc CL : Addr} {cn half times first shift : Nat} {above : Int} {ta ts tf tt th tu : Tok} {cv : List Value} {TX : List Nat} {oD : Obj} {a b c : LA} {lx ly lz : List (Addr × Obj)} {cards : List (List Nat)} {kv : Option Value} {HD hdn : Nat} (dD : oD.data = .cell (some (.ref a.x))) (hcl : cards.length = 2 * half) (hc : ∀ x ∈ cards, CardOk x) (Oa : LA.Ok a) (Ob : LA.Ok b) (Oc : LA.Ok c) (pab : Apart a b) (pac : Apart a c) (pba : Apart b a) (pbc : Apart b c) (pca : Apart c a) (pcb : Apart c b) (nCL : CL ∉ a.all ++ (b.all ++ c.all)) (nDK : (L + 1 + 1 + 1 + 1) ∉ a.all ++ (b.all ++ c.all)) {line : Nat} {left : List Nat} (ht : 0 < s.toks) (hhf : 1 ≤ half ∧ half ≤ 4) (hti : times ≤ 10) (hfi : first < 5) (nHD : HD ∉ a.all ++ (b.all ++ c.all)) (XL : LexL w lx a line left cards) (YL : LexL w ly b 1 [] []) (ZL : LexL w lz c 1 [] [])
    (F : Fr h₀ L s.heap (fun y => if y = PySem.Str.ofString "hands" then some (.ref HD) else if y = PySem.Str.ofString "card" then kv else if y = PySem.Str.ofString "lower" then some (.ref c.x) else if y = PySem.Str.ofString "upper" then some (.ref b.x) else if y = PySem.Str.ofString "text" then some (.str (sx TX) tu) else if y = PySem.Str.ofString "cards" then some (.ref CL) else if y = PySem.Str.ofString "above" then some (.int above ta) else if y = PySem.Str.ofString "shift" then some (.int (shift : Nat) ts) else if y = PySem.Str.ofString "first" then some (.int (first : Nat) tf) else if y = PySem.Str.ofString "times" then some (.int (times : Nat) tt) else if y = PySem.Str.ofString "half" then some (.int (half : Nat) th) else if y = PySem.Str.ofString "script" then some (.ref sc) else none)) (N : News h₀ L s.heap ((HD, listOf (List.toArray [Value.ref 78, Value.ref 85, Value.ref 92, Value.ref 99, Value.ref 106]) hdn) :: (CL, listOf (List.toArray cv) cn) :: (L + 1 + 1 + 1 + 1, oD) :: (lx ++ (ly ++ lz))))
    (hk : ∀ h' tk tv lx' ly' lz', Fr h₀ L h' (fun y => if y = PySem.Str.ofString "turn" then tv else if y = PySem.Str.ofString "hands" then some (.ref HD) else if y = PySem.Str.ofString "card" then kv else if y = PySem.Str.ofString "lower" then some (.ref c.x) else if y = PySem.Str.ofString "upper" then some (.ref b.x) else if y = PySem.Str.ofString "text" then some (.str (sx TX) tu) else if y = PySem.Str.ofString "cards" then some (.ref CL) else if y = PySem.Str.ofString "above" then some (.int above ta) else if y = PySem.Str.ofString "shift" then some (.int (shift : Nat) ts) else if y = PySem.Str.ofString "first" then some (.int (first : Nat) tf) else if y = PySem.Str.ofString "times" then some (.int (times : Nat) tt) else if y = PySem.Str.ofString "half" then some (.int (half : Nat) th) else if y = PySem.Str.ofString "script" then some (.ref sc) else none) → News h₀ L h' ((CL, listOf (List.toArray cv) cn) :: (L + 1 + 1 + 1 + 1, oD) :: (lx' ++ (ly' ++ lz'))) → LexL w lx' a line left (toldTo cards times first cards.length) → LexL w ly' b 1 [] [] → LexL w lz' c 1 [] [] → wpAny (model PG w) (Around.deeper ⟨none, dp, fr, gd, un⟩ (envOfC (PySem.Str.ofString "law") lawScope L fa cd)) (execs rest (envOfC (PySem.Str.ofString "law") lawScope L fa cd)) Q NoE { s with heap := h', toks := tk }) :
    wpAny (model PG w) (Around.deeper ⟨none, dp, fr, gd, un⟩ (envOfC (PySem.Str.ofString "law") lawScope L fa cd)) (execs (nthS lawBody 16 :: rest) (envOfC (PySem.Str.ofString "law") lawScope L fa cd)) Q NoE s := by
  have G' := G
  refine hideG fun g9 hg9 => ?_
  obtain ⟨X, p, loose, mean, mg, mb, T⟩ := G
  refine hg9 ?_
  clear hg9 g9
  have eS : lawScope = lawScope := rfl
  conv at eS => rhs; whnf
  have eT16 : nthS lawBody 16 = nthS lawBody 16 := rfl
  conv at eT16 => rhs; whnf
  rw [eT16]
  simp only [eS] at hA hk ⊢
  clear eS eT16
  walk1
  refine for_raw ?_
  iterate 7 walk1
  intro hts
  rename_i hR F1 N1 hk1
  have hrs := range_small0 (n := times) (by (first | lia | omega))
  refine loop_range (n := times) (fun i m news => (∃ tv, m = (fun y => if y = PySem.Str.ofString "turn" then tv else if y = PySem.Str.ofString "hands" then some (.ref HD) else if y = PySem.Str.ofString "card" then kv else if y = PySem.Str.ofString "lower" then some (.ref c.x) else if y = PySem.Str.ofString "upper" then some (.ref b.x) else if y = PySem.Str.ofString "text" then some (.str (sx TX) tu) else if y = PySem.Str.ofString "cards" then some (.ref CL) else if y = PySem.Str.ofString "above" then some (.int above ta) else if y = PySem.Str.ofString "shift" then some (.int (shift : Nat) ts) else if y = PySem.Str.ofString "first" then some (.int (first : Nat) tf) else if y = PySem.Str.ofString "times" then some (.int (times : Nat) tt) else if y = PySem.Str.ofString "half" then some (.int (half : Nat) th) else if y = PySem.Str.ofString "script" then some (.ref sc) else none)) ∧
      ∃ lx' ly' lz', news = ((HD, listOf (List.toArray [Value.ref 78, Value.ref 85, Value.ref 92, Value.ref 99, Value.ref 106]) hdn) :: (CL, listOf (List.toArray cv) cn) :: (L + 1 + 1 + 1 + 1, oD) :: (lx' ++ (ly' ++ lz'))) ∧ LexL w lx' a line left (putL cards (seqS half first i)) ∧ LexL w ly' b 1 [] [] ∧ LexL w lz' c 1 [] []) rfl rfl rfl hR hrs.1 hrs.2 F1 N1 ⟨⟨none, ?_⟩, lx, ly, lz, rfl, ?_, YL, ZL⟩ ?_ ?_ ?_
  · funext y
    by_cases q : y = PySem.Str.ofString "turn"
    · subst q; rfl
    · rw [if_neg q]
  · have e : putL cards (seqS half first 0) = cards := put_zero hc hcl
    rw [e]; exact XL
  · intro i m₁ news₁ z91 p hp
    refine hideG fun g9 hg9 => ?_
    obtain ⟨-, lx', ly', lz', rfl, X', Y', Z'⟩ := z91
    refine hg9 ?_
    clear hg9 g9
    have h := List.mem_map_of_mem (f := Prod.fst) hp
    simp only [List.map_cons, List.map_append, XL.ad, X'.ad, YL.ad, Y'.ad, ZL.ad, Z'.ad] at h ⊢
    exact h
  · intro i m₁ news₁ h2 tk2 I o t hi2 z92 htk2 hLI hnI F2 N2
    refine hideG fun g9 hg9 => ?_
    obtain ⟨⟨tv, rfl⟩, lx', ly', lz', rfl, X', Y', Z'⟩ := z92
    refine hg9 ?_
    clear hg9 g9
    change Fr h₀ L h2 _ at F2
    change News h₀ L h2 _ at N2
    clear N1 F1 hk1 hR hrs
    dsimp only at htk2
    refine hideG fun g9 hg9 => ?_
    obtain ⟨hh, ehh⟩ : ∃ hh, (first + i) % 5 = hh := ⟨_, rfl⟩
    refine hg9 ?_
    clear hg9 g9
    have hh5 : hh < 5 := by (first | lia | omega)
    refine hold fun R1 hR1 => ?_
    iterate 23 walk1
    have ek : ∀ z : Int, z = (first : Int) + (i : Int) → z.fmod 5 = ((hh : Nat) : Int) := fun z hz => by
      rw [hz, Int.fmod_eq_emod_of_nonneg _ (by decide)]; (first | lia | omega)
    rw [ek _ (by (first | lia | omega))]
    have hl8 : h2.IsList HD (List.toArray [Value.ref 78, Value.ref 85, Value.ref 92, Value.ref 99, Value.ref 106]) := ⟨_, (N2 (HD, listOf (List.toArray [Value.ref 78, Value.ref 85, Value.ref 92, Value.ref 99, Value.ref 106]) hdn) (.tail _ (.head _))).1, rfl, _, rfl⟩
    have hx8 : (List.toArray [Value.ref 78, Value.ref 85, Value.ref 92, Value.ref 99, Value.ref 106])[((hh : Nat) : Int).toNat]? = some (.ref (escA hh)) := by
      have hc5 : hh = 0 ∨ hh = 1 ∨ hh = 2 ∨ hh = 3 ∨ hh = 4 := by (first | lia | omega)
      rcases hc5 with q | q | q | q | q <;> (rw [q]; rfl)
    refine item_listR (s := { s with heap := h2, toks := _ }) hl8 (by (first | lia | omega)) (by (first | lia | omega)) hx8 ?_ (by with_unfolding_all rfl)
    clear hx8 hl8
    iterate 2 walk1
    have hln := put_num hc (first := first) hcl i
    have hpl := put_len hc (first := first) (t := i) hcl (by (first | lia | omega))
    have hps := put_step hc (first := first) (t := i) hcl
    rw [ehh] at hps
    generalize putL cards (seqS half first i) = D at *
    generalize putL cards (seqS half first (i + 1)) = D' at *
    have N3 : News h₀ L h2 ([(I, o), (HD, listOf (List.toArray [Value.ref 78, Value.ref 85, Value.ref 92, Value.ref 99, Value.ref 106]) hdn), (CL, listOf (List.toArray cv) cn), (L + 1 + 1 + 1 + 1, oD)] ++ (lx' ++ (ly' ++ lz'))) := N2
    clear N2
    have q1 : ∀ q ∈ lx', q ∈ [(I, o), (HD, listOf (List.toArray [Value.ref 78, Value.ref 85, Value.ref 92, Value.ref 99, Value.ref 106]) hdn), (CL, listOf (List.toArray cv) cn), (L + 1 + 1 + 1 + 1, oD)] ++ (lx' ++ (ly' ++ lz')) := fun q hq => List.mem_append_right _ (List.mem_append_left _ hq)
    have q2 : ∀ q ∈ ly', q ∈ [(I, o), (HD, listOf (List.toArray [Value.ref 78, Value.ref 85, Value.ref 92, Value.ref 99, Value.ref 106]) hdn), (CL, listOf (List.toArray cv) cn), (L + 1 + 1 + 1 + 1, oD)] ++ (lx' ++ (ly' ++ lz')) := fun q hq => List.mem_append_right _ (List.mem_append_right _ (List.mem_append_left _ hq))
    have q3 : ∀ q ∈ lz', q ∈ [(I, o), (HD, listOf (List.toArray [Value.ref 78, Value.ref 85, Value.ref 92, Value.ref 99, Value.ref 106]) hdn), (CL, listOf (List.toArray cv) cn), (L + 1 + 1 + 1 + 1, oD)] ++ (lx' ++ (ly' ++ lz')) := fun q hq => List.mem_append_right _ (List.mem_append_right _ (List.mem_append_right _ hq))
    have hpre : ∀ q ∈ [(I, o), (HD, listOf (List.toArray [Value.ref 78, Value.ref 85, Value.ref 92, Value.ref 99, Value.ref 106]) hdn), (CL, listOf (List.toArray cv) cn), (L + 1 + 1 + 1 + 1, oD)], q.1 ∉ a.all ++ (b.all ++ c.all) := by
      intro q hq
      simp only [List.mem_cons, List.not_mem_nil, or_false] at hq
      rcases hq with rfl | rfl | rfl | rfl
      · intro hm
        have : ∃ p ∈ lx ++ (ly ++ lz), p.1 = I := by
          rw [← XL.ad, ← YL.ad, ← ZL.ad, ← List.map_append, ← List.map_append] at hm
          exact List.mem_map.mp hm
        refine hideG fun g9 hg9 => ?_
        obtain ⟨p, hp, e⟩ := this
        refine hg9 ?_
        clear hg9 g9
        have := hnI p (.tail _ (.tail _ (.tail _ hp)))
        rw [e] at this
        exact Nat.lt_irrefl _ this
      · exact nHD
      · exact nCL
      · exact nDK
    refine shuffle_ok (gd_all G' F2 N3 X' Y' Z') (AOk.le hA (by decide)) Oa Ob Oc (X'.lex N3 q1) (Y'.lex N3 q2) (Z'.lex N3 q3) hln (by (first | lia | omega)) (Nat.succ_pos _) (esc_ok G' hh5) hpl pab pac pba pbc pca pcb ?_
    intro h3 tk3 _ W1 W2 W3 _ k3
    rw [hps] at W1
    refine hideG fun g9 hg9 => ?_
    obtain ⟨lx2, ly2, lz2, V1, V2, V3, F4, N4⟩ := tri_all (pre := [(I, o), (HD, listOf (List.toArray [Value.ref 78, Value.ref 85, Value.ref 92, Value.ref 99, Value.ref 106]) hdn), (CL, listOf (List.toArray cv) cn), (L + 1 + 1 + 1 + 1, oD)]) F2 N3 X' Y' Z' hpre W1 W2 W3 k3
    refine hg9 ?_
    clear hg9 g9
    clear F2 N3 k3 W1 W2 W3
    refine wpAny_execs_nil ?_
    refine hR1 _ _ <| LPost.nxt (TurnEnd.mk (news₂ := ((HD, listOf (List.toArray [Value.ref 78, Value.ref 85, Value.ref 92, Value.ref 99, Value.ref 106]) hdn) :: (CL, listOf (List.toArray cv) cn) :: (L + 1 + 1 + 1 + 1, oD) :: (lx2 ++ (ly2 ++ lz2)))) F4 N4 (.head _) (fun p hp => .tail _ hp) ⟨⟨some (.int (0 + i) t), ?_⟩, lx2, ly2, lz2, rfl, V1, V2, V3⟩)
    funext y
    by_cases q : y = PySem.Str.ofString "turn" <;> simp [q]
  · intro m₁ news₁ h2 tk2 z93 htk2 F2 N2
    refine hideG fun g9 hg9 => ?_
    obtain ⟨⟨tv, rfl⟩, lx', ly', lz', rfl, X', Y', Z'⟩ := z93
    refine hg9 ?_
    clear hg9 g9
    rw [deck_told hc hcl (by (first | lia | omega)) (by (first | lia | omega)) hti hfi] at X'
    refine wpAny_execs_nil ?_
    exact hk _ _ tv lx' ly' lz' F2 (fun q hq => N2 q (.tail _ hq)) X' Y' Z'
end Mine

end

theorem Mine.reset_L17 : True ∧ True := by
  w_top off
  walk1 <;> trivial
section
open PySem PySem.W PyProof.Rows PySem.Calls
set_option Elab.async false
set_option maxRecDepth 100000
set_option maxHeartbeats 4000000
namespace Mine
theorem range_get (D : List (List Nat)) : (List.range D.length).map (fun j => D.getD j []) = D := by
  refine List.ext_getElem (by simp) fun i h1 h2 => ?_
  rw [List.getElem_map, List.getElem_range]
  show D.getD i [] = D[i]
  rw [List.getD_eq_getElem?_getD, List.getElem?_eq_getElem h2]; rfl
theorem law_17 {w : World} {h₀ : Heap} {s : Shared} {L fa : Addr} {cd : Value} {dp : Nat} {fr : Option (List Env)} {gd : Option (List Code)} {un : Nat} {Q : Flow → Shared → Prop} {rest : List Stmt} (G : Gd w h₀) (hA : AOk (Around.deeper ⟨none, dp, fr, gd, un⟩ (envOfC (PySem.Str.ofString "law") lawScope L fa cd)) 20) {sc CL HD : Addr} {cn half times first shift : Nat} {above : Int} {ta ts tf tt th tu : Tok} {cv : List Value} {TX : List Nat} {oD : Obj} {a b c : LA} {lx ly lz : List (Addr × Obj)} {cards : List (List Nat)} {kv tv : Option Value} (dD : oD.data = .cell (some (.ref a.x))) (hcs : StrsAre cv (cards.map sx)) (hcl : cards.length = 2 * half) (hc : ∀ x ∈ cards, CardOk x) (Oa : LA.Ok a) (pab : Apart a b) (pac : Apart a c) (nCL : CL ∉ a.all) (nDK : (L + 1 + 1 + 1 + 1) ∉ a.all) {line : Nat} {left : List Nat} (ht : 0 < s.toks) (hhf : 1 ≤ half ∧ half ≤ 4) (hti : 1 ≤ times ∧ times ≤ 10) (hfi : first < 5) (hsh : shift ≤ 22) (hab : above.natAbs ≤ 15) (hok : ∀ x ∈ (toldTo cards times first cards.length).map sx, PyData.strOk x = true) (XL : LexL w lx a line left (toldTo cards times first cards.length)) (YL : LexL w ly b 1 [] []) (ZL : LexL w lz c 1 [] [])
    (F : Fr h₀ L s.heap (fun y => if y = PySem.Str.ofString "turn" then tv else if y = PySem.Str.ofString "hands" then some (.ref HD) else if y = PySem.Str.ofString "card" then kv else if y = PySem.Str.ofString "lower" then some (.ref c.x) else if y = PySem.Str.ofString "upper" then some (.ref b.x) else if y = PySem.Str.ofString "text" then some (.str (sx TX) tu) else if y = PySem.Str.ofString "cards" then some (.ref CL) else if y = PySem.Str.ofString "above" then some (.int above ta) else if y = PySem.Str.ofString "shift" then some (.int (shift : Nat) ts) else if y = PySem.Str.ofString "first" then some (.int (first : Nat) tf) else if y = PySem.Str.ofString "times" then some (.int (times : Nat) tt) else if y = PySem.Str.ofString "half" then some (.int (half : Nat) th) else if y = PySem.Str.ofString "script" then some (.ref sc) else none)) (N : News h₀ L s.heap ((CL, listOf (List.toArray cv) cn) :: (L + 1 + 1 + 1 + 1, oD) :: (lx ++ (ly ++ lz))))
    (hk : ∀ h' tk lx', Fr h₀ L h' (fun y => if y = PySem.Str.ofString "turn" then tv else if y = PySem.Str.ofString "hands" then some (.ref HD) else if y = PySem.Str.ofString "card" then kv else if y = PySem.Str.ofString "lower" then some (.ref c.x) else if y = PySem.Str.ofString "upper" then some (.ref b.x) else if y = PySem.Str.ofString "text" then some (.str (sx TX) tu) else if y = PySem.Str.ofString "cards" then some (.ref CL) else if y = PySem.Str.ofString "above" then some (.int above ta) else if y = PySem.Str.ofString "shift" then some (.int (shift : Nat) ts) else if y = PySem.Str.ofString "first" then some (.int (first : Nat) tf) else if y = PySem.Str.ofString "times" then some (.int (times : Nat) tt) else if y = PySem.Str.ofString "half" then some (.int (half : Nat) th) else if y = PySem.Str.ofString "script" then some (.ref sc) else none) → News h₀ L h' ((CL, listOf (List.toArray cv) cn) :: (L + 1 + 1 + 1 + 1, oD) :: (lx' ++ (ly ++ lz))) → LexL w lx' a line left [] → wpAny (model PG w) (Around.deeper ⟨none, dp, fr, gd, un⟩ (envOfC (PySem.Str.ofString "law") lawScope L fa cd)) (execs rest (envOfC (PySem.Str.ofString "law") lawScope L fa cd)) Q NoE { s with heap := h', toks := tk }) :
    wpAny (model PG w) (Around.deeper ⟨none, dp, fr, gd, un⟩ (envOfC (PySem.Str.ofString "law") lawScope L fa cd)) (execs (nthS lawBody 17 :: rest) (envOfC (PySem.Str.ofString "law") lawScope L fa cd)) Q NoE s := by
  have G' := G
  refine hideG fun g9 hg9 => ?_
  obtain ⟨X, p, loose, mean, mg, mb, T⟩ := G
  refine hg9 ?_
  clear hg9 g9
  have eS : lawScope = lawScope := rfl
  conv at eS => rhs; whnf
  have eT17 : nthS lawBody 17 = nthS lawBody 17 := rfl
  conv at eT17 => rhs; whnf
  rw [eT17]
  simp only [eS] at hA hk ⊢
  clear eS eT17
  have hD : ∃ D, toldTo cards times first cards.length = D := ⟨_, rfl⟩
  refine hideG fun g9 hg9 => ?_
  obtain ⟨D, eD⟩ := hD
  refine hg9 ?_
  clear hg9 g9
  have hDl : D.length = cards.length := by rw [← eD]; exact toldTo_len cards times first cards.length
  rw [eD] at XL hok
  have step : TokStep w a (fun j ln lf pb => ln = line ∧ lf = left ∧ pb = D.drop j) (fun j => D.getD j []) D.length := tok_push Oa (by (first | lia | omega)) (line0 := line) (left0 := left) (fun _ _ _ _ => Iff.rfl)
  rw [hDl] at step
  iterate 3 walk1
  refine wpAny_with_toks (n := s.toks) (Nat.le_refl _) ?_
  refine LCg.ListComp_U F (by with_unfolding_all rfl) (by decide) rfl (by decide) rfl ?_
  iterate 1 walk1
  refine LCg.CompSrc.ledger (ax := CL) (its := cv.toArray) (k := cn) rfl F N (.head _) (by rw [List.size_toArray, sizeLine_eq]; have := hcs.length; rw [List.length_map] at this; (first | lia | omega)) ?_
  intro g
  have hcv : cv.toArray.size = cards.length := by rw [List.size_toArray, hcs.length, List.length_map]
  rw [hcv]
  refine comp_inv (RJ w a (fun j ln lf pb => ln = line ∧ lf = left ∧ pb = D.drop j) (fun j => D.getD j []) (CL, listOf (List.toArray cv) cn) (L + 1 + 1 + 1 + 1, oD) ly lz) ⟨lx, line, left, D, rfl, XL, ⟨rfl, rfl, rfl⟩, .nil⟩ ?_ ?_
  · intro j ys news v I oI C oC D2 m₂ h7 tk7 E' hj hv hJ hoC hm₂ F7 N7 off ne
    clear F N
    have hJ' := hJ
    refine hideG fun g9 hg9 => ?_
    obtain ⟨lx', line7, left7, pbk, rfl, XL', p7, hys⟩ := hJ'
    refine hg9 ?_
    clear hg9 g9
    have s7 : ∀ q ∈ lx', q ∈ (I, oI) :: (C, oC) :: (D2, LCg.lst ys) :: (CL, listOf (List.toArray cv) cn) :: (L + 1 + 1 + 1 + 1, oD) :: (lx' ++ (ly ++ lz)) := fun q hq => .tail _ (.tail _ (.tail _ (.tail _ (.tail _ (List.mem_append_left _ hq)))))
    iterate 3 walk1
    refine lex_meth (X.keeps F7.keep) (XL'.lex N7 s7) (by k_is) (f := 50) (by k_is) (by k_is) (fun _ _ _ _ _ _ => by kernel_rfl) ?_
    walk1
    exact tok_turn G' (AOk.le hA (by decide)) step hj pab pac YL ZL nCL nDK F7 N7 off hJ
  · intro ys news hJ
    refine hideG fun g9 hg9 => ?_
    obtain ⟨lx', line7, left7, pbk, rfl, XL', ⟨rfl, rfl, rfl⟩, hys⟩ := hJ
    refine hg9 ?_
    clear hg9 g9
    have er : (List.range cards.length).map (fun j => D.getD j []) = D := by rw [← hDl]; exact range_get D
    rw [er] at hys
    rw [List.drop_eq_nil_of_le (by (first | lia | omega))] at XL'
    intro D2 h7 tk7 F7 N7 off htk7
    clear F N
    dsimp only at htk7
    dsimp only
    iterate 14 walk1
    refine ⟨X.keeps F7.keep, ?_⟩
    have lC : h7.IsList CL cv.toArray := ⟨_, (N7 (CL, listOf (List.toArray cv) cn) (.tail _ (.head _))).1, rfl, _, rfl⟩
    refine told_ok (G'.keeps F7.keep) (AOk.le hA (by decide)) lC hcs (by (first | lia | omega)) (fun x hx => (hc x hx).len) hti hfi hsh hab (Nat.lt_of_lt_of_le ht htk7) ?_
    intro h8 tk8 x ws n _ hf hx hws g8
    rw [eD] at hws
    refine hideG fun g9 hg9 => ?_
    obtain ⟨F8, N8, nn⟩ := news_new F7 N7 g8 hf hx
    refine hg9 ?_
    clear hg9 g9
    clear F7 N7 lC
    try dsimp only
    refine ne_strs ⟨_, (N8 (D2, LCg.lst ys) (.tail _ (.head _))).1, rfl, _, rfl⟩ ⟨_, (N8 (x, listOf (List.toArray ws) n) (.head _)).1, rfl, _, rfl⟩ hys hws hok (by have := hA.units; (first | lia | omega)) ?_
    have N9 : News h₀ L h8 ((CL, listOf (List.toArray cv) cn) :: (L + 1 + 1 + 1 + 1, oD) :: (lx' ++ (ly ++ lz))) := fun q hq => N8 q (.tail _ (.tail _ hq))
    clear N8 off nn
    iterate 2 walk1
    refine wpAny_execs_nil ?_
    exact hk _ _ lx' F8 N9 XL'
end Mine

end

theorem Mine.reset_L18 : True ∧ True := by
  w_top off
  walk1 <;> trivial
section
open PySem PySem.W PyProof.Rows PySem.Calls
set_option Elab.async false
set_option maxRecDepth 100000
set_option maxHeartbeats 4000000
namespace Mine
theorem law_18 {w : World} {h₀ : Heap} {s : Shared} {L fa : Addr} {cd : Value} {dp : Nat} {fr : Option (List Env)} {gd : Option (List Code)} {un : Nat} {Q : Flow → Shared → Prop} {rest : List Stmt} (G : Gd w h₀) (hA : AOk (Around.deeper ⟨none, dp, fr, gd, un⟩ (envOfC (PySem.Str.ofString "law") lawScope L fa cd)) 20) {sc CL HD : Addr} {cn half times first shift : Nat} {above : Int} {ta ts tf tt th tu : Tok} {cv : List Value} {TX : List Nat} {oD : Obj} {a b c : LA} {lx ly lz : List (Addr × Obj)} {kv tv : Option Value} (dD : oD.data = .cell (some (.ref a.x))) (Oa : LA.Ok a) (pab : Apart a b) (pac : Apart a c) (nCL : CL ∉ a.all) (nDK : (L + 1 + 1 + 1 + 1) ∉ a.all) {line : Nat} (XL : LexL w lx a line [46] []) (YL : LexL w ly b 1 [] []) (ZL : LexL w lz c 1 [] []) (F : Fr h₀ L s.heap (fun y => if y = PySem.Str.ofString "turn" then tv else if y = PySem.Str.ofString "hands" then some (.ref HD) else if y = PySem.Str.ofString "card" then kv else if y = PySem.Str.ofString "lower" then some (.ref c.x) else if y = PySem.Str.ofString "upper" then some (.ref b.x) else if y = PySem.Str.ofString "text" then some (.str (sx TX) tu) else if y = PySem.Str.ofString "cards" then some (.ref CL) else if y = PySem.Str.ofString "above" then some (.int above ta) else if y = PySem.Str.ofString "shift" then some (.int (shift : Nat) ts) else if y = PySem.Str.ofString "first" then some (.int (first : Nat) tf) else if y = PySem.Str.ofString "times" then some (.int (times : Nat) tt) else if y = PySem.Str.ofString "half" then some (.int (half : Nat) th) else if y = PySem.Str.ofString "script" then some (.ref sc) else none)) (N : News h₀ L s.heap ((CL, listOf (List.toArray cv) cn) :: (L + 1 + 1 + 1 + 1, oD) :: (lx ++ (ly ++ lz))))
    (hk : ∀ h' tk, (∀ b o, h₀.get? b = some o → h'.get? b = some o) → h₀.objs.size ≤ L → h'.Ns L (fun y => if y = PySem.Str.ofString "turn" then tv else if y = PySem.Str.ofString "hands" then some (.ref HD) else if y = PySem.Str.ofString "card" then kv else if y = PySem.Str.ofString "lower" then some (.ref c.x) else if y = PySem.Str.ofString "upper" then some (.ref b.x) else if y = PySem.Str.ofString "text" then some (.str (sx TX) tu) else if y = PySem.Str.ofString "cards" then some (.ref CL) else if y = PySem.Str.ofString "above" then some (.int above ta) else if y = PySem.Str.ofString "shift" then some (.int (shift : Nat) ts) else if y = PySem.Str.ofString "first" then some (.int (first : Nat) tf) else if y = PySem.Str.ofString "times" then some (.int (times : Nat) tt) else if y = PySem.Str.ofString "half" then some (.int (half : Nat) th) else if y = PySem.Str.ofString "script" then some (.ref sc) else none) → Q (.ret (.bool true)) { s with heap := h', toks := tk }) :
    wpAny (model PG w) (Around.deeper ⟨none, dp, fr, gd, un⟩ (envOfC (PySem.Str.ofString "law") lawScope L fa cd)) (execs (nthS lawBody 18 :: rest) (envOfC (PySem.Str.ofString "law") lawScope L fa cd)) Q NoE s := by
  have G' := G
  refine hideG fun g9 hg9 => ?_
  obtain ⟨X, p, loose, mean, mg, mb, T⟩ := G
  refine hg9 ?_
  clear hg9 g9
  have eS : lawScope = lawScope := rfl
  conv at eS => rhs; whnf
  have eT18 : nthS lawBody 18 = nthS lawBody 18 := rfl
  conv at eT18 => rhs; whnf
  rw [eT18]
  simp only [eS] at hA hk ⊢
  clear eS eT18
  have sm : ∀ {u : List (Addr × Obj)}, ∀ q ∈ u, q ∈ (CL, listOf (List.toArray cv) cn) :: (L + 1 + 1 + 1 + 1, oD) :: (u ++ (ly ++ lz)) := fun q hq => .tail _ (.tail _ (List.mem_append_left _ hq))
  have hpre : ∀ q ∈ [(CL, listOf (List.toArray cv) cn), (L + 1 + 1 + 1 + 1, oD)], q.1 ∉ a.mut := by
    intro q hq hm
    simp only [List.mem_cons, List.not_mem_nil, or_false] at hq
    rcases hq with rfl | rfl
    · exact nCL (mut_all hm)
    · exact nDK (mut_all hm)
  iterate 7 walk1
  refine lex_meth (X.keeps F.keep) (XL.lex N sm) (by k_is) (f := 50) (by k_is) (by k_is) (fun _ _ _ _ _ _ => by kernel_rfl) ?_
  walk1
  refine gettok_read (gdL G' F N XL sm) (AOk.le hA (by decide)) Oa (XL.lex N sm) (by decide) ?_
  intro h1 tk1 u1 line1 _ I1 _ _ k1
  rw [rdO_dot] at I1 ⊢
  refine hideG fun g9 hg9 => ?_
  obtain ⟨lx1, X1, F1, N1⟩ := tri1 (pre := [(CL, listOf (List.toArray cv) cn), (L + 1 + 1 + 1 + 1, oD)]) F N XL YL ZL pab pac hpre I1 k1
  refine hg9 ?_
  clear hg9 g9
  simp only [List.cons_append, List.nil_append] at N1
  clear F N k1 I1
  dsimp only
  iterate 3 walk1
  refine lex_meth (X.keeps F1.keep) (X1.lex N1 sm) (by k_is) (f := 50) (by k_is) (by k_is) (fun _ _ _ _ _ _ => by kernel_rfl) ?_
  walk1
  refine gettok_read (gdL G' F1 N1 X1 sm) (AOk.le hA (by decide)) Oa (X1.lex N1 sm) (by decide) ?_
  intro h2 tk2 u2 line2 _ I2 _ _ k2
  rw [rdO_nil] at I2 ⊢
  refine hideG fun g9 hg9 => ?_
  obtain ⟨lx2, X2, F2, N2⟩ := tri1 (pre := [(CL, listOf (List.toArray cv) cn), (L + 1 + 1 + 1 + 1, oD)]) F1 N1 X1 YL ZL pab pac hpre I2 k2
  refine hg9 ?_
  clear hg9 g9
  simp only [List.cons_append, List.nil_append] at N2
  clear F1 N1 k2 I2
  dsimp only
  iterate 1 walk1
  refine newList_K F2 N2 ?_ (by rw [sizeLine_eq]; exact Nat.le_of_ble_eq_true rfl)
  intro A1 h3 F3 N3 l3
  clear F2 N2
  dsimp only
  iterate 6 walk1
  refine newList_K F3 N3 ?_ (by rw [sizeLine_eq]; exact Nat.le_of_ble_eq_true rfl)
  intro A2 h4 F4 N4 l4
  clear F3 N3
  have e1 : PySem.Str.ofString "." = sx [46] := by decide +kernel
  have e2 : PySem.Str.ofString "" = sx [] := by decide +kernel
  rw [e1, e2] at N4
  refine eq_strs (xs := [.str (sx [46]) u1, .str (sx []) u2]) (ys := [.str (sx [46]) _, .str (sx []) _]) (ns := [sx [46], sx []]) ⟨_, (N4 (A1, _) (.tail _ (.head _))).1, rfl, _, rfl⟩ ⟨_, (N4 (A2, _) (.head _)).1, rfl, _, rfl⟩ (.cons _ _ (.cons _ _ .nil)) (.cons _ _ (.cons _ _ .nil)) (by
    intro x hx
    simp only [List.mem_cons, List.not_mem_nil, or_false] at hx
    rcases hx with rfl | rfl <;> decide +kernel) (by have := hA.units; (first | lia | omega)) ?_
  exact hk _ _ F4.keep F4.above F4.ns
end Mine

end

theorem Mine.reset_L19 : True ∧ True := by
  w_top off
  walk1 <;> trivial
section
open PySem PySem.W PyProof.Rows PySem.Calls
set_option Elab.async false
set_option maxRecDepth 100000
set_option maxHeartbeats 1000000
namespace Mine
theorem wp_seg {M : Model} {A : Around} {Γ : Ctx} (hΓ : Γ.In A) {ys : List Stmt} {env : Env} {Q : Flow → Shared → Prop} {E : Value → Shared → Prop} : ∀ (xs : List Stmt) (p : Pos) (s : Shared),
    Sem.wp M Γ (execs xs env) (fun f _ s' => f = .next ∧ wpAny M A (execs ys env) Q E s') (fun e _ s' => E e s') p s → Sem.wp M Γ (execs (xs ++ ys) env) (fun f _ s' => Q f s') (fun e _ s' => E e s') p s
  | [], p, s, h => by
    have h : (Flow.next = Flow.next) ∧ wpAny M A (execs ys env) Q E s := h
    exact h.2 Γ p hΓ
  | x :: r, p, s, h => by
    rw [execs_cons, Sem.wp_bind'] at h
    rw [List.cons_append, execs_cons, Sem.wp_bind']
    refine Sem.wp_mono M Γ _ (fun f p' s' h' => ?_) (fun _ _ _ h' => h') _ _ h
    cases f with
    | next => exact wp_seg hΓ r p' s' h'
    | ret v => exact absurd (show Flow.ret v = Flow.next ∧ _ from h').1 (by simp)
    | brk => exact absurd (show Flow.brk = Flow.next ∧ _ from h').1 (by simp)
    | cont => exact absurd (show Flow.cont = Flow.next ∧ _ from h').1 (by simp)
/-- some statements apart, and the count of tokens across them -/
theorem seg {M : Model} {A : Around} {xs ys : List Stmt} {env : Env} {Q : Flow → Shared → Prop} {E : Value → Shared → Prop} {s : Shared} (ht : 0 < s.toks)
    (h : wpAny M A (execs xs env) (fun f s' => f = .next ∧ (0 < s'.toks → wpAny M A (execs ys env) Q E s')) E s) : wpAny M A (execs (xs ++ ys) env) Q E s := fun Γ p hΓ => by
  have h2 : wpAny M A (execs xs env) (fun f s' => f = .next ∧ wpAny M A (execs ys env) Q E s') E s :=
    wpAny_with_toks (n := 1) ht (wpAny_mono h (fun f s' q h1 => ⟨q.1, q.2 h1⟩) fun _ _ e _ => e)
  exact wp_seg hΓ xs p s (h2 Γ p hΓ)
theorem seg1 {M : Model} {A : Around} {x : Stmt} {ys : List Stmt} {env : Env} {Q : Flow → Shared → Prop} {E : Value → Shared → Prop} {s : Shared} (ht : 0 < s.toks)
    (h : wpAny M A (execs [x] env) (fun f s' => f = .next ∧ (0 < s'.toks → wpAny M A (execs ys env) Q E s')) E s) : wpAny M A (execs (x :: ys) env) Q E s := seg (xs := [x]) ht h
theorem seg2 {M : Model} {A : Around} {x y : Stmt} {ys : List Stmt} {env : Env} {Q : Flow → Shared → Prop} {E : Value → Shared → Prop} {s : Shared} (ht : 0 < s.toks)
    (h : wpAny M A (execs [x, y] env) (fun f s' => f = .next ∧ (0 < s'.toks → wpAny M A (execs ys env) Q E s')) E s) : wpAny M A (execs (x :: y :: ys) env) Q E s := seg (xs := [x, y]) ht h
theorem seg_end {M : Model} {A : Around} {env : Env} {P : Shared → Prop} {E : Value → Shared → Prop} {s : Shared} (h : P s) : wpAny M A (execs [] env) (fun f s' => f = .next ∧ P s') E s := wpAny_execs_nil ⟨rfl, h⟩
theorem law_body : lawBody = [nthS lawBody 0, nthS lawBody 1, nthS lawBody 2, nthS lawBody 3, nthS lawBody 4, nthS lawBody 5, nthS lawBody 6, nthS lawBody 7, nthS lawBody 8, nthS lawBody 9, nthS lawBody 10, nthS lawBody 11, nthS lawBody 12, nthS lawBody 13, nthS lawBody 14, nthS lawBody 15, nthS lawBody 16, nthS lawBody 17, nthS lawBody 18] := rfl
/-! the signs are in range -/
theorem ok_sx {l : List Nat} (h : ∀ k ∈ l, k < 1114112) : PyData.strOk (sx l) = true := by
  unfold PyData.strOk sx
  simp
  intro i hi
  exact h i hi
theorem card_low {k d : Nat} (hk : k < 8) : ∀ x ∈ cardL k d, x < 128 := by
  intro x hx
  have key : ∀ j : _root_.Fin 10, sgL.getD j.val 0 < 128 := by decide
  unfold cardL at hx
  rcases List.mem_append.mp hx with hx | hx
  · rcases List.mem_append.mp hx with hx | hx
    · rw [List.mem_singleton.mp hx]; exact key ⟨d % 10, Nat.mod_lt _ (by decide)⟩
    · rw [List.eq_of_mem_replicate hx]; (first | lia | omega)
  · rw [List.mem_singleton.mp hx]; exact key ⟨d / 7 % 10, Nat.mod_lt _ (by decide)⟩
theorem cards_low {ds : List Nat} (hl : ds.length ≤ 8) : ∀ c ∈ cardsL ds, ∀ x ∈ c, x < 128 := by
  intro c hc
  obtain ⟨k, hk, rfl⟩ := List.mem_map.mp hc
  exact card_low (by have := List.mem_range.mp hk; (first | lia | omega))
theorem name_low (h c : Nat) : ∀ k ∈ nameOf h c ++ [59], k < 128 := by
  unfold nameOf
  (repeat' split) <;> decide
theorem face_low {c : Nat} (hc : c < 128) : ∀ hs : List Nat, ∀ x ∈ faceL c hs, x < 128
  | [], x, hx => by rw [List.mem_singleton.mp hx]; exact hc
  | g :: r, x, hx => by
    have hx : x ∈ if spL g c = [c] then faceL c r else [38] ++ (List.replicate r.length [97, 109, 112, 59]).flatten ++ (spL g c).tail := hx
    by_cases q : spL g c = [c]
    · rw [if_pos q] at hx; exact face_low hc r x hx
    · rw [if_neg q, sp_form q] at hx
      rcases List.mem_append.mp hx with hx | hx
      · rcases List.mem_append.mp hx with hx | hx
        · rw [List.mem_singleton.mp hx]; decide
        · obtain ⟨l, hl, hxl⟩ := List.mem_flatten.mp hx
          rw [List.eq_of_mem_replicate hl] at hxl
          have key : ∀ y ∈ [97, 109, 112, 59], y < 128 := by decide
          exact key x hxl
      · exact name_low g c x hx
theorem getD_low {l : List Nat} (h : ∀ x ∈ l, x < 128) (i : Nat) : l.getD i 0 < 128 := by
  rw [List.getD_eq_getElem?_getD]
  by_cases q : i < l.length
  · rw [List.getElem?_eq_getElem q]; exact h _ (List.getElem_mem q)
  · rw [List.getElem?_eq_none (by (first | lia | omega))]; decide
theorem tell_low {card hs : List Nat} (h : ∀ x ∈ card, x < 128) : ∀ x ∈ tellL card hs, x < 128 := by
  intro x hx
  unfold tellL at hx
  rcases List.mem_append.mp hx with hx | hx
  · rcases List.mem_append.mp hx with hx | hx
    · exact face_low (getD_low h _) hs x hx
    · exact h x (List.mem_of_mem_drop (List.mem_of_mem_take hx))
  · exact face_low (getD_low h _) hs x hx
theorem told_low {cards : List (List Nat)} (hc : ∀ c ∈ cards, CardOk c) (h : ∀ c ∈ cards, ∀ x ∈ c, x < 128) (times first : Nat) : ∀ c ∈ toldTo cards times first cards.length, ∀ x ∈ c, x < 128 := by
  rw [← put_told hc]
  intro c hm
  obtain ⟨p, hp, rfl⟩ := List.mem_map.mp hm
  refine tell_low fun x hx => ?_
  rw [List.getD_eq_getElem?_getD] at hx
  by_cases q : p.1 < cards.length
  · rw [List.getElem?_eq_getElem q] at hx; exact h _ (List.getElem_mem q) x hx
  · rw [List.getElem?_eq_none (by (first | lia | omega))] at hx; cases hx
theorem ok_all {cs : List (List Nat)} (h : ∀ c ∈ cs, ∀ x ∈ c, x < 128) : ∀ x ∈ cs.map sx, PyData.strOk x = true := by
  intro x hx
  obtain ⟨c, hc, rfl⟩ := List.mem_map.mp hx
  exact ok_sx fun k hk => Nat.lt_trans (h c hc k hk) (by decide)
end Mine

end

theorem Mine.reset_L20 : True ∧ True := by
  w_top off
  walk1 <;> trivial
section
open PySem PySem.W PyProof.Rows PySem.Calls
set_option Elab.async false
set_option maxRecDepth 100000
set_option maxHeartbeats 4000000
namespace Mine
theorem own_all {a : LA} {q : Nat} (h : q ∈ a.all) : q ∈ a.own ∨ q = a.c' := by
  simp only [LA.all, LA.own, List.mem_cons, List.not_mem_nil, or_false] at h ⊢
  rcases h with h | h | h | h | h | h | h | h | h
  all_goals simp [h]
theorem mut_own {a : LA} {q : Nat} (h : q ∈ a.mut) : q ∈ a.own ∧ (LA.Ok a → q ≠ a.c') := by
  simp only [LA.mut, LA.own, List.mem_cons, List.not_mem_nil, or_false] at h ⊢
  refine ⟨?_, fun O => ?_⟩
  · rcases h with h | h | h <;> simp [h]
  · rcases h with rfl | rfl | rfl
    · exact Ne.symm O.p1
    · exact Ne.symm O.p2
    · exact Ne.symm O.p3
/-- a lexer made later -/
theorem apart_of {a b : LA} (Oa : LA.Ok a) (Ob : LA.Ok b) (ec : b.c' = a.c') (lt : ∀ p ∈ a.all, ∀ q ∈ b.own, @LT.lt Nat _ p q) : Apart a b ∧ Apart b a := by
  refine ⟨fun m hm h => ?_, fun m hm h => ?_⟩
  · rcases own_all h with h | h
    · exact Nat.lt_irrefl _ (lt m (mut_all hm) m h)
    · exact (mut_own hm).2 Oa (h.trans ec)
  · exact Nat.lt_irrefl _ (lt m h m (mut_own hm).1)
theorem lx_lt {w : World} {lx : List (Addr × Obj)} {a : LA} {n : Nat} {l : List Nat} {d : List (List Nat)} {P : Nat → Prop} (X : LexL w lx a n l d) (h : ∀ p ∈ lx, P p.1) : ∀ q ∈ a.all, P q := by
  intro q hq
  rw [← X.ad] at hq
  refine hideG fun g9 hg9 => ?_
  obtain ⟨p, hp, rfl⟩ := List.mem_map.mp hq
  refine hg9 ?_
  clear hg9 g9
  exact h p hp

theorem left_len {cards : List (List Nat)} {ds : List Nat} (hl : ds.length = cards.length) (j : Nat) : (leftL cards ds j).length ≤ (textL cards ds).length := by
  rw [← left_zero hl]
  unfold leftL
  rw [List.length_append, List.length_append, List.drop_zero]
  have e := List.take_append_drop j (cards.zip ds)
  have h : (((cards.zip ds).take j ++ (cards.zip ds).drop j).flatMap fun p => encL p.1 p.2).length = ((cards.zip ds).flatMap fun p => encL p.1 p.2).length := by rw [e]
  rw [List.flatMap_append, List.length_append] at h
  (first | lia | omega)
/-- a heap with one object put in -/
noncomputable def putAt (h : Heap) (a : Nat) (o : Obj) : Heap := ⟨h.objs.setIfInBounds a o, h.life⟩
theorem putAt_ne {h : Heap} {a b : Nat} {o : Obj} (n : a ≠ b) : (putAt h a o).get? b = h.get? b := by
  unfold putAt Heap.get?
  dsimp only
  rw [Array.getElem?_setIfInBounds_ne n]
theorem putAt_eq {h : Heap} {a : Nat} {o : Obj} (n : a < h.objs.size) (hd : o.data ≠ .freed) : (putAt h a o).get? a = some o := by
  unfold putAt Heap.get?
  dsimp only
  rw [Array.getElem?_setIfInBounds_self_of_lt n]
  refine hideG fun g9 hg9 => ?_
  obtain ⟨c, d, data, sl⟩ := o
  refine hg9 ?_
  clear hg9 g9
  cases data <;> first | rfl | exact absurd rfl hd
theorem law_all {w : World} {h₀ : Heap} {s : Shared} {L fa : Addr} {cd : Value} {dp : Nat} {fr : Option (List Env)} {gd : Option (List Code)} {un : Nat} {Q : Flow → Shared → Prop} (G : Gd w h₀) (hA : AOk (Around.deeper ⟨none, dp, fr, gd, un⟩ (envOfC (PySem.Str.ofString "law") lawScope L fa cd)) 20)
    {sc : Addr} {sv : List Value} {ns : List Int} {oD oS oR oH : Obj} {gH gR gS gD : Option Value} (hsc : h₀.IsList sc sv.toArray) (hns : IntsAre sv ns) (hln : ns.length ≤ 63) (dH : oH.data = .cell gH) (dR : oR.data = .cell gR) (dS : oS.data = .cell gS) (dD : oD.data = .cell gD)
    (l0 : @LT.lt Nat _ 127 L) (C : CodeHd h₀ 131 127) (F : Fr h₀ L s.heap (fun y => if y = PySem.Str.ofString "script" then some (.ref sc) else none)) (N : News h₀ L s.heap [(L + 1 + 1 + 1 + 1, oD), (L + 1 + 1 + 1, oS), (L + 1 + 1, oR), (L + 1, oH), (127, tabObj #[])])
    (hz : @LT.lt Nat _ 127 h₀.objs.size)
    (hk : ∀ h' tk m c1 c2, Fr h₀ L h' m → News h₀ L h' [(127, tbl2 c1 c2)] → Q (.ret (.bool true)) { s with heap := h', toks := tk }) : wpAny (model PG w) (Around.deeper ⟨none, dp, fr, gd, un⟩ (envOfC (PySem.Str.ofString "law") lawScope L fa cd)) (execs lawBody (envOfC (PySem.Str.ofString "law") lawScope L fa cd)) Q NoE s := by
  rw [law_body]
  refine law_A G hA hsc hns hln dH l0 F N ?_
  intro h1 tk1 HL hv hn hs oH2 half times first shift ts tf tt th F1 N1 dH2 hhs h5 hbd b1 b2 b3 b4 nA
  refine hideG fun g9 hg9 => ?_
  obtain ⟨nA4, nA3, nA2, nA1, nA0⟩ := nA
  refine hg9 ?_
  clear hg9 g9
  clear F N
  refine law_5 G hA dH2 hhs h5 hbd F1 N1 ?_
  intro h2 tk2 above ta F2 N2 hab ht2
  clear F1 N1
  refine seg1 ht2 ?_
  refine law_6 G hA dH2 dR hhs h5 hbd b1 nA2 l0 F2 N2 ?_
  intro h3 tk3 DL dv dn ds oR2 F3 N3 dR2 hds hdl hdb nD
  clear F2 N2
  refine seg_end fun ht3 => ?_
  refine seg2 ht3 ?_
  have nD4 := nD (L + 1 + 1 + 1 + 1, oD) (.tail _ (.head _))
  have nD3 := nD (L + 1 + 1 + 1, oS) (.tail _ (.tail _ (.head _)))
  have nD0 := nD (127, tabObj #[]) (.tail _ (.tail _ (.tail _ (.tail _ (.tail _ (.head _))))))
  refine law_8 G hA dR2 dS hds hdl hdb b1 nA3 nD3 l0 F3 N3 ?_
  intro h4 tk4 CL cv cn oS2 F4 N4 hcs nC
  refine hideG fun g9 hg9 => ?_
  obtain ⟨nC4, nC0⟩ := nC
  refine hg9 ?_
  clear hg9 g9
  clear F3 N3
  refine seg_end fun ht4 => ?_
  refine seg1 ht4 ?_
  refine law_9 G hA dR2 hds hcs hdl hdb b1 F4 N4 ?_
  intro h5' tk5 tu F5 N5
  clear F4 N4
  refine seg_end fun ht5 => ?_
  refine seg1 ht5 ?_
  have hcn : (cardsL ds).length = 2 * half := by rw [cards_len, hdl]
  have hok := cards_ok (ds := ds) (by (first | lia | omega))
  have hlow := cards_low (ds := ds) (by (first | lia | omega))
  have hTX : (textL (cardsL ds) ds).length ≤ 1000000 := by
    unfold textL
    have := textTo_len (cardsL ds) ds (cardsL ds).length (fun c hc => (hok c hc).len.2)
    rw [List.length_append]
    simp only [List.length_cons, List.length_nil]
    (first | lia | omega)
  have eL : leftL (cardsL ds) ds 0 = textL (cardsL ds) ds := left_zero (by rw [cards_len])
  have eE : leftL (cardsL ds) ds (cardsL ds).length = [46] := left_end (by rw [cards_len])
  have hrd := fun (j : Nat) (hj : j < (cardsL ds).length) => left_read (cards := cardsL ds) (ds := ds) (by rw [cards_len]) hj (by
    intro e
    have := (hok _ (List.getElem_mem hj)).len.1
    rw [e] at this
    simp at this)
  have n127 : ∀ p ∈ [(CL, listOf (List.toArray cv) cn), (DL, listOf (List.toArray dv) dn), (HL, listOf (List.toArray hv) hn), (L + 1 + 1 + 1 + 1, oD), (L + 1 + 1 + 1, oS2), (L + 1 + 1, oR2), (L + 1, oH2)], p.1 ≠ 127 := by
    intro p hp
    simp only [List.mem_cons, List.not_mem_nil, or_false] at hp
    rcases hp with rfl | rfl | rfl | rfl | rfl | rfl | rfl
    · exact Ne.symm nC0
    · exact Ne.symm nD0
    · exact Ne.symm nA0
    all_goals exact Nat.ne_of_gt (by dsimp only; (first | lia | omega))
  refine law_10 G hA dD C ht5 hTX n127 (Ne.symm nC4) (Ne.symm nD4) (Ne.symm nA4) F5 N5 ?_
  intro h6 tk6 a c1 lx oD2 F6 N6 Oa XL dD2 lta
  clear F5 N5
  refine seg_end fun ht6 => ?_
  refine seg1 ht6 ?_
  have n127' : ∀ p ∈ [(CL, listOf (List.toArray cv) cn), (DL, listOf (List.toArray dv) dn), (HL, listOf (List.toArray hv) hn), (L + 1 + 1 + 1 + 1, oD2), (L + 1 + 1 + 1, oS2), (L + 1 + 1, oR2), (L + 1, oH2)], p.1 ≠ 127 := by
    intro p hp
    simp only [List.mem_cons, List.not_mem_nil, or_false] at hp
    rcases hp with rfl | rfl | rfl | rfl | rfl | rfl | rfl
    · exact Ne.symm nC0
    · exact Ne.symm nD0
    · exact Ne.symm nA0
    all_goals exact Nat.ne_of_gt (by dsimp only; (first | lia | omega))
  have nlx : ∀ q ∈ a.all, q ≠ 127 := fun q hq => Nat.ne_of_gt (lta (127, tabObj #[]) (List.mem_append_right _ (.head _)) q hq)
  refine law_11 G hA C ht6 XL n127' nlx F6 N6 ?_
  intro h7 tk7 b ly F7 N7 Ob YL eb ltb
  clear F6 N6
  refine seg_end fun ht7 => ?_
  refine seg1 ht7 ?_
  have nly : ∀ q ∈ b.all, q ≠ 127 := fun q hq => by
    rcases own_all hq with hq | hq
    · exact Nat.ne_of_gt (ltb (127, tbl2 c1 a.c') (List.mem_append_right _ (.head _)) q hq)
    · rw [hq, eb]; exact nlx _ (by simp [LA.all])
  refine law_12 G hA C ht7 XL YL n127' nlx nly F7 N7 ?_
  intro h8 tk8 c lz F8 N8 Oc ZL ec ltc
  clear F7 N7
  refine seg_end fun ht8 => ?_
  refine seg1 ht8 ?_
  -- the lexers lie apart
  refine hideG fun g9 hg9 => ?_
  obtain ⟨pab, pba⟩ := apart_of Oa Ob eb fun p hp q hq => lx_lt (P := fun p => @LT.lt Nat _ p q) XL (fun x hx => ltb x (List.mem_append_right _ (.tail _ hx)) q hq) p hp
  refine hg9 ?_
  clear hg9 g9
  refine hideG fun g9 hg9 => ?_
  obtain ⟨pac, pca⟩ := apart_of Oa Oc ec fun p hp q hq => lx_lt (P := fun p => @LT.lt Nat _ p q) XL (fun x hx => ltc x (List.mem_append_right _ (.tail _ (List.mem_append_left _ hx))) q hq) p hp
  refine hg9 ?_
  clear hg9 g9
  refine hideG fun g9 hg9 => ?_
  obtain ⟨pbc, pcb⟩ := apart_of Ob Oc (ec.trans eb.symm) fun p hp q hq => lx_lt (P := fun p => @LT.lt Nat _ p q) YL (fun x hx => ltc x (List.mem_append_right _ (.tail _ (List.mem_append_right _ hx))) q hq) p hp
  refine hg9 ?_
  clear hg9 g9
  have low : ∀ x : Nat, (∃ o, (x, o) ∈ [(CL, listOf (List.toArray cv) cn), (DL, listOf (List.toArray dv) dn), (HL, listOf (List.toArray hv) hn), (L + 1 + 1 + 1 + 1, oD), (L + 1 + 1 + 1, oS2), (L + 1 + 1, oR2), (L + 1, oH2)] ++ [(127, tabObj #[])]) → (∃ o, (x, o) ∈ [(CL, listOf (List.toArray cv) cn), (DL, listOf (List.toArray dv) dn), (HL, listOf (List.toArray hv) hn), (L + 1 + 1 + 1 + 1, oD2), (L + 1 + 1 + 1, oS2), (L + 1 + 1, oR2), (L + 1, oH2)]) → x ∉ a.all ++ (b.all ++ c.all) := by
    intro x z91 z92 hm
    refine hideG fun g9 hg9 => ?_
    obtain ⟨o, ho⟩ := z91
    obtain ⟨o', ho'⟩ := z92
    refine hg9 ?_
    clear hg9 g9
    have ha : ∀ q ∈ a.all, @LT.lt Nat _ x q := fun q hq => lta _ ho q hq
    have hc' : @LT.lt Nat _ x a.c' := ha _ (by simp [LA.all])
    rcases List.mem_append.mp hm with hm | hm
    · exact Nat.lt_irrefl _ (ha x hm)
    rcases List.mem_append.mp hm with hm | hm
    · rcases own_all hm with hm | hm
      · exact Nat.lt_irrefl _ (ltb _ (List.mem_append_left _ ho') x hm)
      · rw [eb] at hm; rw [← hm] at hc'; exact Nat.lt_irrefl _ hc'
    · rcases own_all hm with hm | hm
      · exact Nat.lt_irrefl _ (ltc _ (List.mem_append_left _ ho') x hm)
      · rw [ec] at hm; rw [← hm] at hc'; exact Nat.lt_irrefl _ hc'
  have nCL := low CL ⟨_, .head _⟩ ⟨_, .head _⟩
  have nDK := low (L + 1 + 1 + 1 + 1) ⟨_, .tail _ (.tail _ (.tail _ (.head _)))⟩ ⟨_, .tail _ (.tail _ (.tail _ (.head _)))⟩
  have nCLa : CL ∉ a.all := fun h => nCL (List.mem_append_left _ h)
  have nDKa : (L + 1 + 1 + 1 + 1) ∉ a.all := fun h => nDK (List.mem_append_left _ h)
  have N9 : News h₀ L h8 ((CL, listOf (List.toArray cv) cn) :: (L + 1 + 1 + 1 + 1, oD2) :: (lx ++ (ly ++ lz))) := fun p hp => N8 p (by
    rcases List.mem_cons.mp hp with rfl | hp
    · exact .head _
    rcases List.mem_cons.mp hp with rfl | hp
    · exact .tail _ (.tail _ (.tail _ (.head _)))
    · rw [← List.append_assoc] at hp
      exact .tail _ (.tail _ (.tail _ (.tail _ (.tail _ (.tail _ (.tail _ (.tail _ hp))))))))
  -- the code table joins the ground
  have z8 := N8 (127, tbl2 c1 a.c') (.tail _ (.tail _ (.tail _ (.tail _ (.tail _ (.tail _ (.tail _ (.head _))))))))
  have h0n : h₀.get? 127 = none := z8.2.2
  have k0 : ∀ b o, h₀.get? b = some o → (putAt h₀ 127 (tbl2 c1 a.c')).get? b = some o := fun b o e => by
    rw [putAt_ne (fun q => by subst q; rw [h0n] at e; cases e)]; exact e
  have k1 : (putAt h₀ 127 (tbl2 c1 a.c')).get? 127 = some (tbl2 c1 a.c') := putAt_eq hz (by intro e; cases e)
  have k2 : ∀ b o, (putAt h₀ 127 (tbl2 c1 a.c')).get? b = some o → b ≠ 127 → h₀.get? b = some o := fun b o e hb => by
    rw [putAt_ne (Ne.symm hb)] at e; exact e
  have kz : (putAt h₀ 127 (tbl2 c1 a.c')).objs.size = h₀.objs.size := by unfold putAt; simp
  have F8' : Fr (putAt h₀ 127 (tbl2 c1 a.c')) L h8 _ := ⟨F8.ns, fun b o e => by
    by_cases hb : b = 127
    · subst hb; rw [k1] at e; cases e; exact z8.1
    · exact F8.keep b o (k2 b o e hb), by rw [kz]; exact F8.above⟩
  have n9 : ∀ p ∈ ((CL, listOf (List.toArray cv) cn) :: (L + 1 + 1 + 1 + 1, oD2) :: (lx ++ (ly ++ lz))), p.1 ≠ 127 := by
    intro p hp
    rcases List.mem_cons.mp hp with rfl | hp
    · exact Ne.symm nC0
    rcases List.mem_cons.mp hp with rfl | hp
    · exact Nat.ne_of_gt (by dsimp only; (first | lia | omega))
    rcases List.mem_append.mp hp with hp | hp
    · exact nlx _ (XL.mem hp)
    rcases List.mem_append.mp hp with hp | hp
    · exact nly _ (YL.mem hp)
    · rcases own_all (ZL.mem hp) with hq | hq
      · exact Nat.ne_of_gt (ltc (127, tbl2 c1 a.c') (List.mem_append_right _ (.head _)) _ hq)
      · rw [hq, ec]; exact nlx _ (by simp [LA.all])
  have N9' : News (putAt h₀ 127 (tbl2 c1 a.c')) L h8 ((CL, listOf (List.toArray cv) cn) :: (L + 1 + 1 + 1 + 1, oD2) :: (lx ++ (ly ++ lz))) := fun p hp => ⟨(N9 p hp).1, (N9 p hp).2.1, by rw [putAt_ne (Ne.symm (n9 p hp))]; exact (N9 p hp).2.2⟩
  have G9 : Gd w (putAt h₀ 127 (tbl2 c1 a.c')) := G.keeps k0
  have hk9 : ∀ h' tk, (∀ b o, (putAt h₀ 127 (tbl2 c1 a.c')).get? b = some o → h'.get? b = some o) → (putAt h₀ 127 (tbl2 c1 a.c')).objs.size ≤ L → ∀ m, h'.Ns L m → Q (.ret (.bool true)) { s with heap := h', toks := tk } := fun h' tk kk ka m kn =>
    hk h' tk m c1 a.c' ⟨kn, fun b o e => kk b o (k0 b o e), kz ▸ ka⟩ fun p hp => by
      rw [List.mem_singleton.mp hp]
      exact ⟨kk _ _ k1, z8.2⟩
  generalize putAt h₀ 127 (tbl2 c1 a.c') = h₀' at F8' N9' G9 hk9
  clear k0 k1 k2 kz hk n9 N9 F8 G h0n z8
  clear N8 lta ltb ltc low nlx nly n127 n127'
  have hcd : (cardsL ds).length ≤ 8 := by (first | lia | omega)
  have eds : ds.length = (cardsL ds).length := (cards_len ds).symm
  generalize hX : textL (cardsL ds) ds = TX at *
  generalize hCs : cardsL ds = cards at *
  have step : TokStep w a (fun j line left pbk => left = leftL cards ds j ∧ pbk = [] ∧ line + (leftL cards ds j).count 10 = 1 + TX.count 10) (fun j => cards.getD j []) cards.length :=
    tok_read Oa (tok := fun j => cards.getD j []) (rem := leftL cards ds) (tot := 1 + TX.count 10) (fun j hj => by
      rw [hrd j hj]
      have e : cards.getD j [] = cards[j] := by rw [List.getD_eq_getElem?_getD, List.getElem?_eq_getElem hj]; rfl
      rw [e]) (fun j _ => Nat.le_trans (left_len eds j) (by rw [hX]; exact hTX)) (fun _ _ _ _ => Iff.rfl)
  refine law_13 G9 hA dD2 hcs hcd Oa pab pac nCLa nDKa (ok_all hlow) XL YL ZL step ⟨eL.symm, rfl, by rw [eL]⟩ (range_get cards) (fun line left pbk q => by
    refine hideG fun g9 hg9 => ?_
    obtain ⟨q1, q2, q3⟩ := q
    refine hg9 ?_
    clear hg9 g9
    rw [eE] at q1 q3
    exact ⟨q1, q2, by simpa using q3⟩) hTX F8' N9' ?_
  intro h10 tk10 lx2 line F10 N10 XL2
  clear F8' N9' XL step hrd
  refine seg_end fun ht10 => ?_
  refine seg1 ht10 ?_
  refine law_14 G9 hA dD2 hcs hcd Oa pab pac nCLa nDKa XL2 YL ZL F10 N10 ?_
  intro h11 tk11 lx3 kv F11 N11 XL3
  clear F10 N10 XL2
  refine seg_end fun ht11 => ?_
  refine seg1 ht11 ?_
  refine law_15 (a := a) (cards := cards) G9 hA F11 N11 ?_
  intro h12 tk12 HD hdn F12 N12 ltH
  clear F11 N11
  refine seg_end fun ht12 => ?_
  refine seg1 ht12 ?_
  have nHD : HD ∉ a.all ++ (b.all ++ c.all) := by
    intro hm
    rcases List.mem_append.mp hm with hm | hm
    · exact Nat.lt_irrefl _ (lx_lt (P := fun p => @LT.lt Nat _ p HD) XL3 (fun x hx => ltH x (.tail _ (.tail _ (List.mem_append_left _ hx)))) HD hm)
    rcases List.mem_append.mp hm with hm | hm
    · exact Nat.lt_irrefl _ (lx_lt (P := fun p => @LT.lt Nat _ p HD) YL (fun x hx => ltH x (.tail _ (.tail _ (List.mem_append_right _ (List.mem_append_left _ hx))))) HD hm)
    · exact Nat.lt_irrefl _ (lx_lt (P := fun p => @LT.lt Nat _ p HD) ZL (fun x hx => ltH x (.tail _ (.tail _ (List.mem_append_right _ (List.mem_append_right _ hx))))) HD hm)
  refine law_16 G9 hA dD2 hcn hok Oa Ob Oc pab pac pba pbc pca pcb nCL nDK ht12 b1 b2.2 b3 nHD XL3 YL ZL F12 N12 ?_
  intro h13 tk13 tv lx4 ly4 lz4 F13 N13 XL4 YL4 ZL4
  clear F12 N12 XL3 YL ZL ltH
  refine seg_end fun ht13 => ?_
  refine seg1 ht13 ?_
  refine law_17 G9 hA dD2 hcs hcn hok Oa pab pac nCLa nDKa ht13 b1 b2 b3 b4 hab (ok_all (told_low hok hlow times first)) XL4 YL4 ZL4 F13 N13 ?_
  intro h14 tk14 lx5 F14 N14 XL5
  clear F13 N13 XL4
  refine seg_end fun ht14 => ?_
  exact law_18 G9 hA dD2 Oa pab pac nCLa nDKa XL5 YL4 ZL4 F14 N14 fun h' tk kk ka kn => hk9 h' tk kk ka _ kn
end Mine

end

theorem Mine.reset_end : True ∧ True := by
  w_top off
  walk1 <;> trivial
open PySem.Calls
theorem PySem.Challenge.cw_wn0077_01_holds : PySem.Challenge.rw_wn0077_01.Holds :=
  Mine.hd (by
  k_go0
  (with_reducible rename Frag.In _ _ => X0)
  (with_reducible rename Fr _ _ _ _ => F0)
  (with_reducible rename News _ _ _ _ => N0)
  (with_reducible rename IntsAre _ _ => I0)
  (with_reducible rename @LT.lt Nat _ 127 _ => l0)
  (with_reducible rename Top _ _ _ _ _ (ghostOf _ _) => T0)
  (with_reducible rename ¬ _ < _ => h63)
  rename_i dD dS dR dH X0' _
  refine wpAny_mono (Mine.law_all ⟨X0, _, _, _, _, _, T0⟩ ?_ lifted I0 ?_ dH dR dS dD l0 codeHd ?_ ?_ ?_ ?_) (fun _ _ h => h) ?_
  · refine ⟨rfl, ?_, ?_⟩
    · show 1 + claimMargin + 1 + 20 < recursionLimit
      decide
    · show 4 + 3 + 8 * 20 < cLine
      decide
  · (first | lia | omega)
  · exact Mine.Fr.cong F0 fun y => rfl
  · exact N0
  · show 127 < (hideAll _ _).objs.size
    rw [hideAll_size]; exact l0
  · intro h9 tk9 m9 c1 c2 F9 N9
    clear F0 N0 X0' dD dS dR dH
    dsimp only
    refine ⟨?_, GrownAt.of N9 (.head _), trivial⟩
    refine ⟨.inl ⟨.bool true, .bool true, [], rfl, ?_, .bool true, ?_, ?_⟩, F9.keep, rfl, ?_⟩
    · exact fun _ => rfl
    · first | kernel_rfl | with_unfolding_all rfl
    · exact fun _ => ⟨List.nodup_nil, fun _ h => nomatch h⟩
    · assumption
  · intro _ _ h
    exact h.elim)
