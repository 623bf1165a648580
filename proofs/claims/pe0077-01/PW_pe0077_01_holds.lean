import PyProof.Rows.All
import Wide.All
import OpenK.AllK
import Wide.FinOn
import PySem.Challenge.RW_pe0077_01
open PySem PySem.W PyProof.Rows PySem.Calls PySem.Spec
set_option Elab.async false
set_option maxRecDepth 100000
set_option maxHeartbeats 8000000

namespace Mine
open_top hd for PySem.Challenge.rw_pe0077_01
end Mine

namespace Mine
abbrev PG : Program := PySem.Challenge.rw_pe0077_01.row.prog

def Fill (_ : OpenLaw) (_ : Params → Frag) : Prop := True

def LeaveD (h₀ : Heap) (L : Addr) (m : Str → Option Value) (g : Heap) (news : List (Addr × Obj)) (R : Result → Shared → Prop) (v : Value) (s' : Shared) : Prop :=
  ∃ L' m' news', Fr g L' s'.heap m' ∧ News g L' s'.heap news' ∧ (Fr h₀ L s'.heap m → News h₀ L s'.heap (news' ++ news) → R (.ok (.ret v)) s')

section
variable {prog : Program} {w : World} {A₀ A : Around} {s : Shared} {base h₀ : Heap} {outer : List Env} {L : Addr} {m : Str → Option Value} {env : Env} {news : List (Addr × Obj)} {K : Frag}
  {R : Result → Shared → Prop} {name qual : Str} {params : Arguments} {body : List Stmt} {scope : Scope} {dV kV doc pm cdv ct oc : Value} {an od : Option Addr} {osl : Array (Option Value)} {f : Addr} {args : Args} {binds : List (Str × Value)}
  {p : Program} {loose : List Str} {mean : ExcName → Option Value} {mg mb : Str → Option Value}

theorem enterD (B : Below A₀ base outer h₀) (F : Fr h₀ L s.heap m) (X₀ : K.In h₀) (N : News h₀ L s.heap news) (T : Top p loose mean mg mb h₀) (hA : A.frames = some (env :: outer)) (hf : env.frame = some L) (hke : env.scope.kind = .function)
    (ho : K.lookup f = some ⟨oc, od, .func (fnOf name qual params body scope dV kV doc pm an cdv ct), osl⟩) (hcd : codeIn K cdv qual = true) (hroom : A.depth < recursionLimit)
    (hbind : BindsTo s (fnOf name qual params body scope dV kV doc pm an cdv ct) args binds) (hloc : ∀ y ∈ binds, scope.names.lookup y.1 = some .local)
    (h : ∀ L' h₁ tk, Fr s.heap L' h₁ (fun y => binds.reverse.lookup y) → News s.heap L' h₁ [] → Below A base (env :: outer) s.heap → K.In s.heap → Top p loose mean mg mb s.heap →
      wpAny (model prog w) (A.deeper (envOf qual scope L' f cdv)) (execs body (envOf qual scope L' f cdv))
        (fun fl s' => LeaveD h₀ L m s.heap news R (match fl with | .ret v => v | _ => .none) s')
        (fun e s' => wpAny (model prog w) (A.deeper (envOf qual scope L' f cdv)) (leaving (envOf qual scope L' f cdv) e) (fun _ s'' => R (.error e) s'') (fun e' s'' => R (.error e') s'') s')
        { s with heap := h₁, toks := tk })
    (hco : scope.isCoroutine = false) (hgen : scope.isGenerator = false) (hk : scope.kind = .function)
    (hcell : ∀ x ∈ scope.names, x.2 ≠ .cell) : codeAny (model prog w) A (.call (.ref f) args) R s := by
  obtain ⟨FG, BG, st, lv⟩ := groundX (R := R) B F (News.nil) hA hf hke
  refine codeAny_call_def (fd := fnX name qual params body scope [] dV kV doc pm an cdv ct) (body := body) (binds := binds) hroom ((X₀.keeps F.keep) _ _ ho) rfl (T.nolimit.keeps F.keep) (codeRec_of (X₀.keeps F.keep) hcd) rfl hbind hcell hloc (fun h₁ hns hk₁ => ?_) hco hgen hk
  refine wpAny_mono (h s.heap.objs.size h₁ _ ⟨hns, fun b o e => hk₁ b o e, Nat.le_refl _⟩ News.nil BG (X₀.keeps st) (T.keeps st)) (fun fl s' hl => lv _ _ ?_) fun _ _ y => y
  obtain ⟨L', m', news', F', N', k⟩ := hl
  refine ⟨L', m', news', F', N', fun a b => k a fun p hp => ?_⟩
  rcases List.mem_append.mp hp with hp | hp
  · exact b p hp
  · exact ⟨F'.keep _ _ (N p hp).1, (N p hp).2.1, (N p hp).2.2⟩
end

def Cl (w : World) (f : Addr) (room : Nat) (vs : List Value) (Post : Value → List (Addr × Obj) → Prop) : Prop :=
  ∀ (mean : ExcName → Option Value) (mg mb : Str → Option Value) (dp un : Nat) (gd : Option (List Code)) (cn : Str) (cs : Scope) (a : Addr) (ccd : Value) (cl : List (Str × Addr)) (outer : List Env) (A₀ : Around) (base h₀ : Heap) (L : Addr) (m : Str → Option Value) (news : List (Addr × Obj)) (s : Shared) (Q E : Value → Shared → Prop),
    Below A₀ base outer h₀ → Fr h₀ L s.heap m → (hd.heap_39 w.params).In h₀ → News h₀ L s.heap news → Top hd.view_39 (looseW hd.view_39 []) mean mg mb h₀ → cs.kind = .function →
    dp + room < recursionLimit → un + 8 * room < cLine →
    (∀ v ex h' tk', Post v ex → Fr h₀ L h' m → News h₀ L h' (ex ++ news) → Q v { s with heap := h', toks := tk' }) →
    wpAny (model PG w) (ktrTop dp un gd cn cs L a ccd cl outer) (call (.ref f) vs) Q E s


theorem Cl.use {w : World} {f : Addr} {room : Nat} {vs : List Value} {Post : Value → List (Addr × Obj) → Prop} (C : Cl w f room vs Post)
    {mean : ExcName → Option Value} {mg mb : Str → Option Value} {dp un : Nat} {gd : Option (List Code)} {cn : Str} {cs : Scope} {a : Addr} {ccd : Value} {cl : List (Str × Addr)} {outer : List Env} {A₀ : Around} {base h₀ : Heap} {L : Addr} {m : Str → Option Value} {news : List (Addr × Obj)} {s : Shared} {Q E : Value → Shared → Prop}
    (B : Below A₀ base outer h₀) (F : Fr h₀ L s.heap m) (X : (hd.heap_39 w.params).In h₀) (N : News h₀ L s.heap news) (T : Top hd.view_39 (looseW hd.view_39 []) mean mg mb h₀) (hk : cs.kind = .function) (hd : dp + room < recursionLimit) (hu : un + 8 * room < cLine)
    (h : ∀ v ex h' tk', Post v ex → Fr h₀ L h' m → News h₀ L h' (ex ++ news) → Q v { s with heap := h', toks := tk' }) :
    wpAny (model PG w) (ktrTop dp un gd cn cs L a ccd cl outer) (call (.ref f) vs) Q E s := C _ _ _ _ _ _ _ _ _ _ _ _ _ _ _ _ _ _ _ _ _ B F X N T hk hd hu h

theorem leaveD_ {h₀ g : Heap} {L L' : Addr} {m m' : Str → Option Value} {news news' : List (Addr × Obj)} {R : Result → Shared → Prop} {v : Value} {s' : Shared} (F' : Fr g L' s'.heap m') (N' : News g L' s'.heap news')
    (k : Fr h₀ L s'.heap m → News h₀ L s'.heap (news' ++ news) → R (.ok (.ret v)) s') : LeaveD h₀ L m g news R v s' := ⟨L', m', news', F', N', k⟩

theorem News.nm {h₀ h : Heap} {L a : Addr} {o : Obj} {r : List (Addr × Obj)} (_ : News h₀ L h ((a, o) :: r)) : ∃ b, b = a := ⟨a, rfl⟩

theorem News.nm3 {h₀ h : Heap} {L a : Addr} {vs : List Value} {n : Nat} {r : List (Addr × Obj)} (_ : News h₀ L h ((a, W.listOf vs.toArray n) :: r)) : ∃ b ws k, b = a ∧ ws = vs ∧ k = n := ⟨a, vs, n, rfl, rfl, rfl⟩

theorem dropN {h₀ h : Heap} {L : Addr} {a b : List (Addr × Obj)} (N : News h₀ L h (a ++ b)) : News h₀ L h ([] ++ b) := fun p hp => N p (List.mem_append.mpr (.inr hp))

def subS (x y : Str) : Int := if x = y then 0 else if Txt.lower x = Txt.lower y then 1 else 2

def IsI (v : Value) (n : Int) : Prop := ∃ t, v = .int n t
def IsS (v : Value) (x : Str) : Prop := ∃ t, v = .str x t
theorem isI_of {a b : Int} {t : Tok} (h : a = b) : IsI (.int a t) b := ⟨t, by rw [h]⟩
theorem isS_of {a b : Str} {t : Tok} (h : a = b) : IsS (.str a t) b := ⟨t, by rw [h]⟩
end Mine

namespace Mine
local macro_rules | `(tactic| walk_at "LeaveD") => `(tactic| (refine' leaveD_ ?k1 ?k2 ?_; (case k1 => k_asm); (case k2 => k_asm); k_whole; intro kF kN; (try dsimp only)))

theorem sub_c (w : World) (x y : Str) (t1 t2 : Tok) (hx : x.length = 1) (hy : y.length = 1) : Cl w 28 1 [.str x t1, .str y t2] (fun v ex => ex = [] ∧ IsI v (subS x y)) := by
  unfold Cl
  intro mean mg mb dp un gd cn cs a ccd cl outer A₀ base h₀ L m news s Q E B F X N T hcs hroom hunits hret
  w_on
  have hfill : Fill PySem.Challenge.rw_pe0077_01 hd.heap_39 := by k_fill; exact trivial
  refine wpAny_call ?_
  k_dflt (refine' enterD (binds := [(Str.ofString "ch_a", .str x t1), (Str.ofString "ch_b", .str y t2)]) B F X N T ?kA ?kF ?kK ?k6 ?k7 ?k8 ?k9 ?kB ?_ ?c2 ?c3 ?c4 ?c5; (case kA => exact rfl); (case kF => exact rfl); (case kK => assumption); (case k6 => k_is); (case k7 => k_is); (case k8 => ktr_room); (case k9 => exact BindsTo.of_eq rfl); (case c5 => decide); (case kB => exact locs rfl); (case c2 => exact rfl); (case c3 => exact rfl); (case c4 => exact rfl); k_whole)
  clear B F X N T hfill
  intro L' h' tk0 F' N' B' X' T'
  simp only [List.reverse_cons, List.reverse_nil, List.nil_append, List.cons_append] at F'
  (try dsimp only)
  (try k_fold)
  k_steps
  all_goals (refine hret _ [] _ _ ?_ (by assumption) (by assumption); refine ⟨rfl, isI_of ?_⟩; unfold subS; simp_all; done)
end Mine

namespace Mine
open PySem.StrLaws PySem.Builtin PySem.Builtin.Str

/-- a text's signs -/
abbrev sg (x : Str) : List Nat := x.cps.toList
theorem sg_len (x : Str) : (sg x).length = x.length := by simp [sg, Str.length]
theorem sg_ext {x y : Str} (h : sg x = sg y) : x = y := Str.ext' (Array.toList_inj.mp h)
theorem sg_append (x y : Str) : sg (x ++ y) = sg x ++ sg y := by
  show (x ++ y).cps.toList = _
  rw [Str.cps_append, Array.toList_append]
theorem sg_mk (l : List Nat) : sg ⟨l.toArray⟩ = l := rfl
theorem beq_true {x y : Str} (h : (x == y) = true) : x = y := by simpa using h
theorem beq_false {x y : Str} (h : (x == y) = false) : x ≠ y := by simpa using h

theorem sliceIdx_clip_hi (l : Option Int) {j : Int} (len : Nat) (h : (len : Int) ≤ j) : strSliceIndices l (some j) 1 len = strSliceIndices l (some (len : Int)) 1 len := by
  have a : ¬ (j < 0) := by omega
  have b : ¬ ((len : Int) < 0) := by omega
  have e1 : min j (len : Int) = len := by omega
  simp [strSliceIndices, a, b, e1]

theorem slice_ss {x : Str} {i j : Int} (h0 : 0 ≤ i) (h1 : i ≤ j) (h2 : i ≤ x.length) : sg (Txt.slice x (some i) (some j)) = ((sg x).drop i.toNat).take (j - i).toNat := by
  have hl := sg_len x
  by_cases hj : j ≤ x.length
  · have h := sliceText_plain (x := x) (i := i) (j := j) ⟨h0, h1, by rw [show x.cps.toList.length = x.length from hl]; exact hj⟩
    have h' : Txt.slice x (some i) (some j) = sliceText x (some i) (some j) := rfl
    rw [h', h]
  · have e : Txt.slice x (some i) (some j) = Txt.slice x (some i) (some (x.length : Int)) := by
      unfold Txt.slice
      rw [sliceIdx_clip_hi (some i) x.length (by omega)]
    have h := sliceText_plain (x := x) (i := i) (j := (x.length : Int)) ⟨h0, h2, by rw [show x.cps.toList.length = x.length from hl]; exact Int.le_refl _⟩
    have h' : Txt.slice x (some i) (some (x.length : Int)) = sliceText x (some i) (some (x.length : Int)) := rfl
    rw [e, h', h]
    show ((sg x).drop i.toNat).take ((x.length : Int) - i).toNat = _
    rw [List.take_of_length_le (by rw [List.length_drop, hl]; omega), List.take_of_length_le (by rw [List.length_drop, hl]; omega)]

theorem slice_from {x : Str} {i : Int} (h0 : 0 ≤ i) (h2 : i ≤ x.length) : sg (Txt.slice x (some i) none) = (sg x).drop i.toNat := by
  have hl := sg_len x
  have h := sliceText_from (x := x) (i := i) ⟨h0, by rw [show x.cps.toList.length = x.length from hl]; exact h2⟩
  have h' : Txt.slice x (some i) none = sliceText x (some i) none := rfl
  rw [h', h]
  show ((sg x).drop i.toNat).take (((sg x).length : Int) - i).toNat = _
  rw [List.take_of_length_le (by rw [List.length_drop, hl]; omega)]

theorem slice_nn (x : Str) : Txt.slice x none none = x := by
  have e : Txt.slice x none none = Txt.slice x (some 0) none := by
    unfold Txt.slice
    rw [sliceIdx_none_lo]
  rw [e]
  exact sg_ext (by rw [slice_from (by omega) (by omega)]; rfl)

theorem slice_to_neg {x : Str} {j : Int} (h0 : j < 0) (h1 : -(x.length : Int) ≤ j) : sg (Txt.slice x none (some j)) = (sg x).take (j + x.length).toNat := by
  have h := sliceText_to_neg (x := x) h0 h1
  have h' : Txt.slice x none (some j) = sliceText x none (some j) := rfl
  rw [h', h]
  simp

theorem charAt_pos {x : Str} {i : Int} (h0 : 0 ≤ i) (h2 : i < x.length) : sg (Txt.item x i) = [(sg x).getD i.toNat 0] := by
  obtain ⟨n, hn⟩ := some_at h0 h2
  have e : Txt.charAt x i = some n := at_nonneg h0 hn
  have e2 : (sg x)[i.toNat]? = some n := by simpa [sg] using hn
  unfold Txt.item
  rw [e, List.getD_eq_getElem?_getD, e2]
theorem charAt_neg {x : Str} {i : Int} (h0 : i < 0) (h1 : -(x.length : Int) ≤ i) : sg (Txt.item x i) = [(sg x).getD (i + x.length).toNat 0] := by
  obtain ⟨n, hn⟩ := some_at (x := x) (i := i + x.length) (by omega) (by omega)
  have e : Txt.charAt x i = some n := at_neg h0 h1 hn
  have e2 : (sg x)[(i + x.length).toNat]? = some n := by simpa [sg] using hn
  unfold Txt.item
  rw [e, List.getD_eq_getElem?_getD, e2]

/-- the walk sign by sign; k signs are still to be passed over -/
def laidK (w st : List Nat) : List Nat → Nat → List Nat
  | [], _ => []
  | _ :: t, k + 1 => laidK w st t k
  | c :: t, 0 => if (c :: t).take w.length = w then st ++ laidK w st t (w.length - 1) else c :: laidK w st t 0
def laidS (x w st : Str) : Str := ⟨(laidK (sg w) (sg st) (sg x) 0).toArray⟩

theorem laidK_drop (w st : List Nat) : ∀ (t : List Nat) (k : Nat), laidK w st t k = laidK w st (t.drop k) 0
  | [], k => by simp [laidK]
  | _ :: _, 0 => rfl
  | _ :: t, k + 1 => by
    rw [List.drop_succ_cons, ← laidK_drop w st t k]
    rfl

theorem laidK_hit {w st t : List Nat} (hw : 0 < w.length) (h : t.take w.length = w) : laidK w st t 0 = st ++ laidK w st (t.drop w.length) 0 := by
  cases t with
  | nil => rw [List.take_nil] at h; rw [← h] at hw; exact absurd hw (by simp)
  | cons c t =>
    have e : laidK w st (c :: t) 0 = st ++ laidK w st t (w.length - 1) := by
      show (if _ then _ else _) = _
      rw [if_pos h]
    obtain ⟨k, hk⟩ : ∃ k, w.length = k + 1 := ⟨w.length - 1, by omega⟩
    rw [e, hk, List.drop_succ_cons, Nat.add_sub_cancel, laidK_drop]

theorem laidK_miss {w st t : List Nat} {c : Nat} (h : (c :: t).take w.length ≠ w) : laidK w st (c :: t) 0 = c :: laidK w st t 0 := by
  show (if _ then _ else _) = _
  rw [if_neg h]

theorem drop_at {l : List Nat} {i : Nat} (h : i < l.length) : l.drop i = l.getD i 0 :: l.drop (i + 1) := by
  rw [List.drop_eq_getElem_cons h, List.getD_eq_getElem?_getD, List.getElem?_eq_getElem h]
  rfl

def LaidInv (x y z : Str) (i : Int) (l : Str) : Prop :=
  0 ≤ i ∧ i ≤ (x.length : Int) ∧ (l.length : Int) ≤ 101 * i ∧ sg l ++ laidK (sg y) (sg z) ((sg x).drop i.toNat) 0 = laidK (sg y) (sg z) (sg x) 0

theorem LaidInv.full {x y z : Str} {i : Int} {l : Str} (h : LaidInv x y z i l) : 0 ≤ i ∧ i ≤ (x.length : Int) ∧ (l.length : Int) ≤ 101 * i ∧ LaidInv x y z i l := ⟨h.1, h.2.1, h.2.2.1, h⟩

theorem laid_start (x y z : Str) : LaidInv x y z 0 (Str.ofString "") := by
  refine ⟨by omega, by omega, by decide, ?_⟩
  have : sg (Str.ofString "") = [] := by decide +kernel
  rw [this]
  rfl

theorem laid_hit {x y z : Str} {i : Int} {l : Str} (hy : 0 < y.length) (hz : z.length ≤ 100) (h : LaidInv x y z i l) (hi : i < (x.length : Int)) (e : (Txt.slice x (some i) (some (i + (y.length : Int))) == y) = true) : LaidInv x y z (i + (y.length : Int)) (l ++ z) := by
  obtain ⟨h0, h1, h2, h3⟩ := h
  have e := beq_true e
  have e2 := congrArg sg e
  rw [slice_ss h0 (by omega) h1] at e2
  rw [show (i + (y.length : Int) - i).toNat = y.length by omega] at e2
  have hlen := congrArg List.length e2
  rw [List.length_take, List.length_drop, sg_len, sg_len] at hlen
  have hk : (i + (y.length : Int)).toNat = i.toNat + y.length := by omega
  refine ⟨by omega, by omega, ?_, ?_⟩
  · rw [Str.length_append]; omega
  · rw [← h3, sg_append, List.append_assoc, hk, ← List.drop_drop]
    congr 1
    have e3 : ((sg x).drop i.toNat).take (sg y).length = sg y := by rw [sg_len]; exact e2
    rw [laidK_hit (by rw [sg_len]; exact hy) e3, sg_len]

theorem laid_miss {x y z : Str} {i : Int} {l : Str} (hy : 0 < y.length) (h : LaidInv x y z i l) (hi : i < (x.length : Int)) (e : (Txt.slice x (some i) (some (i + (y.length : Int))) == y) = false) : LaidInv x y z (i + 1) (l ++ Txt.item x i) := by
  obtain ⟨h0, h1, h2, h3⟩ := h
  have e := beq_false e
  have hk : (i + 1).toNat = i.toNat + 1 := by omega
  have hc := charAt_pos h0 hi
  have hcl := congrArg List.length hc
  rw [sg_len] at hcl
  refine ⟨by omega, by omega, ?_, ?_⟩
  · rw [Str.length_append, hcl]; simp only [List.length_cons, List.length_nil]; omega
  · rw [← h3, sg_append, List.append_assoc, hk, hc, drop_at (l := sg x) (i := i.toNat) (by rw [sg_len]; omega)]
    congr 1
    have e3 : ((sg x).getD i.toNat 0 :: (sg x).drop (i.toNat + 1)).take (sg y).length ≠ sg y := by
      rw [← drop_at (by rw [sg_len]; omega), sg_len]
      intro q
      refine e (sg_ext ?_)
      rw [slice_ss h0 (by omega) h1, show (i + (y.length : Int) - i).toNat = y.length by omega]
      exact q
    rw [laidK_miss e3]
    rfl

theorem laid_end {x y z : Str} {i : Int} {l : Str} (h : LaidInv x y z i l) (hi : ¬ i < (x.length : Int)) : l = laidS x y z := by
  obtain ⟨h0, h1, h2, h3⟩ := h
  have hk : i.toNat = x.length := by omega
  refine sg_ext ?_
  rw [hk, List.drop_of_length_le (by rw [sg_len]; exact Nat.le_refl _)] at h3
  show sg l = laidK (sg y) (sg z) (sg x) 0
  rw [← h3]
  simp [laidK]
end Mine

namespace Mine
/-- the table over all beginnings -/
def bestStep (T W : List Nat) (n : Nat) (b : List Int) : Int :=
  if W.length ≤ n + 1 ∧ (T.drop (n + 1 - W.length)).take W.length = W then max (b.getD n 0) (b.getD (n + 1 - W.length) 0 + 1) else b.getD n 0
def bestL (T W : List Nat) : Nat → List Int
  | 0 => [0]
  | n + 1 => bestL T W n ++ [bestStep T W n (bestL T W n)]
theorem bestL_len (T W : List Nat) : ∀ n, (bestL T W n).length = n + 1
  | 0 => rfl
  | n + 1 => by rw [bestL, List.length_append, bestL_len T W n]; rfl
def MostInv (x y : Str) (n : Nat) (best : List Int) : Prop := best = bestL (sg x) (sg y) n
def mostOf (x y : Str) : Int := (bestL (sg x) (sg y) x.length).getD x.length 0

theorem most_start (x y : Str) : ([0] : List Int).length = ([] : List Int).length + 1 ∧ MostInv x y ([] : List Int).length [0] := ⟨rfl, rfl⟩
theorem most_step {x y : Str} {pre ns : List Int} {k v : Int} (h : MostInv x y pre.length ns) (hv : v = bestStep (sg x) (sg y) pre.length ns) :
    (ns ++ [v]).length = (pre ++ [k]).length + 1 ∧ MostInv x y (pre ++ [k]).length (ns ++ [v]) := by
  subst hv
  unfold MostInv at h ⊢
  have hl : (pre ++ [k]).length = pre.length + 1 := by simp
  refine ⟨?_, ?_⟩
  · rw [List.length_append, h, bestL_len, hl]; rfl
  · rw [hl, bestL, ← h]
theorem most_v1 {x y : Str} {pre ns : List Int} {k : Int} (hk : k = 1 + (pre.length : Int)) (h : ¬ (y.length : Int) ≤ k) : ns.getD (k - 1).toNat 0 = bestStep (sg x) (sg y) pre.length ns := by
  unfold bestStep
  rw [if_neg (by rw [sg_len]; omega)]
  congr 1
  omega
theorem most_sl {x y : Str} {pre : List Int} {k : Int} (hk : k = 1 + (pre.length : Int)) (hlt : pre.length < x.length) (h : (y.length : Int) ≤ k) :
    sg (Txt.slice x (some (k - (y.length : Int))) (some k)) = ((sg x).drop (pre.length + 1 - (sg y).length)).take (sg y).length := by
  rw [slice_ss (by omega) (by omega) (by omega), sg_len]
  congr 1
  · omega
  · congr 1; omega
theorem most_v2 {x y : Str} {pre ns : List Int} {k : Int} (hk : k = 1 + (pre.length : Int)) (hlt : pre.length < x.length) (h : (y.length : Int) ≤ k) (e : (Txt.slice x (some (k - (y.length : Int))) (some k) == y) = false) : ns.getD (k - 1).toNat 0 = bestStep (sg x) (sg y) pre.length ns := by
  unfold bestStep
  rw [if_neg (fun q => beq_false e (sg_ext (by rw [most_sl hk hlt h]; exact q.2)))]
  congr 1
  omega
theorem most_v3 {x y : Str} {pre ns : List Int} {k : Int} (hk : k = 1 + (pre.length : Int)) (hlt : pre.length < x.length) (h : (y.length : Int) ≤ k) (e : (Txt.slice x (some (k - (y.length : Int))) (some k) == y) = true) :
    (if ns.getD (k - (y.length : Int)).toNat 0 + 1 > ns.getD (k - 1).toNat 0 then ns.getD (k - (y.length : Int)).toNat 0 + 1 else ns.getD (k - 1).toNat 0) = bestStep (sg x) (sg y) pre.length ns := by
  have e := congrArg sg (beq_true e)
  rw [most_sl hk hlt h] at e
  have hb : bestStep (sg x) (sg y) pre.length ns = max (ns.getD pre.length 0) (ns.getD (pre.length + 1 - (sg y).length) 0 + 1) := by
    unfold bestStep
    exact if_pos ⟨by rw [sg_len]; omega, e⟩
  rw [hb]
  have e1 : (k - (y.length : Int)).toNat = pre.length + 1 - (sg y).length := by rw [sg_len]; omega
  have e2 : (k - 1).toNat = pre.length := by omega
  rw [e1, e2]
  split <;> omega
theorem most_end {x y : Str} {ns : List Int} {n : Nat} (hn : n = x.length) (h : MostInv x y n ns) : ns.getD x.length 0 = mostOf x y := by
  subst hn
  unfold MostInv at h
  rw [h]
  rfl
end Mine

namespace Mine
/-- the beginnings of i signs are the same -/
def PreInv (x y : Str) (i : Int) : Prop := (sg x).take i.toNat = (sg y).take i.toNat
def PreAll (x y : Str) (i : Int) : Prop := 0 ≤ i ∧ i ≤ (x.length : Int) ∧ i ≤ (y.length : Int) ∧ PreInv x y i
theorem pre_start (x y : Str) : 0 ≤ (0 : Int) ∧ (0 : Int) ≤ (x.length : Int) ∧ (0 : Int) ≤ (y.length : Int) ∧ PreInv x y 0 := ⟨by omega, by omega, by omega, rfl⟩
theorem take_getD {l : List Nat} {n : Nat} (h : n < l.length) : l.take (n + 1) = l.take n ++ [l.getD n 0] := by
  rw [List.take_add_one, List.getElem?_eq_getElem h, List.getD_eq_getElem?_getD, List.getElem?_eq_getElem h]
  rfl
theorem pre_step {x y : Str} {i : Int} (h : PreInv x y i) (h0 : 0 ≤ i) (h1 : i < (x.length : Int)) (h2 : i < (y.length : Int)) (e : (Txt.item x i == Txt.item y i) = true) :
    0 ≤ i + 1 ∧ i + 1 ≤ (x.length : Int) ∧ i + 1 ≤ (y.length : Int) ∧ PreInv x y (i + 1) := by
  have e := congrArg sg (beq_true e)
  rw [charAt_pos h0 h1, charAt_pos h0 h2] at e
  refine ⟨by omega, by omega, by omega, ?_⟩
  unfold PreInv at h ⊢
  rw [show (i + 1).toNat = i.toNat + 1 by omega, take_getD (by rw [sg_len]; omega), take_getD (by rw [sg_len]; omega), h, e]

/-- the last -i signs are the same -/
def PostInv (x y : Str) (i : Int) : Prop := (sg x).drop (i + x.length).toNat = (sg y).drop (i + y.length).toNat
theorem post_start (x y : Str) : (0 : Int) ≤ 0 ∧ -(x.length : Int) ≤ 0 ∧ -(y.length : Int) ≤ 0 ∧ PostInv x y 0 := by
  refine ⟨by omega, by omega, by omega, ?_⟩
  unfold PostInv
  rw [List.drop_of_length_le (by rw [sg_len]; omega), List.drop_of_length_le (by rw [sg_len]; omega)]
theorem post_step {x y : Str} {i : Int} (h : PostInv x y i) (h0 : i ≤ 0) (h1 : -(x.length : Int) < i) (h2 : -(y.length : Int) < i) (e : (Txt.item x (i - 1) == Txt.item y (i - 1)) = true) :
    i - 1 ≤ 0 ∧ -(x.length : Int) ≤ i - 1 ∧ -(y.length : Int) ≤ i - 1 ∧ PostInv x y (i - 1) := by
  have e := congrArg sg (beq_true e)
  rw [charAt_neg (by omega) (by omega), charAt_neg (by omega) (by omega)] at e
  refine ⟨by omega, by omega, by omega, ?_⟩
  unfold PostInv at h ⊢
  rw [drop_at (l := sg x) (by rw [sg_len]; omega), drop_at (l := sg y) (by rw [sg_len]; omega)]
  rw [show (i - 1 + (x.length : Int)).toNat + 1 = (i + (x.length : Int)).toNat by omega, show (i - 1 + (y.length : Int)).toNat + 1 = (i + (y.length : Int)).toNat by omega, h]
  rw [List.cons.inj e |>.1]

def TakeOf (X x : Str) (j : Int) : Prop := sg X = (sg x).take (j + (x.length : Int)).toNat
def DropOf (X x : Str) (i : Int) : Prop := sg X = (sg x).drop i.toNat
theorem takeOf_self (x : Str) {j : Int} (h : j = 0) : TakeOf x x j := by
  subst h
  unfold TakeOf
  rw [List.take_of_length_le (by rw [sg_len]; omega)]
theorem dropOf_slice {x : Str} {i : Int} (h0 : 0 ≤ i) (h2 : i ≤ x.length) : DropOf (Txt.slice x (some i) none) x i := slice_from h0 h2
def SwapOf (X Y x y : Str) : Prop := (X = x ∧ Y = y) ∨ (X = y ∧ Y = x)
theorem swap_no {x y : Str} (h : (x.length : Int) ≤ (y.length : Int)) : (x.length : Int) ≤ (y.length : Int) ∧ SwapOf x y x y := ⟨h, .inl ⟨rfl, rfl⟩⟩
theorem swap_yes {x y : Str} (h : (y.length : Int) ≤ (x.length : Int)) : (y.length : Int) ≤ (x.length : Int) ∧ SwapOf y x x y := ⟨h, .inr ⟨rfl, rfl⟩⟩
end Mine

namespace Mine
theorem ite_two {x y : Str} {P Q : Prop} (h1 : (x == y) = true → P) (h2 : (x == y) = false → Q) : if (x == y) = true then P else Q := by
  by_cases h : (x == y) = true
  · rw [if_pos h]; exact h1 h
  · rw [if_neg h]; exact h2 (by simpa using h)

def Stop (P : Prop) : Prop := P
theorem stop_here {P : Prop} (h : Stop P) : P := h

/-- a while's end by the word alone -/
def KcEnd {σ : Type} (h₀ : Heap) (L : Addr) (s : Shared) (Led : σ → List (Addr × Obj)) (ps : σ → List (Str × Value)) (stored : List Str) (m₀ u : Str → Option Value) (c : σ) (s₂ : Shared) : Prop :=
  ∃ (h' : Heap) (tk : Nat), s₂ = { s with heap := h', toks := tk } ∧ Fr h₀ L h' (kstB (fun z => if stored.contains z then u z else m₀ z) (ps c)) ∧ ∃ news', News h₀ L h' news' ∧ ∀ p ∈ Led c, p ∈ news'
section
variable {prog : Program} {w : World} {A : Around} {E : Value → Shared → Prop} {Q : Flow → Shared → Prop} {s : Shared} {env : Env} {h₀ : Heap} {L : Addr}
theorem ksw_cut {σ : Type} {test : Expr} {body : List Stmt} {pos : Pos} {m₀ : Str → Option Value} (Led : σ → List (Addr × Obj)) (ps : σ → List (Str × Value)) (Facts : σ → Prop) (stored : List Str) (P : σ → Prop) (μ : σ → Nat) (c₀ : σ)
    (F : Fr h₀ L s.heap m₀) (N : News h₀ L s.heap (Led c₀)) (hf : Facts c₀) (hk : ∀ p ∈ ps c₀, m₀ p.1 = some p.2) (hp : P c₀)
    (turn : ∀ (c : σ) (u : Str → Option Value) h tk, Facts c → P c → Fr h₀ L h (kstB (fun z => if stored.contains z then u z else m₀ z) (ps c)) → News h₀ L h (Led c) →
      wpAny (model prog w) A (isTrue test env (eval test env)) (fun b s₂ =>
        if b = true then wpAny (model prog w) A (execs body env) (KswPost h₀ L s Led ps Facts stored m₀ P μ Q c) E s₂ else KcEnd h₀ L s Led ps stored m₀ u c s₂) E { s with heap := h, toks := tk })
    (rest : ∀ (c : σ) (u : Str → Option Value) h tk, Facts c → P c → Fr h₀ L h (kstB (fun z => if stored.contains z then u z else m₀ z) (ps c)) → News h₀ L h (Led c) → Q .next { s with heap := h, toks := tk })
    (hE : PassesOwn (model prog w) A env E := by passes_own) :
    wpAny (model prog w) A (exec (.While test body [] pos) env) Q E s := by
  refine ksw_while Led ps Facts stored P μ c₀ F N hf hk hp (fun c u h tk hf' hp' F' N' => ?_) hE
  refine wpAny_mono (turn c u h tk hf' hp' F' N') (fun b s₂ q => ?_) fun _ _ x => x
  cases b with
  | true => exact q
  | false =>
    simp only [Bool.false_eq_true, if_false] at q ⊢
    obtain ⟨h', tk', rfl, F₂, news', N₂, hsub⟩ := q
    exact rest c u h' tk' hf' hp' F₂ fun p hp => N₂ p (hsub p hp)
end
end Mine
namespace Mine
def ScEnd {σ : Type} (h₀ : Heap) (L : Addr) (s : Shared) (Led : σ → List (Addr × Obj)) (ps : σ → List (Str × Value)) (P : σ → Prop) (m₀ : Str → Option Value) (f : Flow) (s₂ : Shared) : Prop :=
  f = .next ∧ ∃ (c : σ) (h' : Heap) (tk : Nat) (m' : Str → Option Value) (news' : List (Addr × Obj)), s₂ = { s with heap := h', toks := tk } ∧ Fr h₀ L h' m' ∧ News h₀ L h' news' ∧ (∀ p ∈ Led c, p ∈ news') ∧ (∀ p ∈ ps c, m' p.1 = some p.2) ∧ (∀ z, (∀ p ∈ ps c, z ≠ p.1) → m' z = m₀ z) ∧ P c
theorem st_cut {prog : Program} {w : World} {A : Around} {E : Value → Shared → Prop} {Q : Flow → Shared → Prop} {s : Shared} {h₀ : Heap} {L : Addr} {σ : Type} {T : Sem Flow} {m₀ : Str → Option Value} (_F : Fr h₀ L s.heap m₀) (Led : σ → List (Addr × Obj)) (ps : σ → List (Str × Value)) (P : σ → Prop)
    (first : wpAny (model prog w) A T (ScEnd h₀ L s Led ps P m₀) E s)
    (rest : ∀ (c : σ) h tk, P c → Fr h₀ L h (kstB m₀ (ps c)) → News h₀ L h (Led c) → Q .next { s with heap := h, toks := tk }) :
    wpAny (model prog w) A T Q E s := by
  refine wpAny_mono first (fun f s₂ q => ?_) fun _ _ x => x
  obtain ⟨rfl, c, h', tk, m', news', rfl, F, N, hn, h1, h2, hp⟩ := q
  refine rest c h' tk hp ?_ fun p hp => N p (hn p hp)
  have em : kstB m₀ (ps c) = m' := by
    funext y
    exact kstB_eq h1 fun hn => (h2 y hn).symm
  rw [em]
  exact F
theorem fr_front {h₀ h : Heap} {L : Addr} {m : Str → Option Value} (ps : List (Str × Value)) (F : Fr h₀ L h m) (hk : ∀ p ∈ ps, m p.1 = some p.2) : ∃ u, Fr h₀ L h (kstB u ps) := by
  refine ⟨m, ?_⟩
  have em : kstB m ps = m := by
    funext y
    exact kstB_eq hk fun _ => rfl
  rw [em]
  exact F
theorem fr_three {h₀ h : Heap} {L : Addr} {m : Str → Option Value} {a b c : Str} {va vb vc : Value} (F : Fr h₀ L h m) (h1 : m a = some va) (h2 : m b = some vb) (h3 : m c = some vc) : ∃ u, Fr h₀ L h (kstB u [(a, va), (b, vb), (c, vc)]) :=
  fr_front _ F (List.forall_mem_cons.mpr ⟨h1, List.forall_mem_cons.mpr ⟨h2, List.forall_mem_cons.mpr ⟨h3, List.forall_mem_nil _⟩⟩⟩)
end Mine

namespace Mine
section
variable {prog : Program} {w : World} {A : Around} {E : Value → Shared → Prop} {s : Shared} {value slice : Expr} {x : Str} {t : Tok} {h₀ : Heap} {L : Addr} {m : Str → Option Value} {news : List (Addr × Obj)} {Q : Value → Shared → Prop}
theorem or_nn (hF : Fr h₀ L s.heap m) (hN : News h₀ L s.heap news) (h : ∀ h' t' k, Fr h₀ L h' m → News h₀ L h' news → Q (.str x t') { s with heap := h', toks := k })
    (hs : subscripted slice false (.str x t) (.ref s.heap.objs.size) = operate [.ref s.heap.objs.size, .str x t] (getItem (.str x t) (.ref s.heap.objs.size)))
    (ht : ∀ r, letTemporaryGo value (.str x t) r = pure ()) (hsz : x.length ≤ sizeLine) :
    wpAny (model prog w) A (subscriptTail value slice (.str x t) (.ref s.heap.objs.size)) Q E { s with heap := s.heap.push { cls := .type "slice", data := .fields #[.none, .none, .none] } } :=
  slice_strN_nn hF hN (fun h' t' k a b => by rw [slice_nn]; exact h h' t' k a b) hs ht hsz
theorem or_ns {j : Int} {uj : Tok} (h0 : j < 0) (h1 : -(x.length : Int) ≤ j) (hF : Fr h₀ L s.heap m) (hN : News h₀ L s.heap news)
    (h : ∀ h' t' k (X : Str), Fr h₀ L h' m → News h₀ L h' news → TakeOf X x j → (X.length : Int) = (x.length : Int) + j → Q (.str X t') { s with heap := h', toks := k })
    (hs : subscripted slice false (.str x t) (.ref s.heap.objs.size) = operate [.ref s.heap.objs.size, .str x t] (getItem (.str x t) (.ref s.heap.objs.size)))
    (ht : ∀ r, letTemporaryGo value (.str x t) r = pure ()) (hsz : x.length ≤ sizeLine) :
    wpAny (model prog w) A (subscriptTail value slice (.str x t) (.ref s.heap.objs.size)) Q E { s with heap := s.heap.push { cls := .type "slice", data := .fields #[.none, .int j uj, .none] } } :=
  slice_strN_ns hF hN (fun h' t' k a b => h h' t' k _ a b (slice_to_neg h0 h1) (by
    have e := congrArg List.length (slice_to_neg h0 h1)
    rw [sg_len, List.length_take, sg_len] at e
    omega)) hs ht hsz
end
end Mine

namespace Mine
/-- 2, 4, 6 .. -/
def evens (a : Int) (n : Nat) : List Int := (List.range n).map fun (i : Nat) => a + (i : Int) * 2
theorem evens_cons (a : Int) (n : Nat) : evens a (n + 1) = a :: evens (a + 2) n := by
  unfold evens
  rw [List.range_succ_eq_map, List.map_cons, List.map_map]
  congr 1
  · simp
  · apply List.map_congr_left
    intro i _
    simp only [Function.comp]
    omega
theorem evens_length (a : Int) (n : Nat) : (evens a n).length = n := by simp [evens]
theorem evens_ints : ∀ (vs : List Value) (a : Int) (n : Nat), vs.length = n → (∀ (j : Nat) (v : Value), vs[j]? = some v → ∃ t, v = .int (a + j * 2) t) → IntsAre vs (evens a n)
  | [], a, n, e, _ => by
    subst e
    exact IntsAre.nil
  | v :: r, a, n, e, h => by
    subst e
    rw [List.length_cons, evens_cons]
    obtain ⟨t, ht⟩ := h 0 v rfl
    have hv : v = .int a t := by rw [ht]; simp
    subst hv
    refine IntsAre.cons _ _ (evens_ints r (a + 2) r.length rfl fun j v hj => ?_)
    obtain ⟨t', ht'⟩ := h (j + 1) v hj
    refine ⟨t', ht'.trans ?_⟩
    congr 1
    omega
theorem size_two {n : Nat} (h0 : 0 < n) : Builtin.Range.rangeSize 2 (2 * ((n : Int) + 1)) 2 = (n : Int) := by
  unfold Builtin.Range.rangeSize
  simp only [show (2 : Int) > 0 by decide, if_true]
  split <;> omega
theorem small_two {n : Nat} (hn : n ≤ 100) (h0 : 0 < n) : Builtin.Range.small 2 (2 * ((n : Int) + 1)) 2 = true := by
  have : ∀ k : Fin 100, Builtin.Range.small 2 (2 * (((k.val + 1 : Nat) : Int) + 1)) 2 = true := by decide +kernel
  have h := this ⟨n - 1, by omega⟩
  rw [show n - 1 + 1 = n by omega] at h
  exact h
theorem list_two {prog : Program} {w : World} {A : Around} {E : Value → Shared → Prop} {s : Shared} {h₀ : Heap} {L r : Addr} {m : Str → Option Value} {news : List (Addr × Obj)} {t₀ u₀ v₀ : Tok} {n : Nat} {Q : Value → Shared → Prop}
    (hh : A.handled = none) (F : Fr h₀ L s.heap m) (N : News h₀ L s.heap news) (hr : IsRange s.heap r 2 (2 * ((n : Int) + 1)) 2 t₀ u₀ v₀) (h0 : 0 < n) (hn : n ≤ 100)
    (h : ∀ D us c h' tk, Fr h₀ L h' m → News h₀ L h' ((D, W.listOf (List.toArray us) c) :: news) → (∀ p ∈ news, p.1 < D) → IntsAre us (evens 2 n) → Q (.ref D) { s with heap := h', toks := tk }) :
    wpAny (model prog w) A (call (.type "list") [.ref r]) Q E s := by
  refine call_list_range hh hr (small_two hn h0) (size_two h0) (by omega) fun h' tk acc c hk hD hI => ?_
  have hD' : h'.get? s.heap.objs.size = some (W.listOf (List.toArray acc.toList) c) := by
    rw [Array.toArray_toList]
    exact hD
  exact h _ acc.toList c h' tk (F.keeps hk) (news_pushed F N hk hD' rfl) (fun p hp => Heap.lt_size (N p hp).1) (evens_ints _ _ _ (by rw [Array.length_toList]; exact hI.1) fun j v hj => hI.2 j v (by rw [← hj, Array.getElem?_toList]))
end Mine

namespace Mine
def subc (c d : Nat) : Int := subS ⟨#[c]⟩ ⟨#[d]⟩
theorem subS_le (x y : Str) : 0 ≤ subS x y ∧ subS x y ≤ 2 := by
  unfold subS
  split
  · omega
  · split <;> omega
/-- the row behind one more sign -/
def distRow (prev : List Nat → Int) (x : Nat) (n : Int) : List Nat → Int
  | [] => 2 * (n + 1)
  | y :: B => min (min (prev (y :: B)) (distRow prev x n B) + 2) (prev B + subc y x)
/-- the price of the cheapest way (read from behind) -/
def dist : List Nat → List Nat → Int
  | [] => fun B => 2 * (B.length : Int)
  | x :: A => distRow (dist A) x (A.length : Int)
theorem dist_nil (B : List Nat) : dist [] B = 2 * (B.length : Int) := rfl
theorem dist_cons_nil (x : Nat) (A : List Nat) : dist (x :: A) [] = 2 * ((A.length : Int) + 1) := rfl
theorem dist_cons (x y : Nat) (A B : List Nat) : dist (x :: A) (y :: B) = min (min (dist A (y :: B)) (dist (x :: A) B) + 2) (dist A B + subc y x) := rfl
theorem dist_nil_right (A : List Nat) : dist A [] = 2 * (A.length : Int) := by
  cases A with
  | nil => rfl
  | cons x A => rw [dist_cons_nil, List.length_cons]; omega
def cell (A B : List Nat) (i j : Nat) : Int := dist (A.take i).reverse (B.take j).reverse
theorem cell_row0 (A B : List Nat) {i : Nat} (h : i ≤ A.length) : cell A B i 0 = 2 * (i : Int) := by
  unfold cell
  rw [List.take_zero, List.reverse_nil, dist_nil_right, List.length_reverse, List.length_take]
  omega
theorem cell_col0 (A B : List Nat) {j : Nat} (h : j ≤ B.length) : cell A B 0 j = 2 * (j : Int) := by
  unfold cell
  rw [List.take_zero, List.reverse_nil, dist_nil, List.length_reverse, List.length_take]
  omega
theorem cell_succ (A B : List Nat) {i j : Nat} (hi : i < A.length) (hj : j < B.length) :
    cell A B (i + 1) (j + 1) = min (min (cell A B i (j + 1)) (cell A B (i + 1) j) + 2) (cell A B i j + subc (B.getD j 0) (A.getD i 0)) := by
  unfold cell
  rw [take_getD hi, take_getD hj, List.reverse_append, List.reverse_append, List.reverse_cons, List.reverse_nil, List.nil_append, List.reverse_cons, List.reverse_nil, List.nil_append, List.singleton_append, List.singleton_append]
  exact dist_cons _ _ _ _

def rowL (A B : List Nat) (n k : Nat) : List Int := (List.range A.length).map fun i => if i < k then cell A B (i + 1) (n + 1) else cell A B (i + 1) n
theorem rowL_len (A B : List Nat) (n k : Nat) : (rowL A B n k).length = A.length := by simp [rowL]
theorem rowL_get (A B : List Nat) (n k i : Nat) (h : i < A.length) : (rowL A B n k).getD i 0 = if i < k then cell A B (i + 1) (n + 1) else cell A B (i + 1) n := by
  unfold rowL
  rw [List.getD_eq_getElem?_getD, List.getElem?_map, List.getElem?_range h]
  rfl
theorem rowL_set (A B : List Nat) (n k : Nat) (h : k < A.length) : (rowL A B n k).set k (cell A B (k + 1) (n + 1)) = rowL A B n (k + 1) := by
  apply List.ext_getElem?
  intro i
  rw [List.getElem?_set]
  unfold rowL
  simp only [List.length_map, List.length_range, List.getElem?_map]
  by_cases hi : k = i
  · subst hi
    simp [h]
  · by_cases h2 : i < A.length
    · rw [if_neg hi, List.getElem?_range h2]
      simp only [Option.map_some]
      congr 1
      by_cases h3 : i < k
      · rw [if_pos h3, if_pos (by omega)]
      · rw [if_neg h3, if_neg (by omega)]
    · rw [if_neg hi, List.getElem?_eq_none (by simpa using h2)]
      rfl
theorem rowL_full (A B : List Nat) (n : Nat) : rowL A B n A.length = rowL A B (n + 1) 0 := by
  unfold rowL
  apply List.map_congr_left
  intro i hi
  rw [if_pos (by simpa using hi), if_neg (by omega)]
theorem rowL_zero (A B : List Nat) : rowL A B 0 0 = evens 2 A.length := by
  unfold rowL evens
  apply List.map_congr_left
  intro i hi
  have h : i < A.length := by simpa using hi
  rw [if_neg (by omega), cell_row0 A B (by omega)]
  omega

def OutInv (X Y : Str) (n : Nat) (ns : List Int) (r : Int) : Prop := ns = rowL (sg X) (sg Y) n 0 ∧ (0 < n → r = cell (sg X) (sg Y) X.length n)
def InnInv (X Y : Str) (n k : Nat) (ns : List Int) (d r mn : Int) : Prop :=
  ns = rowL (sg X) (sg Y) n k ∧ d = cell (sg X) (sg Y) k n ∧ r = (if k = 0 then 2 * (n : Int) else cell (sg X) (sg Y) k (n + 1)) ∧ ∀ i < k, mn ≤ cell (sg X) (sg Y) (i + 1) (n + 1)
theorem out_start (X Y : Str) : (evens 2 X.length).length = X.length ∧ OutInv X Y ([] : List Int).length (evens 2 X.length) 0 := by
  refine ⟨evens_length _ _, ?_, fun h => absurd h (Nat.lt_irrefl 0)⟩
  rw [← sg_len, List.length_nil, rowL_zero]
theorem inn_start {X Y : Str} {n : Nat} {ns : List Int} {r : Int} (h : OutInv X Y n ns r) (hn : n ≤ Y.length) {d : Int} (hd : d = 2 * (n : Int)) (mn : Int) : InnInv X Y n ([] : List Int).length ns d d mn := by
  refine ⟨h.1, ?_, ?_, fun i hi => absurd hi (Nat.not_lt_zero i)⟩
  · rw [hd, List.length_nil, cell_col0 _ _ (by rw [sg_len]; exact hn)]
  · rw [hd]; rfl
theorem inn_value {X Y : Str} {n k : Nat} {ns : List Int} {d r mn : Int} (h : InnInv X Y n k ns d r mn) (hk : k < X.length) (hn : n < Y.length) {sb : Int} (hs : sb = subc ((sg Y).getD n 0) ((sg X).getD k 0)) :
    min (min r (ns.getD k 0) + 2) (d + sb) = cell (sg X) (sg Y) (k + 1) (n + 1) := by
  obtain ⟨h1, h2, h3, _⟩ := h
  have hk' : k < (sg X).length := by rw [sg_len]; exact hk
  have hn' : n < (sg Y).length := by rw [sg_len]; exact hn
  have hb := subS_le ⟨#[(sg Y).getD n 0]⟩ ⟨#[(sg X).getD k 0]⟩
  have hb' : 0 ≤ sb ∧ sb ≤ 2 := by rw [hs]; exact hb
  rw [cell_succ _ _ hk' hn', ← hs, h2, h3, h1, rowL_get _ _ _ _ _ hk', if_neg (Nat.lt_irrefl k)]
  by_cases h0 : k = 0
  · subst h0
    rw [if_pos rfl, cell_col0 _ _ (by omega : n ≤ (sg Y).length), cell_col0 _ _ (by omega : n + 1 ≤ (sg Y).length)]
    omega
  · rw [if_neg h0]
theorem inn_step {X Y : Str} {n k : Nat} {ns : List Int} {d r mn : Int} (h : InnInv X Y n k ns d r mn) (hk : k < X.length) {v mn' : Int} (hv : v = cell (sg X) (sg Y) (k + 1) (n + 1)) (h1 : mn' ≤ mn) (h2 : mn' ≤ v) :
    InnInv X Y n (k + 1) (ns.set k v) (ns.getD k 0) v mn' := by
  obtain ⟨a1, a2, a3, a4⟩ := h
  have hk' : k < (sg X).length := by rw [sg_len]; exact hk
  refine ⟨?_, ?_, ?_, fun i hi => ?_⟩
  · rw [a1, hv, rowL_set _ _ _ _ hk']
  · rw [a1, rowL_get _ _ _ _ _ hk', if_neg (Nat.lt_irrefl k)]
  · rw [if_neg (by omega)]; exact hv
  · by_cases e : i = k
    · subst e; omega
    · have := a4 i (by omega); omega
theorem out_step {X Y : Str} {n k : Nat} {ns : List Int} {d r mn : Int} (hk : k = X.length) (h0 : 0 < X.length) (h : InnInv X Y n k ns d r mn) : OutInv X Y (n + 1) ns r := by
  obtain ⟨a1, a2, a3, a4⟩ := h
  refine ⟨?_, fun _ => ?_⟩
  · rw [a1, hk, ← sg_len, rowL_full]
  · rw [a3, if_neg (by omega), hk]
theorem item_eq {x : Str} {i : Int} {n : Nat} (h : i = 0 + (n : Int)) (hn : n < x.length) : Txt.item x i = ⟨#[(sg x).getD n 0]⟩ := by
  refine sg_ext ?_
  rw [charAt_pos (by omega) (by omega), show i.toNat = n by omega]
theorem inn_any {X Y : Str} {pre pre2 ns2 : List Int} {kN kN2 d2 r2 mn2 mn' V : Int} (e1 : kN = 0 + (pre.length : Int)) (e2 : kN2 = 0 + (pre2.length : Int)) (h1 : pre.length < Y.length) (h2 : pre2.length < X.length)
    (hl : ns2.length = X.length) (h : InnInv X Y pre.length pre2.length ns2 d2 r2 mn2)
    (hV : V = if d2 + subS (Txt.item Y kN) (Txt.item X kN2) < (if ns2.getD kN2.toNat 0 < r2 then ns2.getD kN2.toNat 0 else r2) + 2 then d2 + subS (Txt.item Y kN) (Txt.item X kN2) else (if ns2.getD kN2.toNat 0 < r2 then ns2.getD kN2.toNat 0 else r2) + 2)
    (m1 : mn' ≤ mn2) (m2 : mn' ≤ V) :
    (ns2.set kN2.toNat V).length = X.length ∧ InnInv X Y pre.length (pre2 ++ [kN2]).length (ns2.set kN2.toNat V) (ns2.getD kN2.toNat 0) V mn' := by
  refine ⟨by rw [List.length_set]; exact hl, ?_⟩
  have hk : kN2.toNat = pre2.length := by omega
  have hs : subS (Txt.item Y kN) (Txt.item X kN2) = subc ((sg Y).getD pre.length 0) ((sg X).getD pre2.length 0) := by
    rw [item_eq e1 h1, item_eq e2 h2]; rfl
  have hv := inn_value h h2 h1 hs
  rw [List.length_append, List.length_cons, List.length_nil, hk]
  rw [hk] at hV
  refine inn_step h h2 ?_ m1 m2
  rw [← hv, hV]
  split <;> split <;> omega
theorem inn_end1 {X Y : Str} {pre pre2 ns2 : List Int} {kN kN2 d2 r2 mn2 : Int} (e1 : kN = 0 + (pre.length : Int)) (e2 : kN2 = 0 + (pre2.length : Int)) (h1 : pre.length < Y.length) (h2 : pre2.length < X.length)
    (hl : ns2.length = X.length) (h : InnInv X Y pre.length pre2.length ns2 d2 r2 mn2)
    (hm : (if d2 + subS (Txt.item Y kN) (Txt.item X kN2) < (if ns2.getD kN2.toNat 0 < r2 then ns2.getD kN2.toNat 0 else r2) + 2 then d2 + subS (Txt.item Y kN) (Txt.item X kN2) else (if ns2.getD kN2.toNat 0 < r2 then ns2.getD kN2.toNat 0 else r2) + 2) < mn2) :
    (ns2.set kN2.toNat (if d2 + subS (Txt.item Y kN) (Txt.item X kN2) < (if ns2.getD kN2.toNat 0 < r2 then ns2.getD kN2.toNat 0 else r2) + 2 then d2 + subS (Txt.item Y kN) (Txt.item X kN2) else (if ns2.getD kN2.toNat 0 < r2 then ns2.getD kN2.toNat 0 else r2) + 2)).length = X.length ∧
    InnInv X Y pre.length (pre2 ++ [kN2]).length (ns2.set kN2.toNat (if d2 + subS (Txt.item Y kN) (Txt.item X kN2) < (if ns2.getD kN2.toNat 0 < r2 then ns2.getD kN2.toNat 0 else r2) + 2 then d2 + subS (Txt.item Y kN) (Txt.item X kN2) else (if ns2.getD kN2.toNat 0 < r2 then ns2.getD kN2.toNat 0 else r2) + 2)) (ns2.getD kN2.toNat 0)
      (if d2 + subS (Txt.item Y kN) (Txt.item X kN2) < (if ns2.getD kN2.toNat 0 < r2 then ns2.getD kN2.toNat 0 else r2) + 2 then d2 + subS (Txt.item Y kN) (Txt.item X kN2) else (if ns2.getD kN2.toNat 0 < r2 then ns2.getD kN2.toNat 0 else r2) + 2)
      (if d2 + subS (Txt.item Y kN) (Txt.item X kN2) < (if ns2.getD kN2.toNat 0 < r2 then ns2.getD kN2.toNat 0 else r2) + 2 then d2 + subS (Txt.item Y kN) (Txt.item X kN2) else (if ns2.getD kN2.toNat 0 < r2 then ns2.getD kN2.toNat 0 else r2) + 2) :=
  inn_any e1 e2 h1 h2 hl h rfl (Int.le_of_lt hm) (Int.le_refl _)
theorem inn_end2 {X Y : Str} {pre pre2 ns2 : List Int} {kN kN2 d2 r2 mn2 : Int} (e1 : kN = 0 + (pre.length : Int)) (e2 : kN2 = 0 + (pre2.length : Int)) (h1 : pre.length < Y.length) (h2 : pre2.length < X.length)
    (hl : ns2.length = X.length) (h : InnInv X Y pre.length pre2.length ns2 d2 r2 mn2)
    (hm : ¬ (if d2 + subS (Txt.item Y kN) (Txt.item X kN2) < (if ns2.getD kN2.toNat 0 < r2 then ns2.getD kN2.toNat 0 else r2) + 2 then d2 + subS (Txt.item Y kN) (Txt.item X kN2) else (if ns2.getD kN2.toNat 0 < r2 then ns2.getD kN2.toNat 0 else r2) + 2) < mn2) :
    (ns2.set kN2.toNat (if d2 + subS (Txt.item Y kN) (Txt.item X kN2) < (if ns2.getD kN2.toNat 0 < r2 then ns2.getD kN2.toNat 0 else r2) + 2 then d2 + subS (Txt.item Y kN) (Txt.item X kN2) else (if ns2.getD kN2.toNat 0 < r2 then ns2.getD kN2.toNat 0 else r2) + 2)).length = X.length ∧
    InnInv X Y pre.length (pre2 ++ [kN2]).length (ns2.set kN2.toNat (if d2 + subS (Txt.item Y kN) (Txt.item X kN2) < (if ns2.getD kN2.toNat 0 < r2 then ns2.getD kN2.toNat 0 else r2) + 2 then d2 + subS (Txt.item Y kN) (Txt.item X kN2) else (if ns2.getD kN2.toNat 0 < r2 then ns2.getD kN2.toNat 0 else r2) + 2)) (ns2.getD kN2.toNat 0)
      (if d2 + subS (Txt.item Y kN) (Txt.item X kN2) < (if ns2.getD kN2.toNat 0 < r2 then ns2.getD kN2.toNat 0 else r2) + 2 then d2 + subS (Txt.item Y kN) (Txt.item X kN2) else (if ns2.getD kN2.toNat 0 < r2 then ns2.getD kN2.toNat 0 else r2) + 2) mn2 :=
  inn_any e1 e2 h1 h2 hl h rfl (Int.le_refl _) (Int.not_lt.mp hm)
theorem out_end {X Y : Str} {pre ns2 : List Int} {k : Nat} {kN d2 r2 mn2 : Int} (hk : k = X.length) (h0 : 0 < X.length) (hl : ns2.length = X.length) (h : InnInv X Y pre.length k ns2 d2 r2 mn2) :
    ns2.length = X.length ∧ OutInv X Y (pre ++ [kN]).length ns2 r2 := by
  refine ⟨hl, ?_⟩
  rw [List.length_append, List.length_cons, List.length_nil]
  exact out_step hk h0 h
end Mine

namespace Mine
theorem subS_comm (x y : Str) : subS x y = subS y x := by
  unfold subS
  simp only [eq_comm (a := y) (b := x), eq_comm (a := Txt.lower y) (b := Txt.lower x)]
theorem subS_self (x : Str) : subS x x = 0 := by unfold subS; rw [if_pos rfl]
theorem subS_tri (x y z : Str) : subS x z ≤ subS x y + subS y z := by
  have h1 := subS_le x y
  have h2 := subS_le y z
  have h3 := subS_le x z
  by_cases a : x = y
  · subst a; rw [subS_self]; omega
  by_cases b : y = z
  · subst b; rw [subS_self]; omega
  have e1 : 1 ≤ subS x y := by
    unfold subS; rw [if_neg a]; split <;> omega
  have e2 : 1 ≤ subS y z := by
    unfold subS; rw [if_neg b]; split <;> omega
  omega
theorem subc_comm (x y : Nat) : subc x y = subc y x := subS_comm _ _
theorem subc_self (x : Nat) : subc x x = 0 := subS_self _
theorem subc_tri (x y z : Nat) : subc x z ≤ subc x y + subc y z := subS_tri _ _ _
theorem subc_le (x y : Nat) : 0 ≤ subc x y ∧ subc x y ≤ 2 := subS_le _ _

/-- a way from one list of signs to another, and its price -/
inductive Al : List Nat → List Nat → Int → Prop
  | nil : Al [] [] 0
  | del (x : Nat) {A B : List Nat} {c : Int} : Al A B c → Al (x :: A) B (c + 2)
  | ins (y : Nat) {A B : List Nat} {c : Int} : Al A B c → Al A (y :: B) (c + 2)
  | sub (x y : Nat) {A B : List Nat} {c : Int} : Al A B c → Al (x :: A) (y :: B) (c + subc x y)

theorem Al.to {A B : List Nat} {c d : Int} (h : Al A B c) (e : c = d) : Al A B d := e ▸ h
theorem Al.nonneg {A B : List Nat} {c : Int} (h : Al A B c) : 0 ≤ c := by
  induction h with
  | nil => omega
  | del x _ ih => omega
  | ins y _ ih => omega
  | sub x y _ ih => have := subc_le x y; omega
theorem Al.symm {A B : List Nat} {c : Int} (h : Al A B c) : Al B A c := by
  induction h with
  | nil => exact .nil
  | del x _ ih => exact .ins x ih
  | ins y _ ih => exact .del y ih
  | sub x y _ ih => exact (Al.sub y x ih).to (by rw [subc_comm])
theorem Al.refl : ∀ A : List Nat, Al A A 0
  | [] => .nil
  | x :: A => (Al.sub x x (Al.refl A)).to (by rw [subc_self]; rfl)
theorem Al.append {A B A' B' : List Nat} {c c' : Int} (h : Al A B c) (h' : Al A' B' c') : Al (A ++ A') (B ++ B') (c + c') := by
  induction h with
  | nil => exact h'.to (by omega)
  | del x _ ih => exact (Al.del x ih).to (by omega)
  | ins y _ ih => exact (Al.ins y ih).to (by omega)
  | sub x y _ ih => exact (Al.sub x y ih).to (by omega)
theorem Al.rev {A B : List Nat} {c : Int} (h : Al A B c) : Al A.reverse B.reverse c := by
  induction h with
  | nil => exact .nil
  | del x _ ih =>
    rw [List.reverse_cons]
    have := ih.append (Al.del x .nil)
    rw [List.append_nil] at this
    exact this.to (by omega)
  | ins y _ ih =>
    rw [List.reverse_cons]
    have := ih.append (Al.ins y .nil)
    rw [List.append_nil] at this
    exact this.to (by omega)
  | sub x y _ ih =>
    rw [List.reverse_cons, List.reverse_cons]
    exact (ih.append (Al.sub x y .nil)).to (by omega)

theorem Al.trans {A B : List Nat} {c : Int} (h : Al A B c) : ∀ {C : List Nat} {d : Int}, Al B C d → ∃ e, e ≤ c + d ∧ Al A C e := by
  induction h with
  | nil => intro C d h2; exact ⟨d, by omega, h2⟩
  | del x _ ih =>
    intro C d h2
    obtain ⟨e, he, h3⟩ := ih h2
    exact ⟨e + 2, by omega, .del x h3⟩
  | @ins y A B c h1 ih =>
    intro C d h2
    generalize hB : y :: B = B' at h2
    induction h2 with
    | nil => cases hB
    | @del y' B₂ C₂ d₂ h3 _ =>
      cases hB
      obtain ⟨e, he, h4⟩ := ih h3
      exact ⟨e, by omega, h4⟩
    | ins z _ ih2 =>
      obtain ⟨e, he, h4⟩ := ih2 hB
      exact ⟨e + 2, by omega, .ins z h4⟩
    | @sub y' z B₂ C₂ d₂ h3 _ =>
      cases hB
      obtain ⟨e, he, h4⟩ := ih h3
      have := subc_le y z
      exact ⟨e + 2, by omega, .ins z h4⟩
  | @sub x y A B c h1 ih =>
    intro C d h2
    generalize hB : y :: B = B' at h2
    have hs := subc_le x y
    induction h2 with
    | nil => cases hB
    | @del y' B₂ C₂ d₂ h3 _ =>
      cases hB
      obtain ⟨e, he, h4⟩ := ih h3
      exact ⟨e + 2, by omega, .del x h4⟩
    | ins z _ ih2 =>
      obtain ⟨e, he, h4⟩ := ih2 hB
      exact ⟨e + 2, by omega, .ins z h4⟩
    | @sub y' z B₂ C₂ d₂ h3 _ =>
      cases hB
      obtain ⟨e, he, h4⟩ := ih h3
      have := subc_tri x y z
      exact ⟨e + subc x z, by omega, .sub x z h4⟩

theorem Al.cancel1 {x : Nat} {A B : List Nat} {c : Int} (h : Al (x :: A) (x :: B) c) : ∃ e, e ≤ c ∧ Al A B e := by
  cases h with
  | @del _ _ _ c h =>
    obtain ⟨e, he, h2⟩ := h.trans (Al.del x (Al.refl B))
    exact ⟨e, by omega, h2⟩
  | @ins _ _ _ c h =>
    obtain ⟨e, he, h2⟩ := (Al.ins x (Al.refl A)).trans h
    exact ⟨e, by omega, h2⟩
  | @sub _ _ _ _ c h => exact ⟨c, by rw [subc_self]; omega, h⟩
theorem Al.cancel (P : List Nat) {A B : List Nat} : ∀ {c : Int}, Al (P ++ A) (P ++ B) c → ∃ e, e ≤ c ∧ Al A B e := by
  induction P with
  | nil => intro c h; exact ⟨c, Int.le_refl _, h⟩
  | cons x P ih =>
    intro c h
    obtain ⟨e, he, h1⟩ := Al.cancel1 h
    obtain ⟨e2, he2, h2⟩ := ih h1
    exact ⟨e2, by omega, h2⟩
theorem Al.cancelR (P : List Nat) {A B : List Nat} {c : Int} (h : Al (A ++ P) (B ++ P) c) : ∃ e, e ≤ c ∧ Al A B e := by
  have h := h.rev
  rw [List.reverse_append, List.reverse_append] at h
  obtain ⟨e, he, h1⟩ := Al.cancel P.reverse h
  have h1 := h1.rev
  rw [List.reverse_reverse, List.reverse_reverse] at h1
  exact ⟨e, he, h1⟩
theorem Al.split {A B : List Nat} {c : Int} (h : Al A B c) : ∀ {B1 B2 : List Nat}, B = B1 ++ B2 → ∃ A1 A2 c1 c2, A = A1 ++ A2 ∧ Al A1 B1 c1 ∧ Al A2 B2 c2 ∧ c = c1 + c2 := by
  have base : ∀ {A B : List Nat} {c : Int}, Al A B c → ∃ A1 A2 c1 c2, A = A1 ++ A2 ∧ Al A1 [] c1 ∧ Al A2 B c2 ∧ c = c1 + c2 := fun {A B c} h => ⟨[], A, 0, c, rfl, .nil, h, by omega⟩
  induction h with
  | nil =>
    intro B1 B2 e
    obtain ⟨rfl, rfl⟩ := List.append_eq_nil_iff.mp e.symm
    exact base .nil
  | @del x A B c h ih =>
    intro B1 B2 e
    obtain ⟨A1, A2, c1, c2, e1, h1, h2, e2⟩ := ih e
    exact ⟨x :: A1, A2, c1 + 2, c2, by rw [e1]; rfl, .del x h1, h2, by omega⟩
  | @ins y A B c h ih =>
    intro B1 B2 e
    cases B1 with
    | nil => rw [List.nil_append] at e; subst e; exact base (.ins y h)
    | cons z B1 =>
      rw [List.cons_append] at e
      obtain ⟨rfl, e'⟩ := List.cons.inj e
      obtain ⟨A1, A2, c1, c2, e1, h1, h2, e2⟩ := ih e'
      exact ⟨A1, A2, c1 + 2, c2, e1, .ins y h1, h2, by omega⟩
  | @sub x y A B c h ih =>
    intro B1 B2 e
    cases B1 with
    | nil => rw [List.nil_append] at e; subst e; exact base (.sub x y h)
    | cons z B1 =>
      rw [List.cons_append] at e
      obtain ⟨rfl, e'⟩ := List.cons.inj e
      obtain ⟨A1, A2, c1, c2, e1, h1, h2, e2⟩ := ih e'
      exact ⟨x :: A1, A2, c1 + subc x y, c2, by rw [e1]; rfl, .sub x y h1, h2, by omega⟩
theorem Al.lens {A B : List Nat} {c : Int} (h : Al A B c) : 2 * ((B.length : Int) - (A.length : Int)) ≤ c := by
  induction h with
  | nil => simp
  | del x _ ih => simp only [List.length_cons]; omega
  | ins y _ ih => simp only [List.length_cons]; omega
  | sub x y _ ih => have := subc_le x y; simp only [List.length_cons]; omega
/-- no step may turn the weight by more than its price -/
theorem Al.weight {f : Nat → Int} (h2 : ∀ x, 0 ≤ f x ∧ f x ≤ 2) (hs : ∀ x y, f x - f y ≤ subc x y) {A B : List Nat} {c : Int} (h : Al A B c) : (A.map f).sum - (B.map f).sum ≤ c := by
  induction h with
  | nil => simp
  | del x _ ih => have := h2 x; simp only [List.map_cons, List.sum_cons]; omega
  | ins y _ ih => have := h2 y; simp only [List.map_cons, List.sum_cons]; omega
  | sub x y _ ih => have := hs x y; simp only [List.map_cons, List.sum_cons]; omega
theorem Al.allIns : ∀ B : List Nat, Al [] B (2 * (B.length : Int))
  | [] => .nil
  | y :: B => (Al.ins y (Al.allIns B)).to (by simp only [List.length_cons]; omega)
theorem Al.fromNil {B : List Nat} {c : Int} (h : Al [] B c) : 2 * (B.length : Int) ≤ c := by
  have := h.lens
  simp only [List.length_nil] at this
  omega

theorem dist_al : ∀ A B : List Nat, Al A B (dist A B)
  | [], B => Al.allIns B
  | x :: A, [] => (Al.del x (dist_al A [])).to (by rw [dist_nil_right, dist_cons_nil]; omega)
  | x :: A, y :: B => by
    have h1 := Al.del x (dist_al A (y :: B))
    have h2 := Al.ins y (dist_al (x :: A) B)
    have h3 := Al.sub x y (dist_al A B)
    rw [dist_cons]
    rw [subc_comm] at h3
    by_cases a : min (dist A (y :: B)) (dist (x :: A) B) + 2 ≤ dist A B + subc y x
    · by_cases b : dist A (y :: B) ≤ dist (x :: A) B
      · exact h1.to (by omega)
      · exact h2.to (by omega)
    · exact h3.to (by omega)
theorem dist_le {A B : List Nat} {c : Int} (h : Al A B c) : dist A B ≤ c := by
  induction h with
  | nil => exact Int.le_refl _
  | @del x A B c _ ih =>
    cases B with
    | nil => rw [dist_cons_nil]; rw [dist_nil_right] at ih; omega
    | cons y B => rw [dist_cons]; omega
  | @ins y A B c _ ih =>
    cases A with
    | nil => rw [dist_nil] at ih ⊢; simp only [List.length_cons]; omega
    | cons x A => rw [dist_cons]; omega
  | @sub x y A B c _ ih => rw [dist_cons, subc_comm y x]; omega
theorem cell_al (A B : List Nat) (i j : Nat) : Al (A.take i) (B.take j) (cell A B i j) := by
  have h := (dist_al (A.take i).reverse (B.take j).reverse).rev
  rw [List.reverse_reverse, List.reverse_reverse] at h
  exact h
theorem cell_le {A B : List Nat} {i j : Nat} {c : Int} (h : Al (A.take i) (B.take j) c) : cell A B i j ≤ c := dist_le h.rev

def LSpec (A B : List Nat) (mc r : Int) : Prop := (Al A B r ∧ ∀ c, Al A B c → r ≤ c) ∨ (r = mc + 1 ∧ ∀ c, Al A B c → mc < c)
theorem LSpec.pre {A B : List Nat} {mc r : Int} (P : List Nat) (h : LSpec A B mc r) : LSpec (P ++ A) (P ++ B) mc r := by
  rcases h with ⟨h1, h2⟩ | ⟨h1, h2⟩
  · refine .inl ⟨((Al.refl P).append h1).to (by omega), fun c hc => ?_⟩
    obtain ⟨e, he, h3⟩ := Al.cancel P hc
    have := h2 e h3
    omega
  · refine .inr ⟨h1, fun c hc => ?_⟩
    obtain ⟨e, he, h3⟩ := Al.cancel P hc
    have := h2 e h3
    omega
theorem LSpec.post {A B : List Nat} {mc r : Int} (P : List Nat) (h : LSpec A B mc r) : LSpec (A ++ P) (B ++ P) mc r := by
  rcases h with ⟨h1, h2⟩ | ⟨h1, h2⟩
  · refine .inl ⟨(h1.append (Al.refl P)).to (by omega), fun c hc => ?_⟩
    obtain ⟨e, he, h3⟩ := Al.cancelR P hc
    have := h2 e h3
    omega
  · refine .inr ⟨h1, fun c hc => ?_⟩
    obtain ⟨e, he, h3⟩ := Al.cancelR P hc
    have := h2 e h3
    omega
theorem LSpec.swap {A B : List Nat} {mc r : Int} (h : LSpec A B mc r) : LSpec B A mc r := by
  rcases h with ⟨h1, h2⟩ | ⟨h1, h2⟩
  · exact .inl ⟨h1.symm, fun c hc => h2 c hc.symm⟩
  · exact .inr ⟨h1, fun c hc => h2 c hc.symm⟩

def LevOk (x y : Str) (mc r : Int) : Prop := LSpec (sg x) (sg y) mc r
def Lifts (x y x2 y2 : Str) (mc : Int) : Prop := ∀ r, LevOk x2 y2 mc r → LevOk x y mc r
theorem lifts_of {x y x1 y1 x2 y2 : Str} {i j : Int} {mc : Int} (h1 : PreInv x y i) (hx1 : DropOf x1 x i) (hy1 : DropOf y1 y i) (h2 : PostInv x1 y1 j) (hx2 : TakeOf x2 x1 j) (hy2 : TakeOf y2 y1 j) : Lifts x y x2 y2 mc := by
  intro r h
  unfold LevOk at h ⊢
  unfold PreInv at h1
  unfold DropOf at hx1 hy1
  unfold PostInv at h2
  unfold TakeOf at hx2 hy2
  have e1 : sg x1 = sg x2 ++ (sg x1).drop (j + (x1.length : Int)).toNat := by rw [hx2, List.take_append_drop]
  have e2 : sg y1 = sg y2 ++ (sg x1).drop (j + (x1.length : Int)).toNat := by rw [h2, hy2, List.take_append_drop]
  have e3 : sg x = (sg x).take i.toNat ++ sg x1 := by rw [hx1, List.take_append_drop]
  have e4 : sg y = (sg x).take i.toNat ++ sg y1 := by rw [h1, hy1, List.take_append_drop]
  have g1 := LSpec.post ((sg x1).drop (j + (x1.length : Int)).toNat) h
  rw [← e1, ← e2] at g1
  have g2 := LSpec.pre ((sg x).take i.toNat) g1
  rw [← e3, ← e4] at g2
  exact g2
theorem lifts_swap {x y x2 y2 X Y : Str} {mc : Int} (h : Lifts x y x2 y2 mc) (hs : SwapOf X Y x2 y2) : Lifts x y X Y mc := by
  intro r hr
  rcases hs with ⟨rfl, rfl⟩ | ⟨rfl, rfl⟩
  · exact h r hr
  · exact h r (LSpec.swap hr)
theorem lev_same {x y : Str} {mc : Int} (h : (x == y) = true) : LevOk x y mc 0 := by
  have := beq_true h
  subst this
  exact .inl ⟨Al.refl _, fun c hc => hc.nonneg⟩
theorem lev_nil1 {x y : Str} {mc : Int} (h : (x.length : Int) = 0) : LevOk x y mc (2 * ((x.length : Int) + (y.length : Int))) := by
  have e : sg x = [] := List.eq_nil_of_length_eq_zero (by rw [sg_len]; omega)
  refine .inl ⟨?_, fun c hc => ?_⟩
  · rw [e]; exact (Al.allIns (sg y)).to (by rw [sg_len]; omega)
  · rw [e] at hc
    have := hc.fromNil
    rw [sg_len] at this
    omega
theorem lev_nil2 {x y : Str} {mc : Int} (h : (y.length : Int) = 0) : LevOk x y mc (2 * ((x.length : Int) + (y.length : Int))) := by
  have := LSpec.swap (lev_nil1 (x := y) (y := x) (mc := mc) h)
  have e : (2 : Int) * ((x.length : Int) + (y.length : Int)) = 2 * ((y.length : Int) + (x.length : Int)) := by omega
  rw [e]
  exact this
theorem lev_far {X Y : Str} {mc : Int} (h : mc < ((Y.length : Int) - (X.length : Int)) * 2) : LevOk X Y mc (mc + 1) := by
  refine .inr ⟨rfl, fun c hc => ?_⟩
  have := hc.lens
  rw [sg_len, sg_len] at this
  omega
theorem lev_early {X Y : Str} {n k : Nat} {ns : List Int} {d r mn mc : Int} (hk : k = X.length) (h0 : 0 < X.length) (hn : n < Y.length) (h : InnInv X Y n k ns d r mn) (hm : mc < mn) : LevOk X Y mc (mc + 1) := by
  refine .inr ⟨rfl, fun c hc => ?_⟩
  obtain ⟨_, _, _, h4⟩ := h
  have hA : 0 < (sg X).length := by rw [sg_len]; exact h0
  have hB : n < (sg Y).length := by rw [sg_len]; exact hn
  obtain ⟨A1, A2, c1, c2, e1, a1, a2, e2⟩ := hc.split (List.take_append_drop (n + 1) (sg Y)).symm
  have hc2 := a2.nonneg
  have hA1 : A1 = (sg X).take A1.length := by rw [e1, List.take_left']; rfl
  have hle : A1.length ≤ (sg X).length := by rw [e1, List.length_append]; omega
  rw [hA1] at a1
  have h5 := cell_le a1
  by_cases z : A1.length = 0
  · rw [z, cell_col0 _ _ (by omega : n + 1 ≤ (sg Y).length)] at h5
    have h6 := h4 0 (by omega)
    rw [cell_succ _ _ hA hB, cell_col0 _ _ (by omega : n ≤ (sg Y).length)] at h6
    have h7 := subc_le ((sg Y).getD n 0) ((sg X).getD 0 0)
    omega
  · have h6 := h4 (A1.length - 1) (by rw [hk, ← sg_len]; omega)
    rw [show A1.length - 1 + 1 = A1.length by omega] at h6
    omega
theorem lev_done {X Y : Str} {n : Nat} {ns : List Int} {r mc : Int} (hn : n = Y.length) (h0 : 0 < Y.length) (h : OutInv X Y n ns r) : LevOk X Y mc r := by
  obtain ⟨_, h2⟩ := h
  have h2 := h2 (by omega)
  have e1 : (sg X).take X.length = sg X := List.take_of_length_le (by rw [sg_len]; omega)
  have e2 : (sg Y).take n = sg Y := List.take_of_length_le (by rw [sg_len]; omega)
  refine .inl ⟨?_, fun c hc => ?_⟩
  · have := cell_al (sg X) (sg Y) X.length n
    rw [e1, e2] at this
    rw [h2]; exact this
  · rw [h2]
    refine cell_le ?_
    rw [e1, e2]
    exact hc
end Mine

namespace Mine
local macro_rules | `(tactic| walk_at "LeaveD") => `(tactic| (refine' leaveD_ ?k1 ?k2 ?_; (case k1 => k_asm); (case k2 => k_asm); k_whole; intro kF kN; (try dsimp only)))

theorem laid_c (w : World) (x y z : Str) (t1 t2 t3 : Tok) (hx : x.length ≤ 100) (hy : 0 < y.length) (hy2 : y.length ≤ 100) (hz : z.length ≤ 100) :
    Cl w 49 1 [.str x t1, .str y t2, .str z t3] (fun v ex => ex = [] ∧ IsS v (laidS x y z)) := by
  unfold Cl
  intro mean mg mb dp un gd cn cs a ccd cl outer A₀ base h₀ L m news s Q E B F X N T hcs hroom hunits hret
  w_on
  have hfill : Fill PySem.Challenge.rw_pe0077_01 hd.heap_39 := by k_fill; exact trivial
  refine wpAny_call ?_
  k_dflt (refine' enterD (binds := [(Str.ofString "text", .str x t1), (Str.ofString "word", .str y t2), (Str.ofString "stead", .str z t3)]) B F X N T ?kA ?kF ?kK ?k6 ?k7 ?k8 ?k9 ?kB ?_ ?c2 ?c3 ?c4 ?c5; (case kA => exact rfl); (case kF => exact rfl); (case kK => assumption); (case k6 => k_is); (case k7 => k_is); (case k8 => ktr_room); (case k9 => exact BindsTo.of_eq rfl); (case c5 => decide); (case kB => exact locs rfl); (case c2 => exact rfl); (case c3 => exact rfl); (case c4 => exact rfl); k_whole)
  clear B F X N T hfill
  intro L' h' tk0 F' N' B' X' T'
  simp only [List.reverse_cons, List.reverse_nil, List.nil_append, List.cons_append] at F'
  (try dsimp only)
  (try k_fold)
  (k_with "exec While Compare cons nil" => k_while (fun _ i l => 0 ≤ i ∧ i ≤ (x.length : Int) ∧ (l.length : Int) ≤ 101 * i ∧ LaidInv x y z i l) (fun _ i _ => x.length - i.toNat) "at" "laid")
  (k_with "state" => first
    | exact (laid_hit hy hz (by assumption) (by assumption) (by assumption)).full
    | exact (laid_miss hy (by assumption) (by assumption) (by assumption)).full
    | exact (laid_start x y z).full)
  k_steps
  all_goals (refine hret _ [] _ _ ?_ (by assumption) (by assumption); refine ⟨rfl, isS_of (laid_end (by assumption) (by assumption))⟩)
end Mine

namespace Mine
local macro_rules | `(tactic| walk_at "LeaveD") => `(tactic| (refine' leaveD_ ?k1 ?k2 ?_; (case k1 => k_asm); (case k2 => k_asm); k_whole; intro kF kN; (try dsimp only)))

local macro_rules | `(tactic| walk_at "call builtin:list.append") => `(tactic| (k_here; (dsimp only [List.cons_append, List.nil_append]); (with_reducible show wpAny _ _ (call (Value.builtin _) [Value.ref _, _]) _ _ _); k_dflt (refine' append_K ?k1 ?k2 ?k3 ?_ ?z; (case k1 => k_asm); (case k2 => k_asm); (case k3 => k_upd); (case z => size_fits); k_whole); intro h' F' N'; (try k_sweep)))

theorem most_c (w : World) (x y : Str) (t1 t2 : Tok) (hx : x.length ≤ 100) (hy : 0 < y.length) (hy2 : y.length ≤ 100) :
    Cl w 56 1 [.str x t1, .str y t2] (fun v ex => ex = [] ∧ IsI v (mostOf x y)) := by
  unfold Cl
  intro mean mg mb dp un gd cn cs a ccd cl outer A₀ base h₀ L m news s Q E B F X N T hcs hroom hunits hret
  w_on
  have hfill : Fill PySem.Challenge.rw_pe0077_01 hd.heap_39 := by k_fill; exact trivial
  refine wpAny_call ?_
  k_dflt (refine' enterD (binds := [(Str.ofString "text", .str x t1), (Str.ofString "word", .str y t2)]) B F X N T ?kA ?kF ?kK ?k6 ?k7 ?k8 ?k9 ?kB ?_ ?c2 ?c3 ?c4 ?c5; (case kA => exact rfl); (case kF => exact rfl); (case kK => assumption); (case k6 => k_is); (case k7 => k_is); (case k8 => ktr_room); (case k9 => exact BindsTo.of_eq rfl); (case c5 => decide); (case kB => exact locs rfl); (case c2 => exact rfl); (case c3 => exact rfl); (case c4 => exact rfl); k_whole)
  clear B F X N T hfill
  intro L' h' tk0 F' N' B' X' T'
  simp only [List.reverse_cons, List.reverse_nil, List.nil_append, List.cons_append] at F'
  (try dsimp only)
  (try k_fold)
  (k_with "state" => (refine most_step (by assumption) ?_; first | exact most_v1 (by assumption) (by assumption) | exact most_v2 (by assumption) hkLt (by assumption) (by assumption) | exact most_v3 (by assumption) hkLt (by assumption) (by assumption)))
  iterate 28 (first | (k_unfold; (try dsimp only)) | (k_end; wrow_close) | walk1 | (dsimp only; walk1) | (leave1; walk_say "STEP leave1"; try dsimp only))
  dsimp only at *
  rename Fr _ _ _ _ => lF'
  rename News _ _ _ _ => lN'
  rename IsRange _ _ _ _ _ _ _ _ => rgX
  obtain ⟨l', hl'⟩ := News.nm lN'
  subst hl'
  refine kst_range (σ := List Value × List Int × Nat) (m₀ := fun y_1 => if y_1 = Str.ofString "best" then some (Value.ref l') else List.lookup y_1 [(Str.ofString "word", Value.str y t2), (Str.ofString "text", Value.str x t1)]) (fun c => [(l', W.listOf c.1.toArray c.2.2)]) (fun _ => []) (fun c => IntsAre c.1 c.2.1) [Str.ofString "most"] (fun pre c => c.2.1.length = pre.length + 1 ∧ MostInv x y pre.length c.2.1) ([.int 0 tk0], [0], 0) rfl rgX (small_one (by omega) (by omega) (by omega) (by omega)) (rangeSize_nat _ _) lF' lN' ?kf ?kk ?kp ?turn ?done
  case kf => exact .cons _ _ .nil
  case kk => intro p hp; cases hp
  case kp => exact most_start x y
  case turn =>
    clear lF' lN' rgX
    intro c pre kN kT kU kH kTk kOwn kEq kLt kOff kFacts kInv kFr kNews
    obtain ⟨vs, ns, sn⟩ := c
    dsimp only [kstB, envOf] at kFr
    dsimp only [envOf] at kNews
    dsimp only at kFacts kInv kOff
    simp only [List.nil_append, List.cons_append, List.append_nil] at kNews
    simp only [List.map_cons, List.map_nil] at kOff
    have kMark := kstMark
    have hkLt : pre.length < x.length := by omega
    obtain ⟨kI1, kI2⟩ := kInv
    have kLen : vs.length = ns.length := kFacts.length
    (try k_fold)
    k_steps
  case done =>
    clear lF' lN' rgX
    intro c kU kH kTk kFacts kInv kFr kNews
    obtain ⟨vs, ns, sn⟩ := c
    dsimp only [kstB, envOf] at kFr
    dsimp only [envOf] at kNews
    dsimp only at kFacts kInv
    have kMark := kstMark
    obtain ⟨kI1, kI2⟩ := kInv
    have kRl : (rangeKs 1 ((x.length : Int) + 1 - 1).toNat).length = x.length := by rw [rangeKs_length]; omega
    rw [kRl] at kI1
    have kLen : vs.length = ns.length := kFacts.length
    (try k_fold)
    k_steps
    refine hret _ [] _ _ ⟨rfl, isI_of ?_⟩ (by assumption) (dropN (by assumption))
    rw [← most_end kRl kI2]
    congr 1
    omega
end Mine

namespace Mine
open PySem.StrLaws PySem.Builtin PySem.Builtin.Str
theorem at_of {x y : Str} {k : Nat} (h : ((sg x).drop k).take (sg y).length = sg y) (hk : k < x.length ∨ 0 < y.length) (hn : k ≤ x.length) : At x y x.length k := by
  have hl := congrArg List.length h
  rw [List.length_take, List.length_drop, sg_len, sg_len] at hl
  refine ⟨by omega, ?_⟩
  rw [subAt_eq]
  have : ((sg x).drop k).take y.length = sg y := by rw [← sg_len y]; exact h
  simp [this]
theorem of_at {x y : Str} {k : Nat} (h : At x y x.length k) : ((sg x).drop k).take (sg y).length = sg y := by
  have := h.2
  rw [subAt_eq] at this
  rw [sg_len]
  exact eq_of_beq this
theorem laid_skip {x y z : Str} (hy : 0 < y.length) : ∀ (d a : Nat), (∀ k, a ≤ k → k < a + d → ¬ At x y x.length k) → a + d ≤ x.length →
    laidK (sg y) (sg z) ((sg x).drop a) 0 = ((sg x).drop a).take d ++ laidK (sg y) (sg z) ((sg x).drop (a + d)) 0
  | 0, a, _, _ => by simp
  | d + 1, a, h, hd => by
    have hlt : a < (sg x).length := by rw [sg_len]; omega
    have hm : ((sg x).getD a 0 :: (sg x).drop (a + 1)).take (sg y).length ≠ sg y := by
      rw [← drop_at hlt]
      exact fun q => h a (Nat.le_refl a) (by omega) (at_of q (.inr hy) (by omega))
    have ih := laid_skip (x := x) (y := y) (z := z) hy d (a + 1) (fun k h1 h2 => h k (by omega) (by omega)) (by omega)
    rw [drop_at hlt, laidK_miss hm, ih, List.take_succ_cons, List.cons_append, show a + 1 + d = a + (d + 1) by omega]
theorem laid_free {x y z : Str} (hy : 0 < y.length) {a : Nat} (ha : a ≤ x.length) (h : ∀ k, a ≤ k → ¬ At x y x.length k) : laidK (sg y) (sg z) ((sg x).drop a) 0 = (sg x).drop a := by
  have e := laid_skip (x := x) (y := y) (z := z) hy (x.length - a) a (fun k h1 _ => h k h1) (by omega)
  rw [e, show a + (x.length - a) = x.length by omega, List.drop_of_length_le (i := x.length) (by rw [sg_len]; exact Nat.le_refl _), List.take_of_length_le (by rw [List.length_drop, sg_len]; exact Nat.le_refl _)]
  simp [laidK]
theorem join_two (z : Str) (p : Str) {q : List Str} (h : ∃ a r, q = a :: r) : Str.join z (p :: q) = p ++ z ++ Str.join z q := by
  obtain ⟨a, r, rfl⟩ := h
  rfl
theorem strSub_sg (x : Str) (i j : Nat) : sg (strSub x i j) = ((sg x).drop i).take (j - i) := strSub_toList x i j
theorem laid_run {x y z : Str} (hy : 0 < y.length) : ∀ (cuts : List Nat) (a f : Nat), ChainG x y x.length a cuts f → (∀ k, f ≤ k → ¬ At x y x.length k) → a ≤ x.length →
    sg (Str.join z (partsFrom x y.length a cuts)) = laidK (sg y) (sg z) ((sg x).drop a) 0
  | [], a, f, h, hn, ha => by
    have e : f = a := h
    subst e
    show sg (strSub x f x.length) = _
    rw [laid_free hy ha hn, strSub_sg, List.take_of_length_le (by rw [List.length_drop, sg_len]; exact Nat.le_refl _)]
  | c :: r, a, f, h, hn, ha => by
    obtain ⟨h1, h2, h3, h4⟩ := h
    have hc : c + y.length ≤ x.length := h2.1
    show sg (Str.join z (strSub x a c :: partsFrom x y.length (c + y.length) r)) = _
    rw [join_two z _ (partsFrom_ne x y.length (c + y.length) r), sg_append, sg_append, laid_run hy r (c + y.length) f h4 hn hc, strSub_sg]
    have e := laid_skip (x := x) (y := y) (z := z) hy (c - a) a (fun k g1 g2 => h3 k g1 (by omega)) (by omega)
    rw [e, show a + (c - a) = c by omega, laidK_hit (by rw [sg_len]; exact hy) (of_at h2), sg_len, List.drop_drop, List.append_assoc]
theorem split_join {x y z : Str} (hy : 0 < y.length) (hk : Builtin.Str.strKind y = 1) : Txt.join z (Txt.split x y) = laidS x y z := by
  refine sg_ext ?_
  show _ = laidK (sg y) (sg z) (sg x) 0
  have e0 : (sg x).drop 0 = sg x := rfl
  have hone : sg (Txt.join z [x]) = sg x := by
    show sg (glued z [x]) = _
    rw [glued_eq_join]
    rfl
  have hnk : ¬ Builtin.Str.strKind x < Builtin.Str.strKind y := by
    rw [hk]
    unfold Builtin.Str.strKind
    split
    · omega
    · split <;> omega
  obtain ⟨f, hc, hn⟩ := occ_tight x y hy
  unfold Txt.split
  by_cases h1 : x.length < y.length
  · rw [if_pos (by simp [h1]), hone, ← e0]
    exact (laid_free hy (Nat.zero_le _) (fun k _ hA => by have := hA.1; omega)).symm
  · rw [if_neg (by simp [h1, hnk])]
    by_cases h2 : (occurrences x y 0 x.length (x.length + 1)).isEmpty = true
    · rw [if_pos h2, hone, ← e0]
      have e : occurrences x y 0 x.length (x.length + 1) = [] := by simpa using h2
      rw [e] at hc
      have ef : f = 0 := hc
      subst ef
      exact (laid_free hy (Nat.zero_le _) hn).symm
    · rw [if_neg h2, partsBetween_eq]
      show sg (glued z _) = _
      rw [glued_eq_join, laid_run hy _ 0 f hc hn (Nat.zero_le _), e0]
theorem join_len (y : Str) : ∀ (p : Str) (r : List Str), (Str.join y (p :: r)).length = ((p :: r).map (·.length)).sum + r.length * y.length
  | p, [] => by show p.length = _; simp
  | p, q :: r => by
    show (p ++ y ++ Str.join y (q :: r)).length = _
    rw [Str.length_append, Str.length_append, join_len y q r]
    simp only [List.map_cons, List.sum_cons, List.length_cons, Nat.succ_mul]
    omega
theorem split_fits {x y z : Str} (hx : x.length ≤ 100) (hy : 0 < y.length) (hz : z.length ≤ 100) : ((Txt.split x y).map (·.length)).sum + (Txt.split x y).length * z.length ≤ 16777216 := by
  have e := congrArg Str.length (join_split x y)
  cases h : Txt.split x y with
  | nil => simp
  | cons p r =>
    rw [h, join_len] at e
    have h1 : r.length ≤ r.length * y.length := Nat.le_mul_of_pos_right _ hy
    have h2 : (p :: r).length * z.length ≤ 101 * 100 := Nat.mul_le_mul (by rw [List.length_cons]; omega) hz
    omega
end Mine

namespace Mine
theorem newsSub {h₀ h : Heap} {L : Addr} {a b : List (Addr × Obj)} (N : News h₀ L h a) (hs : ∀ p ∈ b, p ∈ a) : News h₀ L h ([] ++ b) := fun p hp => N p (hs p hp)
theorem split_r {prog : Program} {w : World} {A : Around} {E : Value → Shared → Prop} {s : Shared} {h₀ : Heap} {L : Addr} {m : Str → Option Value} {news : List (Addr × Obj)} {x y : Str} {t u : Tok} {Q : Value → Shared → Prop} (hF : Fr h₀ L s.heap m) (hN : News h₀ L s.heap news) (hy : 0 < y.length) (hx : x.length ≤ 100)
    (h : ∀ D l h' k, l.map (·.1) = Txt.split x y → Fr h₀ L h' m → News h₀ L h' ((D, W.listOf (strValues l).toArray 0) :: news) → (∀ p ∈ news, p.1 < D) → Q (.ref D) { s with heap := h', toks := k }) :
    wpAny (model prog w) A (call (.builtin "str.split") [.str x t, .str y u]) Q E s :=
  KSpl.split1 hF hN (by simp; omega) (fun D l h' k e _ F N lt => h D l h' k e F N lt) (by rw [sizeLine_eq]; omega)
theorem join_r {prog : Program} {w : World} {A : Around} {E : Value → Shared → Prop} {s : Shared} {h₀ : Heap} {L D : Addr} {news : List (Addr × Obj)} {x y z : Str} {t : Tok} {l : List (Str × Tok)} {Q : Value → Shared → Prop} (hN : News h₀ L s.heap ((D, W.listOf (strValues l).toArray 0) :: news)) (e : l.map (·.1) = Txt.split x y)
    (hx : x.length ≤ 100) (hy : 0 < y.length) (hz : z.length ≤ 100) (hk : Builtin.Str.strKind y = 1) (h : ∀ t' k, Q (.str (laidS x y z) t') { s with toks := k }) :
    wpAny (model prog w) A (call (.builtin "str.join") [.str z t, .ref D]) Q E s := by
  refine join_list (News.isList hN (List.Mem.head _)) (ys := Txt.split x y) ?_ (split_fits hx hy hz) fun t' k => ?_
  · rw [← e]; exact strsAre_of_values l
  · rw [split_join hy hk]; exact h t' k
theorem tup_two {prog : Program} {w : World} {A : Around} {E : Value → Shared → Prop} {s : Shared} {h₀ : Heap} {L : Addr} {m : Str → Option Value} {news : List (Addr × Obj)} {value slice : Expr} {t : Addr} {n : Nat} {v1 v2 : Value} {rest : List Value} {u : Tok} {Q : Value → Shared → Prop}
    (F : Fr h₀ L s.heap m) (N : News h₀ L s.heap news) (ht : (t, ({ cls := .type "tuple", data := .seq (v1 :: v2 :: rest).toArray n } : Obj)) ∈ news) (hr : rest.length ≤ 8)
    (h : ∀ D h', Fr h₀ L h' m → News h₀ L h' ((D, { cls := .type "tuple", data := .seq rest.toArray }) :: news) → (∀ p ∈ news, p.1 < D) → Q (.ref D) { s with heap := h' })
    (hs : subscripted slice false (.ref t) (.ref s.heap.objs.size) = operate [.ref s.heap.objs.size, .ref t] (getItem (.ref t) (.ref s.heap.objs.size)))
    (hg : ∀ r, letTemporaryGo value (.ref t) r = pure ()) :
    wpAny (model prog w) A (subscriptTail value slice (.ref t) (.ref s.heap.objs.size)) Q E { s with heap := s.heap.push { cls := .type "slice", data := .fields #[.int 2 u, .none, .none] } } :=
  slice_tuple_from (a := 2) F N ⟨_, (N _ ht).1, rfl, n, rfl⟩ (by omega) (by simp) (fun h' F' N' => h _ h' F' N' fun p hp => Nat.lt_succ_of_lt (Heap.lt_size (N p hp).1)) hs hg (by rw [sizeLine_eq]; simp; omega)
local macro_rules | `(tactic| walk_at "subscriptTail Name Slice ref ref") => `(tactic| (k_here; (with_reducible show wpAny _ _ (subscriptTail _ (Expr.Slice (some _) none none _) (Value.ref _) (Value.ref _)) _ _ _); (with_reducible rename Fr _ _ _ _ => F'); (with_reducible rename News _ _ _ _ => N'); k_dflt (refine tup_two (s := ⟨_, _, _, _, _⟩) F' N' (by k_mem) (Nat.le_of_ble_eq_true rfl) ?_ (by with_unfolding_all rfl) (by intro _; with_unfolding_all rfl)); intro D' h' F' N' l1; (try k_sweep)))
local macro_rules | `(tactic| walk_at "LeaveK") => `(tactic| (refine' leaveK_ ?k1 ?k2 ?_; (case k1 => k_asm); (case k2 => k_asm); k_whole; intro kF kN; (try dsimp only); k_extra "leaveD"))
local macro_rules | `(tactic| walk_at "call builtin:str.split") => `(tactic| (k_here; (dsimp only [List.cons_append, List.nil_append]); (with_reducible show wpAny _ _ (call (Value.builtin "str.split") [Value.str _ _, Value.str _ _]) _ _ _); (refine split_r (by k_asm) (by k_asm) (by omega) (by omega) ?_); intro D' l' h' k' e' F' N' l1; (try k_sweep)))
local macro_rules | `(tactic| walk_at "call builtin:str.join") => `(tactic| (k_here; (dsimp only [List.cons_append, List.nil_append]); (with_reducible show wpAny _ _ (call (Value.builtin "str.join") [Value.str _ _, Value.ref _]) _ _ _); (refine join_r (by k_asm) (by assumption) (by omega) (by omega) (by omega) (by assumption) ?_); intro _ _))

theorem repl_c3 (w : World) (x y z : Str) (t1 t2 t3 : Tok) (hx : x.length ≤ 100) (hy : 0 < y.length) (hz : z.length ≤ 100) (hk : Builtin.Str.strKind y = 1) :
    Cl w 21 1 [.str x t1, .str y t2, .str z t3] (fun v ex => ex = [] ∧ IsS v (laidS x y z)) := by
  unfold Cl
  intro mean mg mb dp un gd cn cs a ccd cl outer A₀ base h₀ L m news s Q E B F X N T hcs hroom hunits hret
  w_on
  have hfill : Fill PySem.Challenge.rw_pe0077_01 hd.heap_39 := by k_fill; exact trivial
  refine wpAny_call ?_
  k_dflt (refine' kp_rest ?k1 ?k2 ?k3 ?k4 ?k5 ?kA ?kF ?kK ?k6 ?k7 ?k8 ?kV ?kP ?kG ?kB ?_ ?c2 ?c3 ?c4 ?c5; (case kA => exact rfl); (case kF => exact rfl); (case kK => assumption); (case k1 => k_asm); (case k2 => k_asm); (case k3 => k_asm); (case k4 => k_asm); (case k5 => k_asm); (case k6 => k_is); (case k7 => k_is); (case k8 => ktr_room); (case kV => kl_lit); (case kP => exact rfl); (case kG => exact fun _ => rfl); (case kB => exact fun _ => locs rfl); (case c5 => decide); (case c2 => exact rfl); (case c3 => exact rfl); (case c4 => exact rfl); k_whole)
  clear B F X N T hfill
  intro D' g' L' h' l1 FG' F' N' B' X' T'
  replace F' : Fr g' L' h' (fun q => List.lookup q [(Str.ofString "pairs", Value.ref D'), (Str.ofString "text", Value.str x t1)]) := F'
  generalize hZ : s.toks + _ = tk0
  clear hZ
  (try dsimp only)
  (try k_fold)
  (k_with "exec While Name cons nil" => k_dflt (refine whl_start 5 ?_))
  (k_with "leaveD" => (refine hret _ [] _ _ ⟨rfl, isS_of rfl⟩ (by assumption) (newsSub (by assumption) (by intro p hp; simp [hp]))))
  k_steps

theorem repl_c5 (w : World) (x y z y2 z2 : Str) (t1 t2 t3 t4 t5 : Tok) (hx : x.length ≤ 100) (hy : 0 < y.length) (hz : z.length ≤ 100) (hk : Builtin.Str.strKind y = 1) (hx2 : (laidS x y z).length ≤ 100) (hy2 : 0 < y2.length) (hz2 : z2.length ≤ 100) (hk2 : Builtin.Str.strKind y2 = 1) :
    Cl w 21 1 [.str x t1, .str y t2, .str z t3, .str y2 t4, .str z2 t5] (fun v ex => ex = [] ∧ IsS v (laidS (laidS x y z) y2 z2)) := by
  unfold Cl
  intro mean mg mb dp un gd cn cs a ccd cl outer A₀ base h₀ L m news s Q E B F X N T hcs hroom hunits hret
  w_on
  have hfill : Fill PySem.Challenge.rw_pe0077_01 hd.heap_39 := by k_fill; exact trivial
  refine wpAny_call ?_
  k_dflt (refine' kp_rest ?k1 ?k2 ?k3 ?k4 ?k5 ?kA ?kF ?kK ?k6 ?k7 ?k8 ?kV ?kP ?kG ?kB ?_ ?c2 ?c3 ?c4 ?c5; (case kA => exact rfl); (case kF => exact rfl); (case kK => assumption); (case k1 => k_asm); (case k2 => k_asm); (case k3 => k_asm); (case k4 => k_asm); (case k5 => k_asm); (case k6 => k_is); (case k7 => k_is); (case k8 => ktr_room); (case kV => kl_lit); (case kP => exact rfl); (case kG => exact fun _ => rfl); (case kB => exact fun _ => locs rfl); (case c5 => decide); (case c2 => exact rfl); (case c3 => exact rfl); (case c4 => exact rfl); k_whole)
  clear B F X N T hfill
  intro D' g' L' h' l1 FG' F' N' B' X' T'
  replace F' : Fr g' L' h' (fun q => List.lookup q [(Str.ofString "pairs", Value.ref D'), (Str.ofString "text", Value.str x t1)]) := F'
  generalize hZ : s.toks + _ = tk0
  clear hZ
  (try dsimp only)
  (try k_fold)
  (k_with "exec While Name cons nil" => k_dflt (refine whl_start 5 ?_))
  (k_with "leaveD" => (refine hret _ [] _ _ ⟨rfl, isS_of rfl⟩ (by assumption) (newsSub (by assumption) (by intro p hp; simp [hp]))))
  k_steps
end Mine

namespace Mine
local macro_rules | `(tactic| walk_at "LeaveD") => `(tactic| (refine' leaveD_ ?k1 ?k2 ?_; (case k1 => k_asm); (case k2 => k_asm); k_whole; intro kF kN; (try dsimp only); k_extra "leaveD"))

def wordsL : List (List Nat) := [[97], [98], [97, 98], [98, 97], [97, 97], [97, 98, 97]]
def WordOk (W : Str) : Prop := sg W ∈ wordsL
theorem WordOk.len {W : Str} (h : WordOk W) : 1 ≤ W.length ∧ W.length ≤ 3 := by
  unfold WordOk wordsL at h
  rw [← sg_len]
  simp only [List.mem_cons, List.not_mem_nil, or_false] at h
  rcases h with h | h | h | h | h | h <;> rw [h] <;> decide
theorem item_six {prog : Program} {w : World} {A : Around} {E : Value → Shared → Prop} {s : Shared} {h₀ : Heap} {L : Addr} {news : List (Addr × Obj)} {value slice : Expr} {t : Addr} {n : Nat} {k : Int} {u : Tok} {a1 a2 a3 a4 a5 a6 : Tok} {Q : Value → Shared → Prop} (N : News h₀ L s.heap news)
    (hm : (t, ({ cls := .type "tuple", data := .seq [.str (Str.ofString "a") a1, .str (Str.ofString "b") a2, .str (Str.ofString "ab") a3, .str (Str.ofString "ba") a4, .str (Str.ofString "aa") a5, .str (Str.ofString "aba") a6].toArray n } : Obj)) ∈ news)
    (h0 : 0 ≤ k) (h1 : k < 6) (h : ∀ (W : Str) tk, WordOk W → 1 ≤ W.length → W.length ≤ 3 → Q (.str W tk) s)
    (hs : subscripted slice false (.ref t) (.int k u) = operate [.ref t, .int k u] (getItem (.ref t) (.int k u))) :
    wpAny (model prog w) A (subscriptTail value slice (.ref t) (.int k u)) Q E s := by
  have hT : IsTup s.heap t [Value.str (Str.ofString "a") a1, .str (Str.ofString "b") a2, .str (Str.ofString "ab") a3, .str (Str.ofString "ba") a4, .str (Str.ofString "aa") a5, .str (Str.ofString "aba") a6].toArray := ⟨_, (N _ hm).1, rfl, n, rfl⟩
  have go : ∀ (W : Str) tk (j : Nat), k = (j : Int) → j < 6 → [Value.str (Str.ofString "a") a1, .str (Str.ofString "b") a2, .str (Str.ofString "ab") a3, .str (Str.ofString "ba") a4, .str (Str.ofString "aa") a5, .str (Str.ofString "aba") a6][j]? = some (.str W tk) → WordOk W → wpAny (model prog w) A (subscriptTail value slice (.ref t) (.int k u)) Q E s := by
    intro W tk j hj hj6 hx hW
    refine item_tupleT hT (by omega) (by omega) (j := j) ?_ hx (h W tk hW hW.len.1 hW.len.2) hs
    rw [StrLaws.seqIndex_nonneg (by omega) (by show k < 6; omega)]
    congr 1
    omega
  have hk : k = 0 ∨ k = 1 ∨ k = 2 ∨ k = 3 ∨ k = 4 ∨ k = 5 := by omega
  rcases hk with e | e | e | e | e | e
  · exact go _ _ 0 e (by omega) rfl (by unfold WordOk; decide +kernel)
  · exact go _ _ 1 e (by omega) rfl (by unfold WordOk; decide +kernel)
  · exact go _ _ 2 e (by omega) rfl (by unfold WordOk; decide +kernel)
  · exact go _ _ 3 e (by omega) rfl (by unfold WordOk; decide +kernel)
  · exact go _ _ 4 e (by omega) rfl (by unfold WordOk; decide +kernel)
  · exact go _ _ 5 e (by omega) rfl (by unfold WordOk; decide +kernel)
theorem six_bounds (a : Int) : 0 ≤ a.fmod 6 ∧ a.fmod 6 < 6 := ⟨Int.fmod_nonneg_of_pos a (by omega), Int.fmod_lt_of_pos a (by omega)⟩
local macro_rules | `(tactic| walk_at "subscriptTail Tuple cons BinOp ref int") => `(tactic| (k_here; (with_reducible show wpAny _ _ (subscriptTail _ _ (Value.ref _) (Value.int (Int.fmod _ 6) _)) _ _ _); (dsimp only at *); (with_reducible rename News _ _ _ _ => N'); k_dflt (refine item_six N' (List.Mem.head _) (six_bounds _).1 (six_bounds _).2 ?_ (by with_unfolding_all rfl)); intro W' tW' hW' hW1' hW2'))

def DashOk (D : Str) (n : Int) : Prop := sg D = List.replicate n.toNat 45
theorem dash_mul {prog : Program} {w : World} {A : Around} {E : Value → Shared → Prop} {s : Shared} {t u : Tok} {n : Int} {Q : Value → Shared → Prop} (hn : 0 ≤ n ∧ n ≤ 4)
    (h : ∀ (D : Str) t' k, DashOk D n → (D.length : Int) = n → Q (.str D t') { s with toks := k }) : wpAny (model prog w) A (binaryOp .Mult (.str (Str.ofString "-") t) (.int n u)) Q E s := by
  have hk : n = 0 ∨ n = 1 ∨ n = 2 ∨ n = 3 ∨ n = 4 := by omega
  rcases hk with rfl | rfl | rfl | rfl | rfl
  · exact SB.mul (by unfold MulOk; decide +kernel) fun t' k => h _ t' k (by unfold DashOk; decide +kernel) (by decide +kernel)
  · exact SB.mul (by unfold MulOk; decide +kernel) fun t' k => h _ t' k (by unfold DashOk; decide +kernel) (by decide +kernel)
  · exact SB.mul (by unfold MulOk; decide +kernel) fun t' k => h _ t' k (by unfold DashOk; decide +kernel) (by decide +kernel)
  · exact SB.mul (by unfold MulOk; decide +kernel) fun t' k => h _ t' k (by unfold DashOk; decide +kernel) (by decide +kernel)
  · exact SB.mul (by unfold MulOk; decide +kernel) fun t' k => h _ t' k (by unfold DashOk; decide +kernel) (by decide +kernel)
theorem marks0 (a : Int) {l : Nat} : 0 ≤ a.fmod ((l : Int) + 1) ∧ a.fmod ((l : Int) + 1) ≤ (l : Int) := by
  have h1 := Int.fmod_nonneg_of_pos a (b := (l : Int) + 1) (by omega)
  have h2 := Int.fmod_lt_of_pos a (b := (l : Int) + 1) (by omega)
  omega
theorem marks1 (a : Int) {l : Nat} : (l : Int) ≤ (l : Int) + a.fmod 2 ∧ (l : Int) + a.fmod 2 ≤ (l : Int) + 1 := by
  have h1 := Int.fmod_nonneg_of_pos a (b := 2) (by omega)
  have h2 := Int.fmod_lt_of_pos a (b := 2) (by omega)
  omega
theorem marks0' (a : Int) {l : Nat} (h : l ≤ 3) : 0 ≤ a.fmod ((l : Int) + 1) ∧ a.fmod ((l : Int) + 1) ≤ 4 := by have := marks0 a (l := l); omega
theorem marks1' (a : Int) {l : Nat} (h : l ≤ 3) : 0 ≤ (l : Int) + a.fmod 2 ∧ (l : Int) + a.fmod 2 ≤ 4 := by have := marks1 a (l := l); omega
local macro_rules | `(tactic| walk_at "binaryOp Mult str int") => `(tactic| (k_here; (with_reducible show wpAny _ _ (binaryOp Operator.Mult (Value.str _ _) (Value.int _ _)) _ _ _); (refine dash_mul (by first | exact marks0' _ (by assumption) | exact marks1' _ (by assumption)) ?_); intro D9' t9' k9' hD9' hL9'))

def PairOk (mode : Int) (W S : Str) (p : Int) : Prop :=
  (mode = 0 ∧ ∃ k : Nat, k ≤ W.length ∧ sg S = List.replicate k 45 ∧ p = 2 * (W.length : Int)) ∨
  (mode = 1 ∧ ∃ k : Nat, (k = W.length ∨ k = W.length + 1) ∧ sg S = List.replicate k 45 ∧ p = 2 * (k : Int)) ∨
  (mode ≠ 0 ∧ mode ≠ 1 ∧ S = Txt.upper W ∧ p = (W.length : Int))
theorem pair_m0 {mode a : Int} {W S : Str} (h : mode = 0) (hd : DashOk S (a.fmod ((W.length : Int) + 1))) : PairOk mode W S (2 * (W.length : Int)) :=
  .inl ⟨h, _, by have := marks0 a (l := W.length); omega, hd, rfl⟩
theorem pair_m1 {mode a : Int} {W S : Str} (h : mode = 1) (hd : DashOk S ((W.length : Int) + a.fmod 2)) : PairOk mode W S (2 * ((W.length : Int) + a.fmod 2)) :=
  .inr (.inl ⟨h, _, by have := marks1 a (l := W.length); omega, hd, by have := marks1 a (l := W.length); omega⟩)
theorem pair_m2 {mode : Int} {W : Str} (h0 : mode ≠ 0) (h1 : mode ≠ 1) : PairOk mode W (Txt.upper W) (W.length : Int) := .inr (.inr ⟨h0, h1, rfl, rfl⟩)
theorem newsSub1 {h₀ h : Heap} {L : Addr} {a b : List (Addr × Obj)} (N : News h₀ L h a) (hs : ∀ p ∈ b, p ∈ a) : News h₀ L h b := fun p hp => N p (hs p hp)

def PairPost (mode : Int) (v : Value) (ex : List (Addr × Obj)) : Prop :=
  ∃ D W S p ta tb tc n, v = .ref D ∧ ex = [(D, ({ cls := .type "tuple", data := .seq #[.str W ta, .str S tb, .int p tc] n } : Obj))] ∧ WordOk W ∧ PairOk mode W S p

theorem pair_ret {mode : Int} {h₀ h' : Heap} {L D : Addr} {m : Str → Option Value} {news rest : List (Addr × Obj)} {s : Shared} {Q : Value → Shared → Prop} {W S : Str} {p : Int} {ta tb tc n tk : Nat}
    (hret : ∀ (v : Value) (ex : List (Addr × Obj)) (h' : Heap) (tk' : Nat), PairPost mode v ex → Fr h₀ L h' m → News h₀ L h' (ex ++ news) → Q v { s with heap := h', toks := tk' })
    (N : News h₀ L h' (((D, ({ cls := .type "tuple", data := .seq #[.str W ta, .str S tb, .int p tc] n } : Obj)) :: rest) ++ news)) (F : Fr h₀ L h' m) (hW : WordOk W) (hP : PairOk mode W S p) : Q (.ref D) { s with heap := h', toks := tk } :=
  hret _ [(D, ({ cls := .type "tuple", data := .seq #[.str W ta, .str S tb, .int p tc] n } : Obj))] h' tk ⟨D, W, S, p, ta, tb, tc, n, rfl, rfl, hW, hP⟩ F fun q hq => N q (by
    simp only [List.cons_append, List.nil_append, List.mem_cons, List.mem_append] at hq ⊢
    rcases hq with hq | hq
    · exact .inl hq
    · exact .inr (.inr hq))

theorem pair_c (w : World) (x mode : Int) (t1 t2 : Tok) :
    Cl w 42 1 [.int x t1, .int mode t2] (PairPost mode) := by
  unfold Cl
  intro mean mg mb dp un gd cn cs a ccd cl outer A₀ base h₀ L m news s Q E B F X N T hcs hroom hunits hret
  w_on
  have hfill : Fill PySem.Challenge.rw_pe0077_01 hd.heap_39 := by k_fill; exact trivial
  refine wpAny_call ?_
  k_dflt (refine' enterD (binds := [(Str.ofString "x", .int x t1), (Str.ofString "mode", .int mode t2)]) B F X N T ?kA ?kF ?kK ?k6 ?k7 ?k8 ?k9 ?kB ?_ ?c2 ?c3 ?c4 ?c5; (case kA => exact rfl); (case kF => exact rfl); (case kK => assumption); (case k6 => k_is); (case k7 => k_is); (case k8 => ktr_room); (case k9 => exact BindsTo.of_eq rfl); (case c5 => decide); (case kB => exact locs rfl); (case c2 => exact rfl); (case c3 => exact rfl); (case c4 => exact rfl); k_whole)
  clear B F X N T hfill
  intro L' h' tk0 F' N' B' X' T'
  simp only [List.reverse_cons, List.reverse_nil, List.nil_append, List.cons_append] at F'
  (try dsimp only)
  (try k_fold)
  (k_with "leaveD" => (refine pair_ret hret (by assumption) (by assumption) (by assumption) ?_; first | exact pair_m0 (by assumption) (by assumption) | exact pair_m1 (by assumption) (by assumption) | exact pair_m2 (by assumption) (by assumption)))
  k_steps

end Mine

namespace Mine
local macro_rules | `(tactic| walk_at "LeaveD") => `(tactic| (refine' leaveD_ ?k1 ?k2 ?_; (case k1 => k_asm); (case k2 => k_asm); k_whole; intro kF kN; (try dsimp only); k_extra "leaveD"))
local macro_rules | `(tactic| walk_at "KcEnd") => `(tactic| (unfold KcEnd; dsimp only [kstB]; refine ⟨_, _, rfl, by with_reducible assumption, _, by with_reducible assumption, by kst_in⟩))
local macro_rules | `(tactic| walk_at "subscriptTail Name Slice str ref") => `(tactic| ((with_reducible show wpAny _ _ (subscriptTail _ (Expr.Slice none (some (Expr.BoolOp _ _ _)) none _) _ _) _ _ _); (with_reducible rename Fr _ _ _ _ => F'); (with_reducible rename News _ _ _ _ => N'); (first | ((refine or_nn (s := ⟨_, _, _, _, _⟩) F' N' ?_ (by with_unfolding_all rfl) (by intro _; with_unfolding_all rfl) ?hsz); (case hsz => size_fits); intro _ _ _ _ _) | ((refine or_ns (s := ⟨_, _, _, _, _⟩) (by omega) (by omega) F' N' ?_ (by with_unfolding_all rfl) (by intro _; with_unfolding_all rfl) ?hsz); (case hsz => size_fits); intro _ _ _ _ _ _ _ _))))

local macro_rules | `(tactic| walk_at "ite") => `(tactic| (k_here; with_reducible refine ite_two ?_ ?_ <;> intro _))

local macro_rules | `(tactic| walk_at "ScEnd") => `(tactic| (unfold ScEnd; (first | (refine ⟨rfl, ⟨_, _, _, _⟩, _, _, _, _, rfl, by assumption, by assumption, by kst_in, by kst_all, (by intro z h2; (simp only [List.forall_mem_cons, List.not_mem_nil, false_implies, implies_true, and_true, ne_eq] at h2); (simp [h2]; done)), ?cP⟩) | (refine ⟨rfl, ⟨_, _⟩, _, _, _, _, rfl, by assumption, by assumption, by kst_in, by kst_all, (by intro z h2; (simp only [List.forall_mem_cons, List.not_mem_nil, false_implies, implies_true, and_true, ne_eq] at h2); (simp [h2]; done)), ?cP⟩)); (case cP => ((try dsimp only); k_extra "cutP"))))

local macro_rules | `(tactic| walk_at "exec If") => `(tactic| ((with_reducible show wpAny _ _ (exec (Stmt.If _ [Stmt.Assign [Expr.Tuple _ _ _] _ _] _ _) _) _ _ _); refine stop_here ?_))

local macro_rules | `(tactic| walk_at "call type:list") => `(tactic| (k_here; (with_reducible show wpAny _ _ (call (Value.type "list") [Value.ref _]) _ _ _); (dsimp only at *); (rename IsRange _ _ _ _ _ _ _ _ => R'); (rename Fr _ _ _ _ => F'); (rename News _ _ _ _ => N'); (refine list_two (by exact rfl) F' N' R' (by omega) (by omega) ?_); (clear R' F' N'); intro D' us' c' h' tk' F' N' l1' hI'))

local macro_rules | `(tactic| walk_at "call ref") => `(tactic| (k_here; (with_reducible show wpAny _ _ (call (Value.ref 28) [Value.str _ _, Value.str _ _]) _ _ _); k_dflt (refine' (sub_c _ _ _ _ _ ?q1 ?q2).use ?k1 ?k2 ?k3 ?k4 ?k5 ?k6 ?k7 ?k8 ?_; (case q1 => omega); (case q2 => omega); (case k1 => k_asm); (case k2 => k_asm); (case k3 => k_asm); (case k4 => k_asm); (case k5 => k_asm); (case k6 => exact rfl); (case k7 => ktr_room); (case k8 => ktr_units)); (intro v9 ex9 h9 tk9 hP9 F9 N9); (obtain ⟨hex9, tk8, hv9⟩ := hP9); (subst hex9 hv9); (simp only [List.nil_append] at N9); (try dsimp only); (try k_sweep)))

theorem lev_c (w : World) (x y : Str) (mc : Int) (t1 t2 t3 : Tok) (hx : x.length ≤ 40) (hy : y.length ≤ 40) :
    Cl w 35 2 [.str x t1, .str y t2, .int mc t3] (fun v ex => ex = [] ∧ ∃ r t, v = .int r t ∧ LevOk x y mc r) := by
  unfold Cl
  intro mean mg mb dp un gd cn cs a ccd cl outer A₀ base h₀ L m news s Q E B F X N T hcs hroom hunits hret
  w_on
  have hfill : Fill PySem.Challenge.rw_pe0077_01 hd.heap_39 := by k_fill; exact trivial
  refine wpAny_call ?_
  k_dflt (refine' enterD (binds := [(Str.ofString "a", .str x t1), (Str.ofString "b", .str y t2), (Str.ofString "max_cost", .int mc t3)]) B F X N T ?kA ?kF ?kK ?k6 ?k7 ?k8 ?k9 ?kB ?_ ?c2 ?c3 ?c4 ?c5; (case kA => exact rfl); (case kF => exact rfl); (case kK => assumption); (case k6 => k_is); (case k7 => k_is); (case k8 => ktr_room); (case k9 => exact BindsTo.of_eq rfl); (case c5 => decide); (case kB => exact locs rfl); (case c2 => exact rfl); (case c3 => exact rfl); (case c4 => exact rfl); k_whole)
  clear B F X N T hfill
  intro L' h' tk0 F' N' B' X' T'
  simp only [List.reverse_cons, List.reverse_nil, List.nil_append, List.cons_append] at F'
  (try dsimp only)
  (try k_fold)
  (k_with "leaveD" => ((refine hret _ [] _ _ ⟨rfl, ⟨_, _, rfl, ?_⟩⟩ (by assumption) (dropN (by assumption))); exact lev_same (by assumption)))
  (k_with "exec While BoolOp cons nil" => refine stop_here ?_)
  k_steps
  show wpAny _ _ _ _ _ _
  dsimp only at *
  rename Fr _ _ _ _ => lF'
  rename News _ _ _ _ => lN'
  refine ksw_cut (σ := Int × Nat) (fun _ => []) (fun c => [(Str.ofString "pre", .int c.1 c.2)]) (fun _ => True) [] (fun c => 0 ≤ c.1 ∧ c.1 ≤ (x.length : Int) ∧ c.1 ≤ (y.length : Int) ∧ PreInv x y c.1) (fun c => x.length - c.1.toNat) (0, tk0) lF' lN' trivial ?kk ?kp ?turn ?rest
  case kk => kst_all
  case kp => exact pre_start x y
  case turn =>
    clear lF' lN'
    intro c kU kH kTk kFacts kInv kFr kNews
    obtain ⟨i, ti⟩ := c
    dsimp only [kstB] at kFr
    dsimp only at kNews kInv
    have kMark := kstMark
    obtain ⟨kI1, kI2, kI3, kI4⟩ := kInv
    (try k_fold)
    (k_with "state" => exact pre_step (by assumption) (by omega) (by omega) (by omega) (by assumption))
    k_steps
  case rest =>
    clear lF' lN'
    intro c kU kH kTk kFacts kInv kFr kNews
    obtain ⟨i, ti⟩ := c
    dsimp only [kstB] at kFr
    dsimp only at kNews kInv
    have kMark := kstMark
    obtain ⟨kI1, kI2, kI3, kI4⟩ := kInv
    (try k_fold)
    k_steps
    show wpAny _ _ _ _ _ _
    have hx1 : DropOf (Txt.slice x (some i) none) x i := dropOf_slice kI1 kI2
    have hy1 : DropOf (Txt.slice y (some i) none) y i := dropOf_slice kI1 kI3
    dsimp only at *
    rename Fr _ _ _ _ => lF'
    rename News _ _ _ _ => lN'
    generalize Txt.slice x (some i) none = x1 at *
    generalize Txt.slice y (some i) none = y1 at *
    refine' ksw_cut (σ := Int × Nat) (fun _ => []) (fun c => [(Str.ofString "post", .int c.1 c.2)]) (fun _ => True) [] (fun c => c.1 ≤ 0 ∧ -(x1.length : Int) ≤ c.1 ∧ -(y1.length : Int) ≤ c.1 ∧ PostInv x1 y1 c.1) (fun c => x1.length - (- c.1).toNat) (0, _) lF' lN' trivial ?kk ?kp ?turn ?rest
    case kk => kst_all
    case kp => exact post_start x1 y1
    case turn =>
      clear lF' lN'
      intro c kU2 kH2 kTk2 kFacts2 kInv2 kFr2 kNews2
      obtain ⟨j, tj⟩ := c
      dsimp only [kstB] at kFr2
      dsimp only at kNews2 kInv2
      obtain ⟨kJ1, kJ2, kJ3, kJ4⟩ := kInv2
      (try k_fold)
      (k_with "state" => exact post_step (by assumption) (by omega) (by omega) (by omega) (by assumption))
      k_steps
    case rest =>
      clear lF' lN'
      intro c kU2 kH2 kTk2 kFacts2 kInv2 kFr2 kNews2
      obtain ⟨j, tj⟩ := c
      dsimp only [kstB] at kFr2
      dsimp only at kNews2 kInv2
      obtain ⟨kJ1, kJ2, kJ3, kJ4⟩ := kInv2
      (try k_fold)
      (first | (k_unfold; (try dsimp only)) | (k_end; wrow_close) | walk1 | (dsimp only; walk1) | (leave1; walk_say "STEP leave1"; try dsimp only))
      rename Fr _ _ _ _ => lF'
      rename News _ _ _ _ => lN'
      (k_with "cutP" => first | exact ⟨by assumption, by omega⟩ | exact ⟨takeOf_self _ (by omega), by omega⟩)
      refine st_cut (σ := Str × Nat) lF' (fun _ => []) (fun c => [(Str.ofString "a", .str c.1 c.2)]) (fun c => TakeOf c.1 x1 j ∧ (c.1.length : Int) = (x1.length : Int) + j) ?first ?rest
      case first =>
        k_steps
      case rest =>
        clear lF' lN'
        intro c kH3 kTk3 kP3 kFr3 kNews3
        obtain ⟨x2, tx2⟩ := c
        dsimp only [kstB] at kFr3
        dsimp only at kNews3 kP3
        obtain ⟨hx2, hx2l⟩ := kP3
        (try k_fold)
        (first | (k_unfold; (try dsimp only)) | (k_end; wrow_close) | walk1 | (dsimp only; walk1) | (leave1; walk_say "STEP leave1"; try dsimp only))
        rename Fr _ _ _ _ => lF'
        rename News _ _ _ _ => lN'
        refine st_cut (σ := Str × Nat) lF' (fun _ => []) (fun c => [(Str.ofString "b", .str c.1 c.2)]) (fun c => TakeOf c.1 y1 j ∧ (c.1.length : Int) = (y1.length : Int) + j) ?first ?rest
        case first =>
          k_steps
        case rest =>
          clear lF' lN'
          intro c kH4 kTk4 kP4 kFr4 kNews4
          obtain ⟨y2, ty2⟩ := c
          dsimp only [kstB] at kFr4
          dsimp only at kNews4 kP4
          obtain ⟨hy2, hy2l⟩ := kP4
          obtain ⟨u4, kFr5⟩ := fr_front [(Str.ofString "a", .str x2 tx2), (Str.ofString "b", .str y2 ty2), (Str.ofString "max_cost", .int mc t3)] kFr4 (by kst_all)
          dsimp only [kstB] at kFr5
          clear kFr4
          have hLift : Lifts x y x2 y2 mc := lifts_of kI4 hx1 hy1 kJ4 hx2 hy2
          have hx2b : x2.length ≤ 40 := by omega
          have hy2b : y2.length ≤ 40 := by omega
          (k_with "leaveD" => ((refine hret _ [] _ _ ⟨rfl, ⟨_, _, rfl, ?_⟩⟩ (by assumption) (dropN (by assumption))); first | exact hLift _ (lev_nil1 (by assumption)) | exact hLift _ (lev_nil2 (by assumption))))
          (try k_fold)
          k_steps
          show wpAny _ _ _ _ _ _
          have hx20 : 0 < x2.length := by omega
          have hy20 : 0 < y2.length := by omega
          rename Fr _ _ _ _ => lF'
          rename News _ _ _ _ => lN'
          (k_with "cutP" => first | exact swap_no (by omega) | exact swap_yes (by omega))
          refine st_cut (σ := Str × Nat × Str × Nat) lF' (fun _ => []) (fun c => [(Str.ofString "a", .str c.1 c.2.1), (Str.ofString "b", .str c.2.2.1 c.2.2.2)]) (fun c => (c.1.length : Int) ≤ (c.2.2.1.length : Int) ∧ SwapOf c.1 c.2.2.1 x2 y2) ?first ?rest
          case first =>
            refine wpAny_If ?_
            k_steps
          case rest =>
            clear lF' lN'
            intro c kH6 kTk6 kP6 kFr6 kNews6
            obtain ⟨X, tX, Y, tY⟩ := c
            dsimp only [kstB] at kFr6
            dsimp only at kNews6 kP6
            obtain ⟨hXY, hSw⟩ := kP6
            obtain ⟨u6, kFr7⟩ := fr_front [(Str.ofString "a", .str X tX), (Str.ofString "b", .str Y tY), (Str.ofString "max_cost", .int mc t3)] kFr6 (by kst_all)
            dsimp only [kstB] at kFr7
            clear kFr6 u4
            have hLift2 : Lifts x y X Y mc := lifts_swap hLift hSw
            (k_with "leaveD" => ((refine hret _ [] _ _ ⟨rfl, ⟨_, _, rfl, ?_⟩⟩ (by assumption) (dropN (by assumption))); exact hLift2 _ (lev_far (by assumption))))
            have hX0 : 0 < X.length := by rcases hSw with ⟨rfl, rfl⟩ | ⟨rfl, rfl⟩ <;> assumption
            have hY40 : Y.length ≤ 40 := by rcases hSw with ⟨rfl, rfl⟩ | ⟨rfl, rfl⟩ <;> assumption
            (try k_fold)
            (k_with "pyIter ref" => refine stop_here ?_)
            k_steps
            show wpAny _ _ _ _ _ _
            dsimp only at *
            rename Fr _ _ _ _ => lF'
            rename News _ _ _ _ => lN'
            rename IsRange _ _ _ _ _ _ _ _ => rgX
            rename IntsAre _ _ => lI'
            obtain ⟨l', ws, kk, hl', hws, hkk⟩ := News.nm3 lN'
            subst hl' hws hkk
            refine' kst_range (σ := List Value × List Int × Nat × Int × Nat) (fun c => [(l', W.listOf c.1.toArray c.2.2.1)]) (fun c => [(Str.ofString "result", .int c.2.2.2.1 c.2.2.2.2)]) (fun c => IntsAre c.1 c.2.1) [Str.ofString "bchar", Str.ofString "distance", Str.ofString "minimum", Str.ofString "index", Str.ofString "substitute", Str.ofString "insert_delete"] (fun pre c => c.2.1.length = X.length ∧ OutInv X Y pre.length c.2.1 c.2.2.2.1) (ws, evens 2 X.length, kk, 0, _) rfl rgX (small_one (by omega) (by omega) (by omega) (by omega)) (rangeSize_nat _ _) lF' lN' lI' ?kk ?kp ?turn ?done
            case kk => kst_all
            case kp => exact out_start X Y
            case turn =>
              clear lF' lN' rgX lI'
              intro c pre kN kT kU kH kTk kOwn kEq kLt kOff kFacts kInv kFr kNews
              obtain ⟨vs, ns, sn, r, tr⟩ := c
              dsimp only [kstB, envOf] at kFr
              dsimp only [envOf] at kNews
              dsimp only at kFacts kInv kOff
              simp only [List.nil_append, List.cons_append] at kNews
              simp only [List.map_cons, List.map_nil] at kOff
              obtain ⟨kO1, kO2⟩ := kInv
              have kLen : vs.length = ns.length := kFacts.length
              have hkLt : pre.length < Y.length := by omega
              (try k_fold)
              k_steps
              show wpAny _ _ _ _ _ _
              dsimp only at *
              rename Fr _ _ _ _ => lF'
              rename News _ _ _ _ => lN'
              rename IsRange _ _ _ _ _ _ _ _ => rgX
              have kY : ((sg Y).getD pre.length 0) = ((sg Y).getD kN.toNat 0) := by congr 1; omega
              have kIn : InnInv X Y pre.length ([] : List Int).length ns (kN * 2) (kN * 2) 9223372036854775807 := inn_start kO2 (by omega) (by omega) _
              refine' kst_range (σ := List Value × List Int × Nat × Int × Nat × Int × Nat × Int × Nat) (fun c => (l', W.listOf c.1.toArray c.2.2.1) :: kOwn) (fun c => [(Str.ofString "distance", .int c.2.2.2.1 c.2.2.2.2.1), (Str.ofString "result", .int c.2.2.2.2.2.1 c.2.2.2.2.2.2.1), (Str.ofString "minimum", .int c.2.2.2.2.2.2.2.1 c.2.2.2.2.2.2.2.2)]) (fun c => IntsAre c.1 c.2.1) [Str.ofString "substitute", Str.ofString "insert_delete"] (fun pre2 c => c.2.1.length = X.length ∧ InnInv X Y pre.length pre2.length c.2.1 c.2.2.2.1 c.2.2.2.2.2.1 c.2.2.2.2.2.2.2.1) (vs, ns, sn, kN * 2, _, kN * 2, _, 9223372036854775807, _) rfl rgX (small_one (by omega) (by omega) (by omega) (by omega)) (rangeSize_nat _ _) lF' lN' (by assumption) ?kk2 ?kp2 ?turn2 ?done2
              case kk2 => kst_all
              case kp2 => exact ⟨kO1, kIn⟩
              case turn2 =>
                clear lF' lN' rgX
                intro c pre2 kN2 kT2 kU2 kH2 kTk2 kOwn2 kEq2 kLt2 kOff2 kFacts2 kInv2 kFr2 kNews2
                obtain ⟨vs2, ns2, sn2, d2, td2, r2, tr2, mn2, tm2⟩ := c
                dsimp only [kstB, envOf] at kFr2
                dsimp only [envOf] at kNews2
                dsimp only at kFacts2 kInv2 kOff2
                simp only [List.nil_append, List.cons_append] at kNews2
                simp only [List.map_cons, List.map_nil] at kOff2
                obtain ⟨kP1, kP2⟩ := kInv2
                have kLen2 : vs2.length = ns2.length := kFacts2.length
                have hkLt2 : pre2.length < X.length := by omega
                (try k_fold)
                (k_with "state" => first | exact inn_end1 kEq kEq2 hkLt hkLt2 kP1 kP2 (by assumption) | exact inn_end2 kEq kEq2 hkLt hkLt2 kP1 kP2 (by assumption))
                k_steps
              case done2 =>
                clear lF' lN' rgX
                intro c kU2 kH2 kTk2 kFacts2 kInv2 kFr2 kNews2
                obtain ⟨vs2, ns2, sn2, d2, td2, r2, tr2, mn2, tm2⟩ := c
                dsimp only [kstB, envOf] at kFr2
                dsimp only [envOf] at kNews2
                dsimp only at kFacts2 kInv2
                obtain ⟨kP1, kP2⟩ := kInv2
                have kRl : (rangeKs 0 ((X.length : Int) - 0).toNat).length = X.length := by rw [rangeKs_length]; omega
                have kLen2 : vs2.length = ns2.length := kFacts2.length
                (k_with "state" => exact out_end kRl hX0 kP1 kP2)
                (k_with "leaveD" => ((refine hret _ [] _ _ ⟨rfl, ⟨_, _, rfl, ?_⟩⟩ (by assumption) (dropN (by assumption))); exact hLift2 _ (lev_early kRl hX0 hkLt kP2 (by assumption))))
                (try k_fold)
                k_steps
            case done =>
              clear lF' lN' rgX lI'
              intro c kU kH kTk kFacts kInv kFr kNews
              obtain ⟨vs, ns, sn, r, tr⟩ := c
              dsimp only [kstB, envOf] at kFr
              dsimp only [envOf] at kNews
              dsimp only at kFacts kInv
              obtain ⟨kO1, kO2⟩ := kInv
              have kRl : (rangeKs 0 ((Y.length : Int) - 0).toNat).length = Y.length := by rw [rangeKs_length]; omega
              (k_with "leaveD" => ((refine hret _ [] _ _ ⟨rfl, ⟨_, _, rfl, ?_⟩⟩ (by assumption) (dropN (by assumption))); exact hLift2 _ (lev_done kRl (by omega) kO2)))
              (try k_fold)
              k_steps
end Mine

namespace Mine
/-- how often the walk sign by sign lays the other text -/
def cntK (w : List Nat) : List Nat → Nat → Nat
  | [], _ => 0
  | _ :: t, k + 1 => cntK w t k
  | c :: t, 0 => if (c :: t).take w.length = w then cntK w t (w.length - 1) + 1 else cntK w t 0
theorem cntK_drop (w : List Nat) : ∀ (t : List Nat) (k : Nat), cntK w t k = cntK w (t.drop k) 0
  | [], k => by simp [cntK]
  | _ :: _, 0 => rfl
  | _ :: t, k + 1 => by
    rw [List.drop_succ_cons, ← cntK_drop w t k]
    rfl
theorem cntK_hit {w t : List Nat} (hw : 0 < w.length) (h : t.take w.length = w) : cntK w t 0 = cntK w (t.drop w.length) 0 + 1 := by
  cases t with
  | nil => rw [List.take_nil] at h; rw [← h] at hw; exact absurd hw (by simp)
  | cons c t =>
    have e : cntK w (c :: t) 0 = cntK w t (w.length - 1) + 1 := by
      show (if _ then _ else _) = _
      rw [if_pos h]
    obtain ⟨k, hk⟩ : ∃ k, w.length = k + 1 := ⟨w.length - 1, by omega⟩
    rw [e, hk, List.drop_succ_cons, Nat.add_sub_cancel, cntK_drop]
theorem cntK_miss {w t : List Nat} {c : Nat} (h : (c :: t).take w.length ≠ w) : cntK w (c :: t) 0 = cntK w t 0 := by
  show (if _ then _ else _) = _
  rw [if_neg h]
/-- two facts by the length: a later start never counts more; passing over at most a word loses at most one -/
theorem cnt_two {w : List Nat} (hw : 0 < w.length) : ∀ (n : Nat) (t : List Nat), t.length ≤ n → (∀ j, cntK w (t.drop j) 0 ≤ cntK w t 0) ∧ (∀ k, k ≤ w.length → cntK w t 0 ≤ cntK w (t.drop k) 0 + 1)
  | 0, t, h => by
    have e : t = [] := List.eq_nil_of_length_eq_zero (by omega)
    subst e
    exact ⟨fun j => by simp [cntK], fun k _ => by simp [cntK]⟩
  | n + 1, [], _ => ⟨fun j => by simp [cntK], fun k _ => by simp [cntK]⟩
  | n + 1, c :: t, h => by
    obtain ⟨m, d⟩ := cnt_two hw n t (by simpa using h)
    have mono1 : cntK w t 0 ≤ cntK w (c :: t) 0 := by
      by_cases e : (c :: t).take w.length = w
      · rw [cntK_hit hw e]
        obtain ⟨k, hk⟩ : ∃ k, w.length = k + 1 := ⟨w.length - 1, by omega⟩
        rw [hk, List.drop_succ_cons]
        exact d k (by omega)
      · rw [cntK_miss e]; exact Nat.le_refl _
    refine ⟨fun j => ?_, fun k hk => ?_⟩
    · cases j with
      | zero => exact Nat.le_refl _
      | succ j => rw [List.drop_succ_cons]; exact Nat.le_trans (m j) mono1
    · cases k with
      | zero => exact Nat.le_succ _
      | succ k =>
        rw [List.drop_succ_cons]
        by_cases e : (c :: t).take w.length = w
        · rw [cntK_hit hw e]
          obtain ⟨q, hq⟩ : ∃ q, w.length = q + 1 := ⟨w.length - 1, by omega⟩
          rw [hq, List.drop_succ_cons]
          have := (cnt_two hw n (t.drop k) (by rw [List.length_drop]; simp at h; omega)).1 (q - k)
          rw [List.drop_drop, show k + (q - k) = q by omega] at this
          omega
        · rw [cntK_miss e]; exact d k (by omega)
/-- n places without a sign in common -/
inductive Pack (w : List Nat) : List Nat → Nat → Prop
  | nil : Pack w [] 0
  | skip (c : Nat) {t : List Nat} {n : Nat} : Pack w t n → Pack w (c :: t) n
  | hit {t : List Nat} {n : Nat} : Pack w t n → Pack w (w ++ t) (n + 1)
theorem pack_le {w : List Nat} (hw : 0 < w.length) {t : List Nat} {n : Nat} (h : Pack w t n) : n ≤ cntK w t 0 := by
  induction h with
  | nil => exact Nat.zero_le _
  | @skip c t n _ ih =>
    have := (cnt_two hw _ (c :: t) (Nat.le_refl _)).1 1
    rw [List.drop_succ_cons, List.drop_zero] at this
    omega
  | @hit t n _ ih =>
    rw [cntK_hit hw (by rw [List.take_left']; rfl), List.drop_left' rfl]
    omega
theorem pack_cnt {w : List Nat} (hw : 0 < w.length) : ∀ (n : Nat) (t : List Nat), t.length ≤ n → Pack w t (cntK w t 0)
  | 0, t, h => by
    have e : t = [] := List.eq_nil_of_length_eq_zero (by omega)
    subst e
    exact .nil
  | n + 1, [], _ => .nil
  | n + 1, c :: t, h => by
    by_cases e : (c :: t).take w.length = w
    · rw [cntK_hit hw e]
      have h1 := pack_cnt hw n ((c :: t).drop w.length) (by rw [List.length_drop]; simp at h ⊢; omega)
      have h2 := Pack.hit h1
      have e2 : w ++ (c :: t).drop w.length = c :: t := by
        conv => lhs; arg 1; rw [← e]
        exact List.take_append_drop _ _
      rw [e2] at h2
      exact h2
    · rw [cntK_miss e]; exact .skip c (pack_cnt hw n t (by simpa using h))
theorem Pack.snoc {w t : List Nat} {n : Nat} (c : Nat) (h : Pack w t n) : Pack w (t ++ [c]) n := by
  induction h with
  | nil => exact .skip c .nil
  | skip d _ ih => exact .skip d ih
  | hit _ ih => rw [List.append_assoc]; exact .hit ih
theorem Pack.word {w t : List Nat} {n : Nat} (h : Pack w t n) : Pack w (t ++ w) (n + 1) := by
  induction h with
  | nil => have := Pack.hit (w := w) .nil; rw [List.append_nil] at this; exact this
  | skip d _ ih => exact .skip d ih
  | hit _ ih => rw [List.append_assoc]; exact .hit ih
theorem Pack.last {w t' : List Nat} {n : Nat} (h : Pack w t' n) : ∀ {t : List Nat} {c : Nat}, t' = t ++ [c] → Pack w t n ∨ ∃ u k, t' = u ++ w ∧ n = k + 1 ∧ Pack w u k := by
  induction h with
  | nil => intro t c e; simp at e
  | @skip d t₀ n h ih =>
    intro t c e
    cases t with
    | nil =>
      obtain ⟨rfl, rfl⟩ := List.cons.inj e
      exact .inl h
    | cons x t =>
      rw [List.cons_append] at e
      obtain ⟨rfl, e2⟩ := List.cons.inj e
      rcases ih e2 with h1 | ⟨u, k, e1, e3, h1⟩
      · exact .inl (.skip d h1)
      · exact .inr ⟨d :: u, k, by rw [e1]; rfl, e3, .skip d h1⟩
  | @hit t₀ n h ih =>
    intro t c e
    rcases List.eq_nil_or_concat t₀ with e0 | ⟨t1, c1, e0⟩
    · subst e0
      exact .inr ⟨[], n, by simp, rfl, h⟩
    · rw [List.concat_eq_append] at e0
      rcases ih e0 with h1 | ⟨u, k, e1, e3, h1⟩
      · have e5 : t = w ++ t1 := by
          rw [e0, ← List.append_assoc] at e
          exact (List.append_inj' e rfl).1.symm
        rw [e5]
        exact .inl (.hit h1)
      · exact .inr ⟨w ++ u, k + 1, by rw [e1, List.append_assoc], by omega, .hit h1⟩

theorem cnt_step {T w : List Nat} (hw : 0 < w.length) {n : Nat} (hn : n < T.length) :
    cntK w (T.take (n + 1)) 0 = if w.length ≤ n + 1 ∧ (T.drop (n + 1 - w.length)).take w.length = w then max (cntK w (T.take n) 0) (cntK w (T.take (n + 1 - w.length)) 0 + 1) else cntK w (T.take n) 0 := by
  have e1 := take_getD hn
  have p1 := pack_cnt hw _ (T.take (n + 1)) (Nat.le_refl _)
  have p2 := (pack_cnt hw _ (T.take n) (Nat.le_refl _)).snoc (T.getD n 0)
  rw [← e1] at p2
  have l1 := pack_le hw p2
  have up := p1.last e1
  by_cases c : w.length ≤ n + 1 ∧ (T.drop (n + 1 - w.length)).take w.length = w
  · rw [if_pos c]
    obtain ⟨c1, c2⟩ := c
    have e2 : T.take (n + 1) = T.take (n + 1 - w.length) ++ w := by
      conv => rhs; arg 2; rw [← c2]
      rw [List.take_drop, show n + 1 - w.length + w.length = n + 1 by omega]
      conv => lhs; rw [← List.take_append_drop (n + 1 - w.length) (T.take (n + 1)), List.take_take, Nat.min_eq_left (by omega)]
    have p3 := (pack_cnt hw _ (T.take (n + 1 - w.length)) (Nat.le_refl _)).word
    rw [← e2] at p3
    have l2 := pack_le hw p3
    rcases up with q | ⟨u, k, eu, ek, q⟩
    · have := pack_le hw q; omega
    · have e3 : u = T.take (n + 1 - w.length) := (List.append_inj' (eu.symm.trans e2) rfl).1
      subst e3
      have := pack_le hw q; omega
  · rw [if_neg c]
    rcases up with q | ⟨u, k, eu, ek, q⟩
    · have := pack_le hw q; omega
    · refine absurd ⟨?_, ?_⟩ c
      · have := congrArg List.length eu
        rw [List.length_take, List.length_append] at this
        omega
      · have hl := congrArg List.length eu
        rw [List.length_take, List.length_append] at hl
        have hul : u.length = n + 1 - w.length := by omega
        have e4 := congrArg (List.drop (n + 1 - w.length)) eu
        rw [← hul, List.drop_left' rfl, hul, List.drop_take] at e4
        rw [show n + 1 - (n + 1 - w.length) = w.length by omega] at e4
        exact e4
theorem best_get {T w : List Nat} (hw : 0 < w.length) : ∀ (e : Nat), e ≤ T.length → ∀ i, i ≤ e → (bestL T w e).getD i 0 = (cntK w (T.take i) 0 : Int)
  | 0, _, i, hi => by
    have e : i = 0 := by omega
    subst e
    simp [bestL, cntK]
  | e + 1, he, i, hi => by
    have ih := best_get (T := T) (w := w) hw e (by omega)
    have hlen := bestL_len T w e
    by_cases h : i ≤ e
    · rw [← ih i h, bestL, List.getD_eq_getElem?_getD, List.getD_eq_getElem?_getD, List.getElem?_append_left (by omega)]
    · have ei : i = e + 1 := by omega
      subst ei
      have e1 : (bestL T w (e + 1)).getD (e + 1) 0 = bestStep T w e (bestL T w e) := by
        rw [bestL, List.getD_eq_getElem?_getD, List.getElem?_append_right (by omega), hlen, Nat.sub_self]
        rfl
      rw [e1, cnt_step hw (by omega)]
      unfold bestStep
      rw [ih e (Nat.le_refl _)]
      split
      · rename_i hc
        rw [ih (e + 1 - w.length) (by omega)]
        omega
      · rfl
theorem most_cnt {x y : Str} (hy : 0 < y.length) : mostOf x y = (cntK (sg y) (sg x) 0 : Int) := by
  unfold mostOf
  rw [best_get (by rw [sg_len]; exact hy) x.length (by rw [sg_len]; exact Nat.le_refl _) x.length (Nat.le_refl _), List.take_of_length_le (by rw [sg_len]; exact Nat.le_refl _)]
/-- the walk's own way, and its price -/
theorem laid_al {w st : List Nat} {p : Int} (hw : 0 < w.length) (h : Al w st p) : ∀ (n : Nat) (t : List Nat), t.length ≤ n → Al t (laidK w st t 0) (p * (cntK w t 0 : Int))
  | 0, t, hn => by
    have e : t = [] := List.eq_nil_of_length_eq_zero (by omega)
    subst e
    exact Al.nil.to (by simp [cntK])
  | n + 1, [], _ => Al.nil.to (by simp [cntK])
  | n + 1, c :: t, hn => by
    by_cases e : (c :: t).take w.length = w
    · rw [cntK_hit hw e, laidK_hit hw e]
      have ih := laid_al hw h n ((c :: t).drop w.length) (by rw [List.length_drop]; simp at hn ⊢; omega)
      have e2 : w ++ (c :: t).drop w.length = c :: t := by
        conv => lhs; arg 1; rw [← e]
        exact List.take_append_drop _ _
      have h2 := h.append ih
      rw [e2] at h2
      refine h2.to ?_
      rw [Int.natCast_add, Int.mul_add]
      omega
    · rw [cntK_miss e, laidK_miss e]
      exact (Al.sub c c (laid_al hw h n t (by simpa using hn))).to (by rw [subc_self]; omega)
theorem laid_weight {w st : List Nat} (f : Nat → Int) (hw : 0 < w.length) : ∀ (n : Nat) (t : List Nat), t.length ≤ n → ((laidK w st t 0).map f).sum = (t.map f).sum + ((st.map f).sum - (w.map f).sum) * (cntK w t 0 : Int)
  | 0, t, hn => by
    have e : t = [] := List.eq_nil_of_length_eq_zero (by omega)
    subst e
    simp [laidK, cntK]
  | n + 1, [], _ => by simp [laidK, cntK]
  | n + 1, c :: t, hn => by
    by_cases e : (c :: t).take w.length = w
    · rw [cntK_hit hw e, laidK_hit hw e]
      have ih := laid_weight (st := st) f hw n ((c :: t).drop w.length) (by rw [List.length_drop]; simp at hn ⊢; omega)
      have e2 : w ++ (c :: t).drop w.length = c :: t := by
        conv => lhs; arg 1; rw [← e]
        exact List.take_append_drop _ _
      have e3 : ((c :: t).map f).sum = (w.map f).sum + (((c :: t).drop w.length).map f).sum := by
        conv => lhs; rw [← e2]
        rw [List.map_append, List.sum_append]
      rw [List.map_append, List.sum_append, ih, e3, Int.natCast_add, Int.mul_add]
      omega
    · rw [cntK_miss e, laidK_miss e]
      have ih := laid_weight (st := st) f hw n t (by simpa using hn)
      rw [List.map_cons, List.map_cons, List.sum_cons, List.sum_cons, ih]
      omega
theorem laid_mem {w st : List Nat} : ∀ (t : List Nat) (k : Nat) (c : Nat), c ∈ laidK w st t k → c ∈ st ∨ c ∈ t
  | [], _, c, h => by simp [laidK] at h
  | d :: t, k + 1, c, h => by
    rcases laid_mem t k c h with h | h
    · exact .inl h
    · exact .inr (.tail _ h)
  | d :: t, 0, c, h => by
    by_cases e : (d :: t).take w.length = w
    · have e1 : laidK w st (d :: t) 0 = st ++ laidK w st t (w.length - 1) := by
        show (if _ then _ else _) = _
        rw [if_pos e]
      rw [e1] at h
      rcases List.mem_append.mp h with h | h
      · exact .inl h
      · rcases laid_mem t _ c h with h | h
        · exact .inl h
        · exact .inr (.tail _ h)
    · rw [laidK_miss e] at h
      rcases List.mem_cons.mp h with h | h
      · exact .inr (h ▸ .head _)
      · rcases laid_mem t _ c h with h | h
        · exact .inl h
        · exact .inr (.tail _ h)
theorem laid_len {w st : List Nat} (hw : 0 < w.length) (hs : st.length ≤ 2 * w.length) : ∀ (n : Nat) (t : List Nat), t.length ≤ n → (laidK w st t 0).length ≤ 2 * t.length
  | 0, t, hn => by
    have e : t = [] := List.eq_nil_of_length_eq_zero (by omega)
    subst e
    simp [laidK]
  | n + 1, [], _ => by simp [laidK]
  | n + 1, c :: t, hn => by
    by_cases e : (c :: t).take w.length = w
    · rw [laidK_hit hw e]
      have ih := laid_len hw hs n ((c :: t).drop w.length) (by rw [List.length_drop]; simp at hn ⊢; omega)
      have hl := congrArg List.length e
      rw [List.length_take] at hl
      rw [List.length_append]
      rw [List.length_drop] at ih
      omega
    · rw [laidK_miss e]
      have ih := laid_len hw hs n t (by simpa using hn)
      simp only [List.length_cons]
      omega
end Mine

namespace Mine
open PySem.StrLaws
abbrev signOf (k : Int) : Str := Txt.item (Str.ofString "abc") (k.fmod 3)
/-- a, b and c alone -/
def AbcIn (S : Str) : Prop := ∀ c ∈ sg S, c = 97 ∨ c = 98 ∨ c = 99
theorem sign_abc (k : Int) : sg (signOf k) = [97] ∨ sg (signOf k) = [98] ∨ sg (signOf k) = [99] := by
  have h1 := Int.fmod_nonneg_of_pos k (b := 3) (by omega)
  have h2 := Int.fmod_lt_of_pos k (b := 3) (by omega)
  have hk : k.fmod 3 = 0 ∨ k.fmod 3 = 1 ∨ k.fmod 3 = 2 := by omega
  unfold signOf
  rcases hk with e | e | e <;> rw [e]
  · exact .inl (by decide +kernel)
  · exact .inr (.inl (by decide +kernel))
  · exact .inr (.inr (by decide +kernel))
theorem sign_len (k : Int) : (signOf k).length = 1 := by
  rw [← sg_len]
  rcases sign_abc k with e | e | e <;> rw [e] <;> rfl
theorem join_mem (y : Str) : ∀ (xs : List Str) (c : Nat), c ∈ sg (Str.join y xs) → c ∈ sg y ∨ ∃ x ∈ xs, c ∈ sg x
  | [], c, h => by
    have e : sg (Str.join y []) = [] := rfl
    rw [e] at h
    cases h
  | [x], c, h => .inr ⟨x, List.Mem.head _, h⟩
  | x :: x2 :: r, c, h => by
    have e : Str.join y (x :: x2 :: r) = x ++ y ++ Str.join y (x2 :: r) := rfl
    rw [e, sg_append, sg_append] at h
    rcases List.mem_append.mp h with h | h
    · rcases List.mem_append.mp h with h | h
      · exact .inr ⟨x, List.Mem.head _, h⟩
      · exact .inl h
    · rcases join_mem y (x2 :: r) c h with h | ⟨q, hq, h⟩
      · exact .inl h
      · exact .inr ⟨q, List.Mem.tail _ hq, h⟩
theorem join_start {prog : Program} {w : World} {A : Around} {E : Value → Shared → Prop} {s : Shared} {t : Tok} {Q : Value → Shared → Prop} {D : Addr} {ys : List Value} {l : List Int} (hl : s.heap.IsList D ys.toArray) (hc : CarriedAll ys (l.map fun k => PyData.str (signOf k))) (hn : l.length ≤ 5)
    (h : ∀ (S : Str) t' k, AbcIn S → S.length ≤ 5 → Q (.str S t') { s with toks := k }) : wpAny (model prog w) A (call (.builtin "str.join") [.str (Str.ofString "") t, .ref D]) Q E s := by
  refine KT.join_1 hl hc (fun k _ => sign_len k) (by omega) fun t' k e => h _ t' k (fun c hc => ?_) (by omega)
  have e2 : Txt.join (Str.ofString "") (l.map signOf) = Str.join (Str.ofString "") (l.map signOf) := glued_eq_join _ _
  have hc' : c ∈ sg (Str.join (Str.ofString "") (l.map signOf)) := by rw [← e2]; exact hc
  rcases join_mem _ _ _ hc' with h1 | ⟨x, hx, h1⟩
  · have e3 : sg (Str.ofString "") = [] := by decide +kernel
    rw [e3] at h1
    cases h1
  · obtain ⟨q, _, rfl⟩ := List.mem_map.mp hx
    rcases sign_abc q with e4 | e4 | e4 <;> rw [e4] at h1
    · exact .inl (List.mem_singleton.mp h1)
    · exact .inr (.inl (List.mem_singleton.mp h1))
    · exact .inr (.inr (List.mem_singleton.mp h1))
theorem abc_aba {S : Str} (h : AbcIn S) : AbcIn (S ++ Str.ofString "aba") := by
  intro c hc
  rw [sg_append] at hc
  rcases List.mem_append.mp hc with hc | hc
  · exact h c hc
  · have e : sg (Str.ofString "aba") = [97, 98, 97] := by decide +kernel
    rw [e] at hc
    simp only [List.mem_cons, List.not_mem_nil, or_false] at hc
    omega

def LowOk (ns : List Int) : Prop := ns.length ≤ 5 ∧ ∀ x ∈ ns, 0 ≤ x ∧ x < 1728
theorem low_facts (script : List Int) : LowOk (List.map (fun k' => k'.fmod 1728) (List.take 5 script)) := by
  refine ⟨by rw [List.length_map, List.length_take]; omega, fun x hx => ?_⟩
  obtain ⟨y, _, rfl⟩ := List.mem_map.mp hx
  exact ⟨Int.fmod_nonneg_of_pos y (by omega), Int.fmod_lt_of_pos y (by omega)⟩
theorem law_frame {h₀ h : Heap} {L : Addr} {u : Str → Option Value} {a b c : Str} {va : Value} {M Sl : Int} {t1 t2 : Tok} (F : Fr h₀ L h (kstB u [(a, va), (b, .int (M.fmod 3) t1), (c, .int Sl t2)])) :
    ∃ (md sl : Int) (t1' t2' : Nat), 0 ≤ md ∧ md < 3 ∧ Fr h₀ L h (kstB u [(a, va), (b, .int md t1'), (c, .int sl t2')]) :=
  ⟨_, _, _, _, Int.fmod_nonneg_of_pos M (by omega), Int.fmod_lt_of_pos M (by omega), F⟩
theorem News.nm4 {h₀ h : Heap} {L a b c : Addr} {x y z : List Value} {r : List (Addr × Obj)} (_ : News h₀ L h ((a, LCg.lst x) :: (b, LCg.lst y) :: (c, LCg.lst z) :: r)) : ∃ c' z', c' = c ∧ z' = z := ⟨c, z, rfl, rfl⟩
end Mine

namespace Mine
def okC : List Nat := [97, 98, 99, 45, 65, 66]
def CharsIn (l : List Nat) : Prop := ∀ c ∈ l, c ∈ okC
theorem Al.weightM {f : Nat → Int} (h2 : ∀ x, 0 ≤ f x ∧ f x ≤ 2) (hs : ∀ x ∈ okC, ∀ y ∈ okC, f x - f y ≤ subc x y) {A B : List Nat} {c : Int} (h : Al A B c) : CharsIn A → CharsIn B → (A.map f).sum - (B.map f).sum ≤ c := by
  induction h with
  | nil => intro _ _; simp
  | del x _ ih =>
    intro ha hb
    have := h2 x
    have := ih (fun c hc => ha c (.tail _ hc)) hb
    simp only [List.map_cons, List.sum_cons]; omega
  | ins y _ ih =>
    intro ha hb
    have := h2 y
    have := ih ha (fun c hc => hb c (.tail _ hc))
    simp only [List.map_cons, List.sum_cons]; omega
  | sub x y _ ih =>
    intro ha hb
    have := hs x (ha x (.head _)) y (hb y (.head _))
    have := ih (fun c hc => ha c (.tail _ hc)) (fun c hc => hb c (.tail _ hc))
    simp only [List.map_cons, List.sum_cons]; omega
def f0 (c : Nat) : Int := if c = 45 then 0 else 2
def f1 (c : Nat) : Int := if c = 45 then 2 else 0
def f2 (c : Nat) : Int := if c = 65 ∨ c = 66 then 1 else 0
theorem f0_b (x : Nat) : 0 ≤ f0 x ∧ f0 x ≤ 2 := by unfold f0; split <;> omega
theorem f1_b (x : Nat) : 0 ≤ f1 x ∧ f1 x ≤ 2 := by unfold f1; split <;> omega
theorem f2_b (x : Nat) : 0 ≤ f2 x ∧ f2 x ≤ 2 := by unfold f2; split <;> omega
theorem f0_s : ∀ x ∈ okC, ∀ y ∈ okC, f0 x - f0 y ≤ subc x y := by decide +kernel
theorem f1_s : ∀ x ∈ okC, ∀ y ∈ okC, f1 x - f1 y ≤ subc x y := by decide +kernel
theorem f2_s : ∀ x ∈ okC, ∀ y ∈ okC, f2 x - f2 y ≤ subc x y := by decide +kernel
theorem chk_dash : ∀ w ∈ wordsL, ∀ k : Fin 5, (k.val ≤ w.length → dist w (List.replicate k.val 45) = 2 * (w.length : Int)) ∧ (k.val = w.length ∨ k.val = w.length + 1 → dist w (List.replicate k.val 45) = 2 * (k.val : Int)) ∧
    ((List.replicate k.val 45).map f0).sum - (w.map f0).sum = - (2 * (w.length : Int)) ∧ ((List.replicate k.val 45).map f1).sum - (w.map f1).sum = 2 * (k.val : Int) := by decide +kernel
theorem chk_up : ∀ w ∈ wordsL, dist w (sg (Txt.upper ⟨w.toArray⟩)) = (w.length : Int) ∧ ((sg (Txt.upper ⟨w.toArray⟩)).map f2).sum - (w.map f2).sum = (w.length : Int) ∧ (∀ c ∈ sg (Txt.upper ⟨w.toArray⟩), c ∈ okC) ∧ (sg (Txt.upper ⟨w.toArray⟩)).length = w.length := by decide +kernel
theorem chk_word : ∀ w ∈ wordsL, (∀ c ∈ w, c ∈ okC) ∧ Builtin.Str.strKind ⟨w.toArray⟩ = 1 := by decide +kernel
theorem str_eta (W : Str) : (⟨(sg W).toArray⟩ : Str) = W := sg_ext rfl
theorem word_kind {W : Str} (h : WordOk W) : Builtin.Str.strKind W = 1 := by
  have := (chk_word _ h).2
  rw [str_eta] at this
  exact this
theorem pair_al {md : Int} {W S : Str} {p : Int} (hW : WordOk W) (h : PairOk md W S p) : Al (sg W) (sg S) p := by
  have hl := hW.len
  rcases h with ⟨_, k, hk, hS, hp⟩ | ⟨_, k, hk, hS, hp⟩ | ⟨_, _, hS, hp⟩
  · have := (chk_dash _ hW ⟨k, by omega⟩).1 (by rw [sg_len]; exact hk)
    rw [hS, hp]
    exact (dist_al _ _).to (by rw [this, sg_len])
  · have := (chk_dash _ hW ⟨k, by omega⟩).2.1 (by rw [sg_len]; exact hk)
    rw [hS, hp]
    exact (dist_al _ _).to this
  · have := (chk_up _ hW).1
    rw [str_eta] at this
    rw [hS, hp]
    exact (dist_al _ _).to (by rw [this, sg_len])
theorem pair_chars {md : Int} {W S : Str} {p : Int} (hW : WordOk W) (h : PairOk md W S p) : CharsIn (sg S) ∧ S.length ≤ 2 * W.length ∧ S.length ≤ 4 := by
  have hl := hW.len
  rcases h with ⟨_, k, hk, hS, hp⟩ | ⟨_, k, hk, hS, hp⟩ | ⟨_, _, hS, hp⟩
  · refine ⟨fun c hc => ?_, ?_⟩
    · rw [hS] at hc; rw [(List.mem_replicate.mp hc).2]; decide
    · rw [← sg_len S, hS, List.length_replicate]; omega
  · refine ⟨fun c hc => ?_, ?_⟩
    · rw [hS] at hc; rw [(List.mem_replicate.mp hc).2]; decide
    · rw [← sg_len S, hS, List.length_replicate]; omega
  · have h3 := (chk_up _ hW).2.2
    rw [str_eta] at h3
    refine ⟨fun c hc => ?_, ?_⟩
    · rw [hS] at hc; exact h3.1 c hc
    · rw [← sg_len S, hS, h3.2, sg_len]; omega
theorem mode_wt (md : Int) : ∃ (f : Nat → Int) (s : Int), (s = 1 ∨ s = -1) ∧ (∀ x, 0 ≤ f x ∧ f x ≤ 2) ∧ (∀ x ∈ okC, ∀ y ∈ okC, f x - f y ≤ subc x y) ∧
    ∀ (W S : Str) (p : Int), WordOk W → PairOk md W S p → ((sg S).map f).sum - ((sg W).map f).sum = s * p := by
  by_cases h0 : md = 0
  · refine ⟨f0, -1, .inr rfl, f0_b, f0_s, fun W S p hW h => ?_⟩
    have hl := hW.len
    rcases h with ⟨_, k, hk, hS, hp⟩ | ⟨h1, _⟩ | ⟨h1, _⟩
    · have := (chk_dash _ hW ⟨k, by omega⟩).2.2.1
      rw [hS, this, hp, sg_len]; omega
    · omega
    · exact absurd h0 h1
  by_cases h1 : md = 1
  · refine ⟨f1, 1, .inl rfl, f1_b, f1_s, fun W S p hW h => ?_⟩
    have hl := hW.len
    rcases h with ⟨h2, _⟩ | ⟨_, k, hk, hS, hp⟩ | ⟨_, h2, _⟩
    · omega
    · have := (chk_dash _ hW ⟨k, by omega⟩).2.2.2
      rw [hS, this, hp]
      show 2 * (k : Int) = 1 * (2 * (k : Int))
      omega
    · exact absurd h1 h2
  · refine ⟨f2, 1, .inl rfl, f2_b, f2_s, fun W S p hW h => ?_⟩
    rcases h with ⟨h2, _⟩ | ⟨h2, _⟩ | ⟨_, _, hS, hp⟩
    · exact absurd h2 h0
    · exact absurd h2 h1
    · have := (chk_up _ hW).2.1
      rw [str_eta] at this
      rw [hS, this, hp, sg_len]; omega
theorem lev_close {x y : Str} {due e sl r : Int} (h : LevOk x y (due + sl) r) (ha : Al (sg x) (sg y) e) (he : e ≤ due) (hl : ∀ c, Al (sg x) (sg y) c → due ≤ c) : r = due ∨ (sl < 0 ∧ r = due + sl + 1) := by
  rcases h with ⟨h1, h2⟩ | ⟨h1, h2⟩
  · have := h2 e ha
    have := hl r h1
    exact .inl (by omega)
  · have := h2 e ha
    exact .inr ⟨by omega, h1⟩

def LaidOf (M x y z : Str) : Prop := M = laidS x y z
def MostIs (n : Int) (x y : Str) : Prop := n = (cntK (sg y) (sg x) 0 : Int)
theorem abc_chars {T : Str} (h : AbcIn T) : CharsIn (sg T) := fun c hc => by
  rcases h c hc with e | e | e <;> rw [e] <;> decide
theorem laid_chars {M x y z : Str} (h : LaidOf M x y z) (hx : CharsIn (sg x)) (hz : CharsIn (sg z)) : CharsIn (sg M) := fun c hc => by
  rw [h] at hc
  rcases laid_mem _ _ _ hc with q | q
  · exact hz c q
  · exact hx c q
theorem laid_step {md : Int} {T M W S : Str} {p n : Int} (hW : WordOk W) (hP : PairOk md W S p) (hM : LaidOf M T W S) (hn : MostIs n T W) : Al (sg T) (sg M) (p * n) := by
  rw [hM, hn]
  exact laid_al (by rw [sg_len]; exact hW.len.1) (pair_al hW hP) _ _ (Nat.le_refl _)
theorem laid_sum {f : Nat → Int} {s md : Int} {T M W S : Str} {p n : Int} (hf : ∀ (W S : Str) (p : Int), WordOk W → PairOk md W S p → ((sg S).map f).sum - ((sg W).map f).sum = s * p) (hW : WordOk W) (hP : PairOk md W S p) (hM : LaidOf M T W S) (hn : MostIs n T W) :
    ((sg M).map f).sum = ((sg T).map f).sum + s * (p * n) := by
  have h := laid_weight (w := sg W) (st := sg S) f (by rw [sg_len]; exact hW.len.1) _ (sg T) (Nat.le_refl _)
  rw [hf W S p hW hP, ← hn, Int.mul_assoc] at h
  rw [hM]
  exact h
theorem sum_low {f : Nat → Int} {s : Int} (hs1 : s = 1 ∨ s = -1) (h2 : ∀ x, 0 ≤ f x ∧ f x ≤ 2) (hs : ∀ x ∈ okC, ∀ y ∈ okC, f x - f y ≤ subc x y) {A B : List Nat} {d : Int} (e : (B.map f).sum = (A.map f).sum + s * d) (ha : CharsIn A) (hb : CharsIn B) (c : Int) (h : Al A B c) : d ≤ c := by
  have h1 := h.weightM h2 hs ha hb
  have h3 := h.symm.weightM h2 hs hb ha
  rcases hs1 with rfl | rfl <;> omega
theorem fact1 {md sl r : Int} {T M W S : Str} {p n : Int} (hT : CharsIn (sg T)) (hW : WordOk W) (hP : PairOk md W S p) (hM : LaidOf M T W S) (hn : MostIs n T W) (h : LevOk T M (p * n + sl) r) : r = p * n ∨ (sl < 0 ∧ r = p * n + sl + 1) := by
  obtain ⟨f, s, hs1, h2, hs, hf⟩ := mode_wt md
  exact lev_close h (laid_step hW hP hM hn) (Int.le_refl _) (sum_low hs1 h2 hs (laid_sum hf hW hP hM hn) hT (laid_chars hM hT (pair_chars hW hP).1))
theorem fact3 {md sl r : Int} {T M K W S W2 S2 : Str} {p n p2 n2 : Int} (hT : CharsIn (sg T)) (hW : WordOk W) (hP : PairOk md W S p) (hM : LaidOf M T W S) (hn : MostIs n T W)
    (hW2 : WordOk W2) (hP2 : PairOk md W2 S2 p2) (hK : LaidOf K M W2 S2) (hn2 : MostIs n2 M W2) (h : LevOk K T (p * n + p2 * n2 + sl) r) : r = p * n + p2 * n2 ∨ (sl < 0 ∧ r = p * n + p2 * n2 + sl + 1) := by
  obtain ⟨f, s, hs1, h2, hs, hf⟩ := mode_wt md
  obtain ⟨e, he, h3⟩ := (laid_step hW hP hM hn).trans (laid_step hW2 hP2 hK hn2)
  have cM := laid_chars hM hT (pair_chars hW hP).1
  have cK := laid_chars hK cM (pair_chars hW2 hP2).1
  have e1 := laid_sum hf hW hP hM hn
  have e2 := laid_sum hf hW2 hP2 hK hn2
  refine lev_close h h3.symm he fun c hc => sum_low hs1 h2 hs (A := sg T) (B := sg K) ?_ hT cK c hc.symm
  rw [e2, e1, Int.mul_add]
  omega
theorem laidS_len {x y z : Str} (hy : 0 < y.length) (hz : z.length ≤ 2 * y.length) : (laidS x y z).length ≤ 2 * x.length := by
  rw [← sg_len, ← sg_len x]
  exact laid_len (by rw [sg_len]; exact hy) (by rw [sg_len, sg_len]; exact hz) _ _ (Nat.le_refl _)
end Mine

namespace Mine
theorem Cl.mono {w : World} {f : Addr} {room : Nat} {vs : List Value} {Post Post' : Value → List (Addr × Obj) → Prop} (C : Cl w f room vs Post) (h : ∀ v ex, Post v ex → Post' v ex) : Cl w f room vs Post' :=
  fun mean mg mb dp un gd cn cs a ccd cl outer A₀ base h₀ L m news s Q E B F X N T hk hd hu hr => C mean mg mb dp un gd cn cs a ccd cl outer A₀ base h₀ L m news s Q E B F X N T hk hd hu fun v ex h' tk' hp => hr v ex h' tk' (h v ex hp)
theorem pair_k (w : World) (x md : Int) (t1 t2 : Tok) : Cl w 42 1 [.int x t1, .int md t2] (fun v ex => ∃ D W S p ta tb tc n, v = .ref D ∧ ex = [(D, ({ cls := .type "tuple", data := .seq #[.str W ta, .str S tb, .int p tc] n } : Obj))] ∧ WordOk W ∧ PairOk md W S p ∧ 1 ≤ W.length ∧ W.length ≤ 3 ∧ S.length ≤ 2 * W.length ∧ S.length ≤ 4 ∧ Builtin.Str.strKind W = 1) :=
  (pair_c w x md t1 t2).mono fun v ex h => by
    obtain ⟨D, W, S, p, ta, tb, tc, n, h1, h2, h3, h4⟩ := h
    exact ⟨D, W, S, p, ta, tb, tc, n, h1, h2, h3, h4, h3.len.1, h3.len.2, (pair_chars h3 h4).2.1, (pair_chars h3 h4).2.2, word_kind h3⟩
theorem laid_k (w : World) (x y z : Str) (t1 t2 t3 : Tok) (hx : x.length ≤ 100) (hy : 1 ≤ y.length) (hy2 : y.length ≤ 3) (hz : z.length ≤ 4) (hz2 : z.length ≤ 2 * y.length) :
    Cl w 49 1 [.str x t1, .str y t2, .str z t3] (fun v ex => ex = [] ∧ ∃ M t, v = .str M t ∧ LaidOf M x y z ∧ M.length ≤ 2 * x.length) :=
  (laid_c w x y z t1 t2 t3 hx hy (by omega) (by omega)).mono fun v ex h => by
    obtain ⟨h1, t, h2⟩ := h
    exact ⟨h1, _, t, h2, rfl, laidS_len hy hz2⟩
theorem cnt_le {w : List Nat} (hw : 0 < w.length) : ∀ (n : Nat) (t : List Nat), t.length ≤ n → cntK w t 0 ≤ t.length
  | 0, t, h => by
    have e : t = [] := List.eq_nil_of_length_eq_zero (by omega)
    subst e
    simp [cntK]
  | n + 1, [], _ => by simp [cntK]
  | n + 1, c :: t, h => by
    by_cases e : (c :: t).take w.length = w
    · have ih := cnt_le hw n ((c :: t).drop w.length) (by rw [List.length_drop]; simp at h ⊢; omega)
      rw [cntK_hit hw e]
      have hl := congrArg List.length e
      rw [List.length_take] at hl
      rw [List.length_drop] at ih
      omega
    · rw [cntK_miss e]
      have := cnt_le hw n t (by simpa using h)
      simp only [List.length_cons]
      omega
theorem most_k (w : World) (x y : Str) (t1 t2 : Tok) (hx : x.length ≤ 100) (hy : 1 ≤ y.length) (hy2 : y.length ≤ 3) :
    Cl w 56 1 [.str x t1, .str y t2] (fun v ex => ex = [] ∧ ∃ n t, v = .int n t ∧ MostIs n x y ∧ 0 ≤ n ∧ n ≤ 100) :=
  (most_c w x y t1 t2 hx hy (by omega)).mono fun v ex h => by
    obtain ⟨h1, t, h2⟩ := h
    rw [most_cnt hy] at h2
    have := cnt_le (w := sg y) (by rw [sg_len]; exact hy) _ (sg x) (Nat.le_refl _)
    rw [sg_len] at this
    exact ⟨h1, _, t, h2, rfl, by omega, by omega⟩
theorem repl_k3 (w : World) (x y z M : Str) (t1 t2 t3 : Tok) (hx : x.length ≤ 100) (hy : 1 ≤ y.length) (hz : z.length ≤ 4) (hk : Builtin.Str.strKind y = 1) (hM : LaidOf M x y z) :
    Cl w 21 1 [.str x t1, .str y t2, .str z t3] (fun v ex => ex = [] ∧ ∃ t, v = .str M t) :=
  (repl_c3 w x y z t1 t2 t3 hx hy (by omega) hk).mono fun v ex h => by
    obtain ⟨h1, t, h2⟩ := h
    exact ⟨h1, t, by rw [h2, hM]⟩
theorem repl_k5 (w : World) (x y z y2 z2 M K : Str) (t1 t2 t3 t4 t5 : Tok) (hx : x.length ≤ 100) (hy : 1 ≤ y.length) (hz : z.length ≤ 4) (hk : Builtin.Str.strKind y = 1) (hM : LaidOf M x y z) (hMl : M.length ≤ 100) (hy2 : 1 ≤ y2.length) (hz2 : z2.length ≤ 4) (hk2 : Builtin.Str.strKind y2 = 1) (hK : LaidOf K M y2 z2) :
    Cl w 21 1 [.str x t1, .str y t2, .str z t3, .str y2 t4, .str z2 t5] (fun v ex => ex = [] ∧ ∃ t, v = .str K t) := by
  have hM' : laidS x y z = M := hM.symm
  refine (repl_c5 w x y z y2 z2 t1 t2 t3 t4 t5 hx hy (by omega) hk (by rw [hM']; exact hMl) hy2 (by omega) hk2).mono fun v ex h => ?_
  obtain ⟨h1, t, h2⟩ := h
  rw [hM'] at h2
  exact ⟨h1, t, by rw [h2, hK]⟩
theorem factA {md sl r : Int} {T M W S : Str} {p n : Int} (h : LevOk T M (p * n + sl) r) (hM : LaidOf M T W S) (hP : PairOk md W S p) (hn : MostIs n T W) (hW : WordOk W) (hT : CharsIn (sg T)) : r = p * n ∨ (sl < 0 ∧ r = p * n + sl + 1) := fact1 hT hW hP hM hn h
theorem factB {md sl r : Int} {T M K W S W2 S2 : Str} {p n p2 n2 : Int} (h : LevOk K T (p * n + p2 * n2 + sl) r) (hK : LaidOf K M W2 S2) (hM : LaidOf M T W S) (hP : PairOk md W S p) (hP2 : PairOk md W2 S2 p2) (hn : MostIs n T W) (hn2 : MostIs n2 M W2) (hW : WordOk W) (hW2 : WordOk W2) (hT : CharsIn (sg T)) : r = p * n + p2 * n2 ∨ (sl < 0 ∧ r = p * n + p2 * n2 + sl + 1) := fact3 hT hW hP hM hn hW2 hP2 hK hn2 h
theorem charsM {md : Int} {T M W S : Str} {p : Int} (hM : LaidOf M T W S) (hP : PairOk md W S p) (hW : WordOk W) (hT : AbcIn T) : CharsIn (sg M) := laid_chars hM (abc_chars hT) (pair_chars hW hP).1
theorem aba_len {S : Str} (h : S.length ≤ 5) : (S ++ Str.ofString "aba").length ≤ 8 := by
  have e : (Str.ofString "aba").length = 3 := by decide +kernel
  rw [Str.length_append, e]
  omega
end Mine

namespace Mine
local macro_rules | `(tactic| walk_at "CompSrc") => `(tactic| (k_here; (with_reducible show LCg.CompSrc _ _ _ _ _ _ _ (Expr.Subscript (Expr.Constant _ _ _) _ _) _ _ _ _ _ _); (try k_fmods); (try kcf_lens); k_dflt (refine LCg.CompSrc.ledger (by rfl) (by k_asm) (by k_asm) (by k_mem) (by kcf_size) ?_; intro g'; (refine' kct_list signOf (by first | assumption | l_ints) (fun k' t' I' oI' C' oC' D' m' ys' h' tk' E' hk' hC' hx' F' N' off' ne' => ?_) ?_); (all_goals (try (simp only [LCg.Off3, and_true] at off'))); (all_goals (try ((show KPfMark → _); intro hMark'))); kcf_last)))
local macro_rules | `(tactic| walk_at "KCtEl") => `(tactic| exact kct_el rfl rfl rfl)
local macro_rules | `(tactic| walk_at "call ref") => `(tactic| (k_here; (with_reducible show wpAny _ _ (call (Value.ref 42) [Value.int _ _, Value.int _ _]) _ _ _); k_dflt (refine' (pair_k _ _ _ _ _).use ?k1 ?k2 ?k3 ?k4 ?k5 ?k6 ?k7 ?k8 ?_; skip; (case k1 => k_asm); (case k2 => k_asm); (case k3 => k_asm); (case k4 => k_asm); (case k5 => k_asm); (case k6 => exact rfl); (case k7 => ktr_room); (case k8 => ktr_units)); (intro v9 ex9 h9 tk9 hP9 F9 N9); (obtain ⟨D9, W9, S9, p9, ta9, tb9, tc9, n9, hv9, hex9, hW9, hp9, hl1, hl2, hl3, hl4, hkd9⟩ := hP9); (subst hv9 hex9); (simp only [List.cons_append, List.nil_append] at N9); (try dsimp only); (try k_sweep)))
local macro_rules | `(tactic| walk_at "call ref") => `(tactic| (k_here; (with_reducible show wpAny _ _ (call (Value.ref 49) [Value.str _ _, Value.str _ _, Value.str _ _]) _ _ _); k_dflt (refine' (laid_k _ _ _ _ _ _ _ ?q1 ?q2 ?q3 ?q4 ?q5).use ?k1 ?k2 ?k3 ?k4 ?k5 ?k6 ?k7 ?k8 ?_; (case q1 => omega); (case q2 => omega); (case q3 => omega); (case q4 => omega); (case q5 => omega); (case k1 => k_asm); (case k2 => k_asm); (case k3 => k_asm); (case k4 => k_asm); (case k5 => k_asm); (case k6 => exact rfl); (case k7 => ktr_room); (case k8 => ktr_units)); (intro v9 ex9 h9 tk9 hP9 F9 N9); (obtain ⟨hex9, M9, t9, hv9, hM9, hMl9⟩ := hP9); (subst hex9 hv9); (simp only [List.nil_append] at N9); (try dsimp only); (try k_sweep)))
local macro_rules | `(tactic| walk_at "call ref") => `(tactic| (k_here; (with_reducible show wpAny _ _ (call (Value.ref 21) [Value.str _ _, Value.str _ _, Value.str _ _]) _ _ _); k_dflt (refine' (repl_k3 _ _ _ _ _ _ _ _ ?q1 ?q2 ?q3 ?q4 ?q5).use ?k1 ?k2 ?k3 ?k4 ?k5 ?k6 ?k7 ?k8 ?_; (case q5 => assumption); (case q1 => omega); (case q2 => omega); (case q3 => omega); (case q4 => assumption); (case k1 => k_asm); (case k2 => k_asm); (case k3 => k_asm); (case k4 => k_asm); (case k5 => k_asm); (case k6 => exact rfl); (case k7 => ktr_room); (case k8 => ktr_units)); (intro v9 ex9 h9 tk9 hP9 F9 N9); (obtain ⟨hex9, t9, hv9⟩ := hP9); (subst hex9 hv9); (simp only [List.nil_append] at N9); (try dsimp only); (try k_sweep)))
local macro_rules | `(tactic| walk_at "call ref") => `(tactic| (k_here; (with_reducible show wpAny _ _ (call (Value.ref 21) [Value.str _ _, Value.str _ _, Value.str _ _, Value.str _ _, Value.str _ _]) _ _ _); k_dflt (refine' (repl_k5 _ _ _ _ _ _ _ _ _ _ _ _ _ ?q1 ?q2 ?q3 ?q4 ?q5 ?q6 ?q7 ?q8 ?q9 ?q10).use ?k1 ?k2 ?k3 ?k4 ?k5 ?k6 ?k7 ?k8 ?_; (case q5 => assumption); (case q10 => assumption); (case q1 => omega); (case q2 => omega); (case q3 => omega); (case q4 => assumption); (case q6 => omega); (case q7 => omega); (case q8 => omega); (case q9 => assumption); (case k1 => k_asm); (case k2 => k_asm); (case k3 => k_asm); (case k4 => k_asm); (case k5 => k_asm); (case k6 => exact rfl); (case k7 => ktr_room); (case k8 => ktr_units)); (intro v9 ex9 h9 tk9 hP9 F9 N9); (obtain ⟨hex9, t9, hv9⟩ := hP9); (subst hex9 hv9); (simp only [List.nil_append] at N9); (try dsimp only); (try k_sweep)))
local macro_rules | `(tactic| walk_at "call ref") => `(tactic| (k_here; (with_reducible show wpAny _ _ (call (Value.ref 56) [Value.str _ _, Value.str _ _]) _ _ _); k_dflt (refine' (most_k _ _ _ _ _ ?q1 ?q2 ?q3).use ?k1 ?k2 ?k3 ?k4 ?k5 ?k6 ?k7 ?k8 ?_; (case q1 => omega); (case q2 => omega); (case q3 => omega); (case k1 => k_asm); (case k2 => k_asm); (case k3 => k_asm); (case k4 => k_asm); (case k5 => k_asm); (case k6 => exact rfl); (case k7 => ktr_room); (case k8 => ktr_units)); (intro v9 ex9 h9 tk9 hP9 F9 N9); (obtain ⟨hex9, n9, t9, hv9, hn9, hn1, hn2⟩ := hP9); (subst hex9 hv9); (simp only [List.nil_append] at N9); (try dsimp only); (try k_sweep)))
local macro_rules | `(tactic| walk_at "call ref") => `(tactic| (k_here; (with_reducible show wpAny _ _ (call (Value.ref 35) [Value.str _ _, Value.str _ _, Value.int _ _]) _ _ _); k_dflt (refine' (lev_c _ _ _ _ _ _ _ ?q1 ?q2).use ?k1 ?k2 ?k3 ?k4 ?k5 ?k6 ?k7 ?k8 ?_; (case q1 => omega); (case q2 => omega); (case k1 => k_asm); (case k2 => k_asm); (case k3 => k_asm); (case k4 => k_asm); (case k5 => k_asm); (case k6 => exact rfl); (case k7 => ktr_room); (case k8 => ktr_units)); (intro v9 ex9 h9 tk9 hP9 F9 N9); (obtain ⟨hex9, r9, t9, hv9, hr9⟩ := hP9); (subst hex9 hv9); (simp only [List.nil_append] at N9); (k_extra "levFact"); (try dsimp only); (try k_sweep)))
theorem ite_ns {x : Str} {P Q : Prop} (h : Q) : if (x != x) = true then P else Q := by
  rw [if_neg (by simp)]; exact h
def JEnd (h₀ : Heap) (L : Addr) (s : Shared) (m : Str → Option Value) (news : List (Addr × Obj)) (f : Flow) (s₂ : Shared) : Prop :=
  f = .next ∧ ∃ (h' : Heap) (tk : Nat), s₂ = { s with heap := h', toks := tk } ∧ Fr h₀ L h' m ∧ News h₀ L h' news
theorem if_join {prog : Program} {w : World} {A : Around} {E : Value → Shared → Prop} {Q : Flow → Shared → Prop} {s : Shared} {h₀ : Heap} {L : Addr} {T : Sem Flow} {m : Str → Option Value} {news : List (Addr × Obj)} (_F : Fr h₀ L s.heap m) (_N : News h₀ L s.heap news)
    (first : wpAny (model prog w) A T (JEnd h₀ L s m news) E s)
    (rest : ∀ h tk, Fr h₀ L h m → News h₀ L h news → Q .next { s with heap := h, toks := tk }) :
    wpAny (model prog w) A T Q E s := by
  refine wpAny_mono first (fun f s₂ q => ?_) fun _ _ x => x
  obtain ⟨rfl, h', tk, rfl, F, N⟩ := q
  exact rest h' tk F N
local macro_rules | `(tactic| walk_at "ite") => `(tactic| (k_here; with_reducible refine ite_ns ?_))
theorem bad_end {r d e sl : Int} (h : r = d ∨ (sl < 0 ∧ r = e)) (h1 : r ≠ d) (h2 : r ≠ e) : False := by
  rcases h with h | ⟨_, h⟩
  · exact h1 h
  · exact h2 h
local macro_rules | `(tactic| walk_at "exec Return some") => `(tactic| ((with_reducible show wpAny _ _ (exec (Stmt.Return (some (Expr.Constant (Const.bool false) _ _)) _) _) _ _ _); exact (bad_end (by assumption) (by assumption) (by assumption)).elim))
local macro_rules | `(tactic| walk_at "exec If BoolOp") => `(tactic| (k_here; (with_reducible show wpAny _ _ (exec (Stmt.If (Expr.BoolOp BoolOp.And _ _) _ _ _) _) _ _ _); (refine' if_join ?jA ?jB (wpAny_If ?jF) ?jR; (case jA => k_asm); (case jB => k_asm)); rotate_left; (intro h9 tk9 F9 N9); (try dsimp only); (try k_sweep); rotate_left))
local macro_rules | `(tactic| walk_at "JEnd") => `(tactic| (unfold JEnd; exact ⟨rfl, _, _, rfl, by assumption, by assumption⟩))
theorem law_holds : PySem.Challenge.rw_pe0077_01.Holds := hd (by
  w_on
  k_with_none
  k_go0
  all_goals try k_fold
  (k_with "call builtin:str.join" => refine stop_here ?_)
  k_steps
  show wpAny _ _ _ _ _ _
  dsimp only at *
  rename List Int => script
  rename Fr _ _ _ _ => lF'
  rename News _ _ _ _ => lN'
  (with_reducible rename CarriedAll _ (List.map _ _) => ktC)
  refine join_start (News.isList lN' (List.Mem.head _)) ktC (by rw [List.length_map, List.length_take]; omega) ?_
  intro S0 tS kS hS hSl
  obtain ⟨Dl, yl, hDl, hyl⟩ := News.nm4 lN'
  subst hDl hyl
  obtain ⟨u1, F1⟩ := fr_three lF' (a := Str.ofString "low") (b := Str.ofString "mode") (c := Str.ofString "slack") rfl rfl rfl
  have N1 := newsSub1 (b := [(Dl, LCg.lst yl)]) lN' (by intro p hp; simp only [List.mem_singleton] at hp; subst hp; exact .tail _ (.tail _ (.head _)))
  obtain ⟨low, hIl, hLow⟩ : ∃ low, IntsAre yl low ∧ LowOk low := ⟨_, by assumption, low_facts script⟩
  obtain ⟨md, sl, tmd, tsl, hmd1, hmd2, F2⟩ := law_frame F1
  clear F1
  dsimp only [kstB] at F2
  clear lF' lN' ktC
  have hlen : yl.length = low.length := hIl.length
  have hll := hLow.1
  (try k_fold)
  have hT1 := abc_aba hS
  have hT2 := aba_len hSl
  have hT3 := abc_chars hT1
  (k_with "levFact" => ((rename LevOk _ _ _ _ => hL9); (first
    | have hF9 := factB hL9 (by assumption) (by assumption) (by assumption) (by assumption) (by assumption) (by assumption) (by assumption) (by assumption) hT3
    | have hF9 := factA hL9 (by assumption) (by assumption) (by assumption) (by assumption) hT3
    | have hF9 := factA hL9 (by assumption) (by assumption) (by assumption) (by assumption) (charsM (by assumption) (by assumption) (by assumption) hT1)); clear hL9))
  iterate 530 (all_goals try (first | (k_unfold; (try dsimp only)) | (k_end; kc_close) | walk1 | (dsimp only; walk1) | (leave1; walk_say "STEP leave1"; try dsimp only)))
  done)
end Mine

set_option maxRecDepth 100000 in
set_option maxHeartbeats 8000000 in
theorem PySem.Challenge.cw_pe0077_01_holds : PySem.Challenge.rw_pe0077_01.Holds :=
  Mine.law_holds
