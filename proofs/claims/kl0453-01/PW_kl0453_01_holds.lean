import PyProof.Rows.All
import Wide.All
import OpenK.AllK
import Wide.FinOn
import Lean
import PySem.Challenge.RW_kl0453_01
open PySem PySem.W PyProof.Rows
set_option Elab.async false
set_option maxRecDepth 100000
set_option maxHeartbeats 8000000
namespace Mine
open_top hd for PySem.Challenge.rw_kl0453_01
theorem filled (w : World) : PySem.Challenge.rw_kl0453_01 = PySem.Challenge.rw_kl0453_01 ∧ (hd.heap_39 w.params) = (hd.heap_39 w.params) := by
  k_fill
  exact ⟨rfl, rfl⟩
end Mine
section
open PySem
namespace Mine

/-- digits as a text -/
def txt (ds : List Nat) : Str := ⟨(ds.map (48 + ·)).toArray⟩
theorem txt_inj {a b : List Nat} (h : txt a = txt b) : a = b := by
  unfold txt at h
  injection h with h
  have h' : a.map (48 + ·) = b.map (48 + ·) := by simpa using h
  exact List.map_inj_right (fun x y e => by omega) |>.mp h'

def ins (x : Nat) : List Nat → List Nat
  | [] => [x]
  | y :: r => if x ≤ y then x :: y :: r else y :: ins x r
def isort : List Nat → List Nat
  | [] => []
  | x :: r => ins x (isort r)

/-- a place: three digits in order -/
def IsP (p : List Nat) : Prop := ∃ a b c, p = [a, b, c] ∧ a ≤ b ∧ b ≤ c ∧ c ≤ 4

def mvs (lw : Nat → List Nat) (p : List Nat) : List (List Nat) := (List.range 3).flatMap fun k => (lw (p.getD k 0)).map fun j => isort (p.set k j)
def nim (g : Nat → Nat) (p : List Nat) : Nat := p.foldr (fun d r => g d ^^^ r) 0
def mex (l : List Nat) : Nat := ((List.range 5).filter fun n => !l.contains n).headD 0
def ans (lw : Nat → List Nat) (g : Nat → Nat) (p : List Nat) : List Nat := ((mvs lw p).find? fun m => nim g m == 0).getD []

structure Lw (lw : Nat → List Nat) : Prop where
  low : ∀ k, k ≤ 4 → ∀ j ∈ lw k, j < k
  len : ∀ k, k ≤ 4 → (lw k).length ≤ 4
def Mx (lw : Nat → List Nat) (g : Nat → Nat) : Prop := ∀ k, k ≤ 4 → g k = mex ((lw k).map g)

theorem nim_ins (g : Nat → Nat) (x : Nat) : ∀ l, nim g (ins x l) = g x ^^^ nim g l
  | [] => rfl
  | y :: r => by
    unfold ins
    split
    · rfl
    · show g y ^^^ nim g (ins x r) = g x ^^^ (g y ^^^ nim g r)
      rw [nim_ins g x r, ← Nat.xor_assoc, ← Nat.xor_assoc, Nat.xor_comm (g y)]
theorem nim_isort (g : Nat → Nat) : ∀ l, nim g (isort l) = nim g l
  | [] => rfl
  | x :: r => by
    show nim g (ins x (isort r)) = _
    rw [nim_ins, nim_isort g r]; rfl

theorem ins3 (x y z : Nat) (hyz : y ≤ z) : ∃ a b c, ins x [y, z] = [a, b, c] ∧ a ≤ b ∧ b ≤ c ∧ a + b + c = x + y + z ∧ (a = x ∨ a = y) ∧ (c = x ∨ c = z) := by
  unfold ins
  split
  · exact ⟨x, y, z, rfl, by omega, by omega, rfl, by omega, by omega⟩
  · unfold ins
    split
    · exact ⟨y, x, z, rfl, by omega, by omega, by omega, by omega, by omega⟩
    · exact ⟨y, z, x, rfl, by omega, by omega, by omega, by omega, by omega⟩
theorem isort3 (x y z : Nat) (hx : x ≤ 4) (hy : y ≤ 4) (hz : z ≤ 4) : ∃ a b c, isort [x, y, z] = [a, b, c] ∧ a ≤ b ∧ b ≤ c ∧ c ≤ 4 ∧ a + b + c = x + y + z := by
  have e : ins y [z] = if y ≤ z then [y, z] else [z, y] := rfl
  show ∃ a b c, ins x (ins y [z]) = _ ∧ _
  rw [e]
  split
  · rename_i h
    obtain ⟨a, b, c, e, h1, h2, h3, h4, h5⟩ := ins3 x y z h
    exact ⟨a, b, c, e, h1, h2, by omega, h3⟩
  · rename_i h
    obtain ⟨a, b, c, e, h1, h2, h3, h4, h5⟩ := ins3 x z y (by omega)
    exact ⟨a, b, c, e, h1, h2, by omega, by omega⟩

theorem mem_mvs {lw : Nat → List Nat} {a b c : Nat} {m : List Nat} : m ∈ mvs lw [a, b, c] ↔ (∃ j ∈ lw a, m = isort [j, b, c]) ∨ (∃ j ∈ lw b, m = isort [a, j, c]) ∨ (∃ j ∈ lw c, m = isort [a, b, j]) := by
  unfold mvs
  simp only [List.mem_flatMap, List.mem_map, List.mem_range]
  constructor
  · rintro ⟨k, hk, j, hj, rfl⟩
    have : k = 0 ∨ k = 1 ∨ k = 2 := by omega
    rcases this with rfl | rfl | rfl
    · exact .inl ⟨j, hj, rfl⟩
    · exact .inr (.inl ⟨j, hj, rfl⟩)
    · exact .inr (.inr ⟨j, hj, rfl⟩)
  · rintro (⟨j, hj, rfl⟩ | ⟨j, hj, rfl⟩ | ⟨j, hj, rfl⟩)
    · exact ⟨0, by omega, j, hj, rfl⟩
    · exact ⟨1, by omega, j, hj, rfl⟩
    · exact ⟨2, by omega, j, hj, rfl⟩

/-- a move leads to a place, and down -/
theorem mvs_place {lw : Nat → List Nat} (W : Lw lw) {p m : List Nat} (hp : IsP p) (hm : m ∈ mvs lw p) : IsP m ∧ m.sum < p.sum := by
  obtain ⟨a, b, c, rfl, hab, hbc, hc⟩ := hp
  have fin : ∀ x y z, x ≤ 4 → y ≤ 4 → z ≤ 4 → m = isort [x, y, z] → x + y + z < a + b + c → IsP m ∧ m.sum < [a, b, c].sum := by
    intro x y z hx hy hz e hlt
    obtain ⟨a', b', c', e', h1, h2, h3, h4⟩ := isort3 x y z hx hy hz
    refine ⟨⟨a', b', c', e.trans e', h1, h2, h3⟩, ?_⟩
    rw [e, e']
    simp only [List.sum_cons, List.sum_nil]
    omega
  rcases mem_mvs.mp hm with ⟨j, hj, e⟩ | ⟨j, hj, e⟩ | ⟨j, hj, e⟩
  · have := W.low a (by omega) j hj
    exact fin j b c (by omega) (by omega) hc e (by omega)
  · have := W.low b (by omega) j hj
    exact fin a j c (by omega) (by omega) hc e (by omega)
  · have := W.low c hc j hj
    exact fin a b j (by omega) (by omega) (by omega) e (by omega)

theorem len_of_sub {α : Type} [BEq α] [LawfulBEq α] : ∀ (l m : List α), l.Nodup → (∀ x ∈ l, x ∈ m) → l.length ≤ m.length
  | [], _, _, _ => Nat.zero_le _
  | x :: r, m, hn, hs => by
    have hx := hs x (.head _)
    have hr := len_of_sub r (m.erase x) (List.nodup_cons.mp hn).2 fun y hy => (List.mem_erase_of_ne (fun (e : y = x) => (List.nodup_cons.mp hn).1 (by rw [← e]; exact hy))).mpr (hs y (.tail _ hy))
    rw [List.length_erase_of_mem hx] at hr
    have := List.length_pos_of_mem hx
    rw [List.length_cons]; omega
theorem headD_mem {l : List Nat} (h : l ≠ []) (d : Nat) : l.headD d ∈ l := by
  cases l with
  | nil => exact absurd rfl h
  | cons x r => exact .head _
theorem filter_range_head (p : Nat → Bool) : ∀ n s, (∃ k, s ≤ k ∧ k < s + n ∧ p k = true) → p (((List.range' s n).filter p).headD 0) = true ∧ ∀ k, s ≤ k → k < ((List.range' s n).filter p).headD 0 → p k = false := by
  intro n
  induction n with
  | zero => rintro s ⟨k, h1, h2, _⟩; omega
  | succ n ih =>
    rintro s ⟨k, h1, h2, hk⟩
    rw [List.range'_succ]
    cases hs : p s with
    | true =>
      rw [List.filter_cons, if_pos hs]
      exact ⟨hs, fun j a b => by simp only [List.headD_cons] at b; omega⟩
    | false =>
      rw [List.filter_cons, if_neg (by simp [hs])]
      have hne : k ≠ s := fun e => by rw [e, hs] at hk; cases hk
      obtain ⟨q1, q2⟩ := ih (s + 1) ⟨k, by omega, by omega, hk⟩
      refine ⟨q1, fun j a b => ?_⟩
      by_cases e : j = s
      · rw [e, hs]
      · exact q2 j (by omega) b

theorem five_free {l : List Nat} (h : l.length ≤ 4) : ∃ k, k < 5 ∧ l.contains k = false := by
  refine Classical.byContradiction fun hn => ?_
  have all : ∀ k, k < 5 → k ∈ l := fun k hk => by
    refine Classical.byContradiction fun hm => hn ⟨k, hk, ?_⟩
    simpa using hm
  have := len_of_sub (List.range 5) l List.nodup_range (fun x hx => all x (List.mem_range.mp hx))
  rw [List.length_range] at this
  omega
theorem mex_spec {l : List Nat} (h : l.length ≤ 4) : mex l ∉ l ∧ ∀ v, v < mex l → v ∈ l := by
  obtain ⟨k, hk, hf⟩ := five_free h
  obtain ⟨q1, q2⟩ := filter_range_head (fun n => !l.contains n) 5 0 ⟨k, by omega, by omega, by simpa using hf⟩
  rw [← List.range_eq_range'] at q1 q2
  refine ⟨by simpa [mex] using q1, fun v hv => ?_⟩
  have := q2 v (by omega) hv
  simpa using this
theorem g_le {lw : Nat → List Nat} {g : Nat → Nat} (W : Lw lw) (G : Mx lw g) {k : Nat} (hk : k ≤ 4) : g k < 8 := by
  have := mex_spec (l := (lw k).map g) (by rw [List.length_map]; exact W.len k hk)
  rw [← G k hk] at this
  refine Classical.byContradiction fun hn => ?_
  have h1 := len_of_sub (List.range 8) ((lw k).map g) List.nodup_range (fun x hx => this.2 x (by have := List.mem_range.mp hx; omega))
  have h2 := W.len k hk
  rw [List.length_range, List.length_map] at h1
  omega

theorem nim3 (g : Nat → Nat) (a b c : Nat) : nim g [a, b, c] = g a ^^^ (g b ^^^ g c) := by
  show g a ^^^ (g b ^^^ (g c ^^^ 0)) = _
  rw [Nat.xor_zero]

theorem xor_swap (x y z : Nat) : x ^^^ (y ^^^ z) = y ^^^ (x ^^^ z) := by rw [← Nat.xor_assoc, Nat.xor_comm x y, Nat.xor_assoc]
theorem xor_cancel_ne {x y r : Nat} (h : x ^^^ r = 0) (h' : y ^^^ r = 0) : x = y := by
  have e : x ^^^ (r ^^^ r) = y ^^^ (r ^^^ r) := by rw [← Nat.xor_assoc, ← Nat.xor_assoc, h, h']
  rwa [Nat.xor_self, Nat.xor_zero, Nat.xor_zero] at e

theorem nim_no {lw : Nat → List Nat} {g : Nat → Nat} (W : Lw lw) (G : Mx lw g) {p m : List Nat} (hp : IsP p) (h0 : nim g p = 0) (hm : m ∈ mvs lw p) : nim g m ≠ 0 := by
  obtain ⟨a, b, c, rfl, hab, hbc, hc⟩ := hp
  have key : ∀ k j, k ≤ 4 → j ∈ lw k → g j ≠ g k := fun k j hk hj e => by
    have := (mex_spec (l := (lw k).map g) (by rw [List.length_map]; exact W.len k hk)).1
    rw [← G k hk] at this
    exact this (List.mem_map.mpr ⟨j, hj, e⟩)
  rw [nim3] at h0
  rcases mem_mvs.mp hm with ⟨j, hj, rfl⟩ | ⟨j, hj, rfl⟩ | ⟨j, hj, rfl⟩ <;> rw [nim_isort, nim3] <;> intro h1
  · exact key a j (by omega) hj (xor_cancel_ne h1 h0)
  · rw [xor_swap] at h0 h1
    exact key b j (by omega) hj (xor_cancel_ne h1 h0)
  · rw [Nat.xor_comm (g b), xor_swap] at h0
    rw [Nat.xor_comm (g b), xor_swap] at h1
    exact key c j hc hj (xor_cancel_ne h1 h0)

theorem nim_dec : ∀ x, x < 8 → ∀ y, y < 8 → ∀ z, z < 8 → x ^^^ (y ^^^ z) ≠ 0 → (y ^^^ z < x) ∨ (x ^^^ z < y) ∨ (x ^^^ y < z) := by decide +kernel

theorem nim_yes {lw : Nat → List Nat} {g : Nat → Nat} (W : Lw lw) (G : Mx lw g) {p : List Nat} (hp : IsP p) (h0 : nim g p ≠ 0) : ∃ m ∈ mvs lw p, nim g m = 0 := by
  obtain ⟨a, b, c, rfl, hab, hbc, hc⟩ := hp
  have key : ∀ k v, k ≤ 4 → v < g k → ∃ j ∈ lw k, g j = v := fun k v hk hv => by
    have := (mex_spec (l := (lw k).map g) (by rw [List.length_map]; exact W.len k hk)).2 v (by rw [← G k hk]; exact hv)
    obtain ⟨j, hj, e⟩ := List.mem_map.mp this
    exact ⟨j, hj, e⟩
  rw [nim3] at h0
  rcases nim_dec _ (g_le W G (k := a) (by omega)) _ (g_le W G (k := b) (by omega)) _ (g_le W G hc) h0 with h | h | h
  · obtain ⟨j, hj, e⟩ := key a _ (by omega) h
    exact ⟨_, mem_mvs.mpr (.inl ⟨j, hj, rfl⟩), by rw [nim_isort, nim3, e, Nat.xor_self]⟩
  · obtain ⟨j, hj, e⟩ := key b _ (by omega) h
    exact ⟨_, mem_mvs.mpr (.inr (.inl ⟨j, hj, rfl⟩)), by rw [nim_isort, nim3, e, xor_swap, Nat.xor_self]⟩
  · obtain ⟨j, hj, e⟩ := key c _ hc h
    exact ⟨_, mem_mvs.mpr (.inr (.inr ⟨j, hj, rfl⟩)), by rw [nim_isort, nim3, e, Nat.xor_comm (g b), xor_swap, Nat.xor_comm (g a) (g b), Nat.xor_self]⟩

/-- the numbers exist -/
def gs (lw : Nat → List Nat) : Nat → List Nat
  | 0 => []
  | k + 1 => gs lw k ++ [mex ((lw k).map fun j => (gs lw k).getD j 0)]
theorem gs_len (lw : Nat → List Nat) : ∀ k, (gs lw k).length = k
  | 0 => rfl
  | k + 1 => by show (gs lw k ++ [_]).length = _; rw [List.length_append, gs_len lw k]; rfl
theorem gs_get (lw : Nat → List Nat) {j : Nat} : ∀ {k}, j < k → (gs lw k).getD j 0 = (gs lw (j + 1)).getD j 0
  | 0, h => absurd h (Nat.not_lt_zero _)
  | k + 1, h => by
    by_cases e : j = k
    · rw [e]
    · have hj : j < k := by omega
      rw [← gs_get lw hj]
      show (gs lw k ++ [_]).getD j 0 = _
      simp only [List.getD_eq_getElem?_getD]
      rw [List.getElem?_append_left (by rw [gs_len]; exact hj)]
theorem mx_exists {lw : Nat → List Nat} (W : Lw lw) : ∃ g, Mx lw g := by
  refine ⟨fun j => (gs lw (j + 1)).getD j 0, fun k hk => ?_⟩
  show (gs lw k ++ [_]).getD k 0 = _
  simp only [List.getD_eq_getElem?_getD]
  rw [List.getElem?_append_right (by rw [gs_len]; exact Nat.le_refl _), gs_len, Nat.sub_self]
  show mex _ = mex _
  congr 1
  refine List.map_congr_left fun j hj => ?_
  have h1 := gs_get lw (W.low k hk j hj)
  simpa [List.getD_eq_getElem?_getD] using h1
end Mine
end
section
open PySem PySem.W PySem.Calls PyProof.Rows
set_option maxRecDepth 100000
set_option maxHeartbeats 4000000
namespace Mine

abbrev PP : Program := PySem.Challenge.pw_kl0453_01
abbrev TopX (w : World) (mean : ExcName → Option Value) (mg mb : Str → Option Value) (h : Heap) : Prop :=
  Top hd.view_39 (looseW hd.view_39 [Str.ofString "_safe_string"]) mean mg mb h

section
variable {prog : Program} {w : World} {A : Around} {E : Value → Shared → Prop} {s : Shared} {K : Frag} {h₀ : Heap} {L : Addr} {m : Str → Option Value} {N : List (Addr × Obj)}

/-- a call of a plain def, the ground staying as it is: the caller's frame goes into the ledger -/
theorem callF {R : Result → Shared → Prop} {name qual : Str} {params : Arguments} {body : List Stmt} {scope : Scope} {dV kV doc pm cdv ct oc : Value} {an od : Option Addr} {osl : Array (Option Value)} {f : Addr} {args : Args} {binds : List (Str × Value)}
    (F : Fr h₀ L s.heap m) (X : K.In h₀) (NN : News h₀ L s.heap N) (hlim : h₀.NoLimit)
    (ho : K.lookup f = some ⟨oc, od, .func (fnOf name qual params body scope dV kV doc pm an cdv ct), osl⟩) (hcd : codeIn K cdv qual = true) (hroom : A.depth < recursionLimit)
    (hbind : BindsTo s (fnOf name qual params body scope dV kV doc pm an cdv ct) args binds) (hloc : ∀ y ∈ binds, scope.names.lookup y.1 = some .local)
    (h : ∀ L' h₁ oL, s.heap.get? L = some oL → Fr h₀ L' h₁ (fun y => binds.reverse.lookup y) → News h₀ L' h₁ ((L, oL) :: N) → (∀ p ∈ (L, oL) :: N, p.1 < L') →
      wpAny (model prog w) (A.deeper (envOf qual scope L' f cdv)) (execs body (envOf qual scope L' f cdv))
        (fun fl s' => R (.ok (.ret (match fl with | .ret v => v | _ => .none))) s')
        (fun e s' => wpAny (model prog w) (A.deeper (envOf qual scope L' f cdv)) (leaving (envOf qual scope L' f cdv) e) (fun _ s'' => R (.error e) s'') (fun e' s'' => R (.error e') s'') s')
        { s with heap := h₁, toks := s.toks + binds.length })
    (hco : scope.isCoroutine = false := by rfl) (hgen : scope.isGenerator = false := by rfl) (hk : scope.kind = .function := by rfl)
    (hcell : ∀ x ∈ scope.names, x.2 ≠ .cell := by decide) : codeAny (model prog w) A (.call (.ref f) args) R s := by
  obtain ⟨oL, es, ep, hL, hLr⟩ := id F.ns
  have hLn : h₀.get? L = none := by
    cases q : h₀.get? L with
    | none => rfl
    | some o => exact absurd (Nat.lt_of_lt_of_le (Heap.lt_size q) F.above) (Nat.lt_irrefl _)
  have all : ∀ p ∈ (L, oL) :: N, s.heap.get? p.1 = some p.2 ∧ h₀.get? p.1 = none := fun p hp => by
    rcases List.mem_cons.mp hp with rfl | hp
    · exact ⟨hL, hLn⟩
    · exact ⟨(NN p hp).1, (NN p hp).2.2⟩
  refine codeAny_call_def (fd := fnOf name qual params body scope dV kV doc pm an cdv ct) (body := body) (binds := binds) hroom (F.keep _ _ (X _ _ ho)) rfl (hlim.keeps F.keep) (codeRec_of (X.keeps F.keep) hcd) rfl hbind hcell hloc (fun h₁ hns hk₁ => ?_) hco hgen hk
  exact h s.heap.objs.size h₁ oL hL ⟨hns, fun b o e => hk₁ b o (F.keep b o e), Nat.le_of_lt (Nat.lt_of_le_of_lt F.above (Heap.lt_size hL))⟩
    (fun p hp => ⟨hk₁ _ _ (all p hp).1, Nat.ne_of_lt (Heap.lt_size (all p hp).1), (all p hp).2⟩) (fun p hp => Heap.lt_size (all p hp).1)

/-- the caller's frame, back out of the ledger -/
theorem frame_back {s' : Shared} {oL oL' : Obj} {L' : Addr} {m' : Str → Option Value} {N' : List (Addr × Obj)} (F : Fr h₀ L s.heap m) (hL : s.heap.get? L = some oL) (F' : Fr h₀ L' s'.heap m') (N₁ : News h₀ L' s'.heap N')
    (hm : (L, oL') ∈ N') (hd : oL'.data = oL.data) : Fr h₀ L s'.heap m := by
  obtain ⟨o, es, ep, ho, hdt, r⟩ := F.ns
  rw [hL] at ho; cases ho
  exact ⟨⟨oL', es, ep, N₁.get hm, hd.trans hdt, r⟩, F'.keep, F.above⟩
theorem news_back {s' : Shared} {L' : Addr} {N' N₂ : List (Addr × Obj)} (N₁ : News h₀ L' s'.heap N') (hs : ∀ p ∈ N₂, p ∈ N' ∧ p.1 ≠ L) : News h₀ L s'.heap N₂ :=
  fun p hp => ⟨(N₁ p (hs p hp).1).1, (hs p hp).2, (N₁ p (hs p hp).1).2.2⟩
end
end Mine
end
section
open PySem PySem.W PySem.Calls PyProof.Rows
set_option maxRecDepth 100000
set_option maxHeartbeats 4000000
namespace Mine

/-- the frames that stand, each an object of the heap that is no record -/
def Stand (h : Heap) (l : List Env) : Prop := h.FunFrames {} l

theorem empty_get (a : Addr) : ({} : Heap).get? a = none := by simp [Heap.get?]

theorem mapFields_same {o : Obj} {vs : Array Value} (hd : o.data = .fields vs) {f : Array Value → Array Value} (h : f vs = vs) : o.mapFields f = o := by
  obtain ⟨c, d, dt, sl⟩ := o
  dsimp only at hd
  subst hd
  show (⟨c, d, .fields (f vs), sl⟩ : Obj) = _
  rw [h]

theorem setIf_same {vs : Array Value} {i : Nat} {x : Value} (h : vs[i]? = some x) : vs.setIfInBounds i x = vs := by
  apply Array.ext_getElem?
  intro j
  by_cases e : j = i
  · subst e
    rw [Array.getElem?_setIfInBounds_self, h]
    have := (Array.getElem?_eq_some_iff.mp h).1
    simp [this]
  · rw [Array.getElem?_setIfInBounds_ne (Ne.symm e)]

/-- an update that leaves the object as it is leaves the heap's look as it is -/
theorem get_update_same {h : Heap} {T : Addr} {o : Obj} {f : Obj → Obj} (ho : h.get? T = some o) (hf : f o = o) (b : Addr) : (h.update T f).get? b = h.get? b := by
  by_cases e : T = b
  · subst e
    rw [Heap.get?_update_self f ho (by rw [hf]; exact (Heap.get?_some_iff.mp ho).2), hf, ho]
  · exact Heap.get?_update_other _ _ e

section
variable {M : Model} {A : Around} {E : Value → Shared → Prop} {s : Shared}

/-- the head of an exception's traceback: none, or an entry that is not in flight -/
def HeadOk (h : Heap) (e : Addr) (head : Value) : Prop := head = .none ∨ ∃ T oT ts, head = .ref T ∧ T ≠ e ∧ h.get? T = some oT ∧ oT.data = .fields ts ∧ ts[3]? = some .none

theorem entry_set {env : Env} {outer : List Env} {L e : Addr} {oe : Obj} {vs : Array Value} {head : Value} {hadNext : Bool} {Q : Unit → Shared → Prop}
    (hfr : A.frames = some (env :: outer)) (hf : env.frame = some L) (hl : Stand s.heap (env :: outer))
    (he : s.heap.get? e = some oe) (hd : oe.data = .fields vs) (hsz : 1 < vs.size)
    (hQ : ∀ h' T' oT', s.heap.objs.size ≤ T' → h'.get? T' = some oT' → oT'.cls = .type "traceback" → (∃ ts, oT'.data = .fields ts ∧ ts[3]? = some .none) →
      h'.get? e = some (oe.mapFields (·.setIfInBounds 1 (.ref T'))) →
      (∀ b o, b ≠ e → b ∉ (env :: outer).filterMap (·.frame) → s.heap.get? b = some o → h'.get? b = some o) →
      (∀ b o, b ≠ e → s.heap.get? b = some o → ∃ sl, h'.get? b = some { o with slots := sl }) → Q () { s with heap := h' }) :
    wpAny M A (do let a ← frameOf env; let pl ← entryPlaceOf L hadNext; let b ← EntryCells.newEntry head a .none (rawInt L) .none pl; setField (.ref e) 1 b) (fun _ s' => wpAny M A (setFlight (.ref e) none) Q E s') E s := by
  have hene : e ∉ (env :: outer).filterMap (·.frame) := fun hm => by
    obtain ⟨_, o, ho, hnf⟩ := Heap.FunFrames.mem hl hm
    rw [he] at ho; injection ho with ho; subst ho; exact hnf vs hd
  refine wpAny_bind (wpAny_frameOf_fun hfr hl hf fun h₁ hs₁ => ?_)
  refine wpAny_bind (wpAny_entryPlaceOf fun pl hpl => ?_)
  unfold EntryCells.newEntry newFields
  refine wpAny_bind (wpAny_newObj_type ?_ (hpl.sizeOk5 _ _ _ _ _))
  generalize hO : ({ cls := .type "traceback", dict := none, data := .fields ([head, .ref L, .none, rawInt L, .none] ++ (if pl.isEmpty then List.replicate 6 Value.none else pl)).toArray } : Obj) = O
  have hOd : O.data = .fields ([head, .ref L, .none, rawInt L, .none] ++ (if pl.isEmpty then List.replicate 6 Value.none else pl)).toArray := by rw [← hO]
  have hOf : O.isFreed = false := by rw [← hO]; rfl
  have he₁ : h₁.get? e = some oe := (hs₁.2.1 e hene).trans he
  have he₂ := Heap.get?_push_of_some (h := h₁) O he₁
  refine wpAny_setField he₂ hd hsz ?_
  have hTe : h₁.objs.size ≠ e := Nat.ne_of_gt (Heap.lt_size he₁)
  have hd₃ := Obj.data_mapFields hd (·.setIfInBounds 1 (Value.ref h₁.objs.size))
  have he₃ := Heap.get?_update_self (Obj.mapFields (·.setIfInBounds 1 (Value.ref h₁.objs.size))) he₂ (Obj.isFreed_of_fields hd₃)
  have hT₃ := (Heap.get?_update_other (h₁.push O) (Obj.mapFields (·.setIfInBounds 1 (Value.ref h₁.objs.size))) (Ne.symm hTe)).trans (Heap.get?_push_size h₁ hOf)
  unfold setFlight
  refine wpAny_bind (wpAny_field he₃ hd₃ (x := .ref h₁.objs.size) (by simp [hsz]) ?_)
  rw [if_pos (show (Value.ref h₁.objs.size != Value.none) = true from by simp)]
  refine wpAny_setField hT₃ hOd (by simp only [List.size_toArray, List.length_append, List.length_cons, List.length_nil] <;> omega) ?_
  have keep : ∀ b o, b ≠ e → h₁.get? b = some o →
      (((h₁.push O).update e (Obj.mapFields (·.setIfInBounds 1 (Value.ref h₁.objs.size)))).update h₁.objs.size (Obj.mapFields (·.setIfInBounds 3 ((none : Option Addr).elim Value.none fun f => rawInt f)))).get? b = some o := fun b o hbe hb => by
    have hbT : h₁.objs.size ≠ b := Nat.ne_of_gt (Heap.lt_size hb)
    rw [Heap.get?_update_other _ _ hbT, Heap.get?_update_other _ _ (Ne.symm hbe)]
    exact Heap.get?_push_of_some _ hb
  refine hQ _ h₁.objs.size (O.mapFields (·.setIfInBounds 3 ((none : Option Addr).elim Value.none fun f => rawInt f))) ?_ ?_ ?_ ?_ ?_ ?_ ?_
  · rw [hs₁.1]; exact Nat.le_refl _
  · exact Heap.get?_update_self _ hT₃ (Obj.isFreed_of_fields (Obj.data_mapFields hOd _))
  · rw [Obj.cls_mapFields, ← hO]
  · refine ⟨_, Obj.data_mapFields hOd _, ?_⟩
    rw [Array.getElem?_setIfInBounds_self]
    simp
  · rw [Heap.get?_update_other _ _ hTe]; exact he₃
  · intro b o hbe hbn hb
    exact keep b o hbe ((hs₁.2.1 b hbn).trans hb)
  · intro b o hbe hb
    obtain ⟨sl, hs⟩ := hs₁.2.2 b o hb
    exact ⟨sl, keep b _ hbe hs⟩

/-- an exception is noted by a frame and let go of: its head is new, the frames' slots may turn, all else stays -/
theorem note_set {env : Env} {outer : List Env} {L e : Addr} {oe : Obj} {vs : Array Value} {head : Value} {Q : Unit → Shared → Prop}
    (hfr : A.frames = some (env :: outer)) (hf : env.frame = some L) (hl : Stand s.heap (env :: outer))
    (he : s.heap.get? e = some oe) (hd : oe.data = .fields vs) (h1 : vs[1]? = some head) (hh : HeadOk s.heap e head)
    (hQ : ∀ h' T' oT', s.heap.objs.size ≤ T' → h'.get? T' = some oT' → oT'.cls = .type "traceback" → (∃ ts, oT'.data = .fields ts ∧ ts[3]? = some .none) →
      h'.get? e = some (oe.mapFields (·.setIfInBounds 1 (.ref T'))) →
      (∀ b o, b ≠ e → b ∉ (env :: outer).filterMap (·.frame) → s.heap.get? b = some o → h'.get? b = some o) →
      (∀ b o, b ≠ e → s.heap.get? b = some o → ∃ sl, h'.get? b = some { o with slots := sl }) → Q () { s with heap := h' }) :
    wpAny M A (noteFrame (.ref e) env) (fun _ s' => wpAny M A (setFlight (.ref e) none) Q E s') E s := by
  have hsz : 1 < vs.size := (Array.getElem?_eq_some_iff.mp h1).1
  unfold noteFrame
  simp only [hf]
  refine wpAny_bind (wpAny_field he hd h1 ?_)
  rcases hh with rfl | ⟨T, oT, ts, rfl, hTe, hT, hdT, h3⟩
  · rw [if_neg (by decide)]
    exact entry_set hfr hf hl he hd hsz hQ
  · rw [if_pos (show (Value.ref T != Value.none) = true from by simp)]
    refine wpAny_bind (wpAny_field hT hdT h3 ?_)
    rw [if_neg (show ¬ ((Value.none == rawInt L) = true) from by simp [rawInt])]
    refine wpAny_bind (wpAny_setField hT hdT (Array.getElem?_eq_some_iff.mp h3).1 ?_)
    have same := get_update_same (f := Obj.mapFields (·.setIfInBounds 3 Value.none)) hT (mapFields_same hdT (setIf_same h3))
    refine entry_set hfr hf ?_ ((same e).trans he) hd hsz ?_
    · exact Heap.FunFrames.of_keeps (fun b o hb _ => ⟨o, (same b).trans hb, rfl⟩) hl
    · intro h' T' oT' q1 q2 q3 q4 q5 q6 q7
      exact hQ h' T' oT' (by rw [Heap.size_after_update] at q1; exact q1) q2 q3 q4 q5 (fun b o a1 a2 a3 => q6 b o a1 a2 ((same b).trans a3)) fun b o a1 a3 => q7 b o a1 ((same b).trans a3)

/-- an exception not in flight is let go of once more: nothing turns -/
theorem set_again {e : Addr} {oe : Obj} {vs : Array Value} {head : Value} {Q : Unit → Shared → Prop}
    (he : s.heap.get? e = some oe) (hd : oe.data = .fields vs) (h1 : vs[1]? = some head) (hh : HeadOk s.heap e head)
    (hQ : ∀ h', (∀ b, h'.get? b = s.heap.get? b) → Q () { s with heap := h' }) : wpAny M A (setFlight (.ref e) none) Q E s := by
  unfold setFlight
  refine wpAny_bind (wpAny_field he hd h1 ?_)
  rcases hh with rfl | ⟨T, oT, ts, rfl, hTe, hT, hdT, h3⟩
  · rw [if_neg (by decide)]
    exact wpAny_pure (hQ s.heap fun _ => rfl)
  · rw [if_pos (show (Value.ref T != Value.none) = true from by simp)]
    refine wpAny_setField hT hdT (Array.getElem?_eq_some_iff.mp h3).1 ?_
    exact hQ _ (get_update_same (f := Obj.mapFields (·.setIfInBounds 3 Value.none)) hT (mapFields_same hdT (setIf_same h3)))
end
end Mine
end
section
open PySem PySem.W PySem.Calls PyProof.Rows
set_option maxRecDepth 100000
set_option maxHeartbeats 4000000
namespace Mine

/-- what stays the same through the whole run: the links' words, the numbers, the two tables' places, the links' place -/
structure Gd where
  lw : Nat → List Nat
  g : Nat → Nat
  k : Addr
  mv : Addr
  ln : Addr
def Gd.ok (G : Gd) : Prop := Lw G.lw ∧ Mx G.lw G.g ∧ G.k ≠ G.mv ∧ (G.k == sysModules) = false ∧ (G.mv == sysModules) = false ∧ G.ln ≠ G.k ∧ G.ln ≠ G.mv
def Gd.off (G : Gd) (fa : List Addr) : List Addr := G.k :: G.mv :: fa

abbrev Led := List (Addr × Obj)
def At (off : List Addr) (N : Led) (a : Addr) (o : Obj) : Prop := (a, o) ∈ N ∧ a ∉ off
abbrev tupOf (vs : List Value) : Obj := { cls := .type "tuple", data := .seq vs.toArray }

/-- a text's value -/
def IsT (v : Value) (x : Str) : Prop := ∃ t, v = .str x t
def Texts (vs : List Value) (ss : List Str) : Prop := StrsAre vs ss

/-- the keys of a dict that is filled in this order -/
def keyed (ss : List Str) : List Str := ss.foldl (fun a s => if s ∈ a then a else a ++ [s]) []

/-- no exception of the memo -/
def Kept (o : Obj) : Prop := o.cls = .ref 52 → ∀ vs, o.data ≠ .fields vs
theorem Kept.of {o : Obj} (h : o.cls ≠ .ref 52) : Kept o := fun e => absurd e h
theorem Kept.dict {o : Obj} {es : Array DictEntry} {n : Nat} (h : o.data = .dict es n) : Kept o := fun _ vs e => by rw [h] at e; cases e
/-- the kinds of objects that the memo leans on -/
def Nice (c : Value) : Prop := c = .type "dict" ∨ c = .type "list" ∨ c = .type "tuple" ∨ c = .type "traceback"
theorem Nice.ne {c : Value} (h : Nice c) : c ≠ .ref 52 := by
  rintro rfl
  rcases h with h | h | h | h <;> cases h
def Nicer (c : Value) : Prop := Nice c ∨ c = .ref 52

abbrev sK (w : World) := strKind PP w

structure TabOK (w : World) (G : Gd) (off : List Addr) (N : Led) (d : Addr) (p : List Nat) : Prop where
  ex : ∃ o kvs, (d == sysModules) = false ∧ At off N d o ∧ o.IsDictOf (sK w) kvs ∧ kvs.map (·.1) = keyed ((mvs G.lw p).map txt) ∧
    ∀ x v, (x, v) ∈ kvs → ∃ q t tk u, q ∈ mvs G.lw p ∧ x = txt q ∧ v = .ref t ∧ At off N t (tupOf [.int 554 tk, .str (txt (ans G.lw G.g q)) u])

def TbOK (off : List Addr) (N : Led) (e : Addr) (vs : Array Value) : Prop :=
  ∃ head, vs[1]? = some head ∧ (head = .none ∨ ∃ T oT ts, head = .ref T ∧ T ≠ e ∧ At off N T oT ∧ oT.cls = .type "traceback" ∧ oT.data = .fields ts ∧ ts[3]? = some .none)
theorem TbOK.mono {off off' : List Addr} {N N' : Led} (hs : ∀ a o, At off N a o → Nice o.cls → At off' N' a o) {e : Addr} {vs : Array Value} (h : TbOK off N e vs) : TbOK off' N' e vs := by
  obtain ⟨head, h1, h2⟩ := h
  refine ⟨head, h1, h2.imp id ?_⟩
  rintro ⟨T, oT, ts, b1, b2, b3, b4, b5⟩
  exact ⟨T, oT, ts, b1, b2, hs _ _ b3 (.inr (.inr (.inr b4))), b4, b5⟩

structure ExcOK (w : World) (G : Gd) (off : List Addr) (N : Led) (e : Addr) (p : List Nat) : Prop where
  ex : ∃ oe vs dx hh tk n tab, At off N e oe ∧ oe.cls = .ref 52 ∧ oe.dict = some dx ∧ oe.data = .fields vs ∧ oe.slots = #[] ∧
    At off N dx { cls := .type "dict", data := .dict #[⟨hh, .str (Str.ofString "recipients") tk, .ref tab⟩] n } ∧ hh = PyData.keyHash w.params (Str.ofString "recipients") ∧ TabOK w G off N tab p ∧ TbOK off N e vs

def KnownOK (w : World) (G : Gd) (off : List Addr) (N : Led) (kv : List (Str × Value)) (p : List Nat) (v : Value) : Prop :=
  if nim G.g p = 0 then ∃ e, v = .ref e ∧ ExcOK w G off N e p ∧ ∀ q ∈ mvs G.lw p, (valueAt kv (txt q)).isSome = true
  else IsT v (txt (ans G.lw G.g p))

def MovesOK (G : Gd) (off : List Addr) (N : Led) (p : List Nat) (v : Value) : Prop :=
  ∃ l o vs n, v = .ref l ∧ At off N l o ∧ o = { cls := .type "list", data := .seq vs.toArray n } ∧ Texts vs ((mvs G.lw p).map txt)

structure Inv (w : World) (G : Gd) (fa : List Addr) (N : Led) (kv mv : List (Str × Value)) : Prop where
  ok : G.ok
  links : ∃ o kvs, At (G.off fa) N G.ln o ∧ o.IsDictOf (sK w) kvs ∧ ∀ k, k ≤ 4 → ∃ v, valueAt kvs (txt [k]) = some v ∧ IsT v (txt (G.lw k))
  kin : ∃ o, (G.k, o) ∈ N ∧ G.k ∉ fa ∧ o.IsDictOf (sK w) kv
  min : ∃ o, (G.mv, o) ∈ N ∧ G.mv ∉ fa ∧ o.IsDictOf (sK w) mv
  known : ∀ x v, (x, v) ∈ kv → ∃ p, IsP p ∧ x = txt p ∧ (valueAt mv x).isSome = true ∧ KnownOK w G (G.off fa) N kv p v
  moves : ∀ x v, (x, v) ∈ mv → ∃ p, IsP p ∧ x = txt p ∧ MovesOK G (G.off fa) N p v

section
variable {w : World} {G : Gd} {off off' fa fa' : List Addr} {N N' : Led} {kv kv' mv mv' : List (Str × Value)}

theorem TabOK.mono (hs : ∀ a o, At off N a o → Nice o.cls → At off' N' a o) {d : Addr} {p : List Nat} (h : TabOK w G off N d p) : TabOK w G off' N' d p := by
  obtain ⟨o, kvs, h0, h1, h2, h3, h4⟩ := h.ex
  refine ⟨o, kvs, h0, hs _ _ h1 (.inl (by obtain ⟨_, _, x, _⟩ := h2; exact x.1)), h2, h3, fun x v hm => ?_⟩
  obtain ⟨q, t, tk, u, a1, a2, a3, a4⟩ := h4 x v hm
  exact ⟨q, t, tk, u, a1, a2, a3, hs _ _ a4 (.inr (.inr (.inl rfl)))⟩
theorem MovesOK.mono (hs : ∀ a o, At off N a o → Nice o.cls → At off' N' a o) {p : List Nat} {v : Value} (h : MovesOK G off N p v) : MovesOK G off' N' p v := by
  obtain ⟨l, o, vs, n, h1, h2, h3, h4⟩ := h
  exact ⟨l, o, vs, n, h1, hs _ _ h2 (.inr (.inl (by rw [h3]))), h3, h4⟩
theorem ExcOK.mono (hs : ∀ a o, At off N a o → Nicer o.cls → At off' N' a o) {e : Addr} {p : List Nat} (h : ExcOK w G off N e p) : ExcOK w G off' N' e p := by
  obtain ⟨oe, vs, dx, hh, tk, n, tab, h1, h2, h3, h4, h5, h6, h7, h8, h9⟩ := h.ex
  exact ⟨oe, vs, dx, hh, tk, n, tab, hs _ _ h1 (.inr h2), h2, h3, h4, h5, hs _ _ h6 (.inl (.inl rfl)), h7, h8.mono fun a o x c => hs a o x (.inl c), h9.mono fun a o x c => hs a o x (.inl c)⟩
/-- an exception other than the one that turns -/
theorem ExcOK.other {e : Addr} (hs : ∀ a o, At off N a o → a ≠ e → Nicer o.cls → At off' N' a o) (hN : ∀ o, (e, o) ∈ N → o.cls = .ref 52) {e' : Addr} (hne : e' ≠ e) {p : List Nat} (h : ExcOK w G off N e' p) : ExcOK w G off' N' e' p := by
  have hs' : ∀ a o, At off N a o → Nice o.cls → At off' N' a o := fun a o x hc => hs a o x (fun q => hc.ne (hN o (q ▸ x.1))) (.inl hc)
  obtain ⟨oe, vs, dx, hh, tk, n, tab, h1, h2, h3, h4, h5, h6, h7, h8, h9⟩ := h.ex
  exact ⟨oe, vs, dx, hh, tk, n, tab, hs _ _ h1 hne (.inr h2), h2, h3, h4, h5, hs' _ _ h6 (.inl rfl), h7, h8.mono hs', h9.mono hs'⟩

theorem KnownOK.mono (hs : ∀ a o, At off N a o → Nicer o.cls → At off' N' a o) (hk : ∀ x, (valueAt kv x).isSome = true → (valueAt kv' x).isSome = true) {p : List Nat} {v : Value} (h : KnownOK w G off N kv p v) : KnownOK w G off' N' kv' p v := by
  unfold KnownOK at h ⊢
  split at h
  · rename_i h0
    rw [if_pos h0]
    obtain ⟨e, h1, h2, h3⟩ := h
    exact ⟨e, h1, h2.mono hs, fun q hq => hk _ (h3 q hq)⟩
  · rename_i h0
    rw [if_neg h0]
    exact h

/-- the ledger grows, nothing of it turns -/
theorem Inv.mono (h : Inv w G fa N kv mv) (hs : ∀ p ∈ N, p ∈ N') : Inv w G fa N' kv mv := by
  have hs' : ∀ a o, At (G.off fa) N a o → At (G.off fa) N' a o := fun a o x => ⟨hs _ x.1, x.2⟩
  obtain ⟨o, kvs, l1, l2, l3⟩ := h.links
  obtain ⟨ok, k1, k2, k3⟩ := h.kin
  obtain ⟨om, m1, m2, m3⟩ := h.min
  refine ⟨h.ok, ⟨o, kvs, hs' _ _ l1, l2, l3⟩, ⟨ok, hs _ k1, k2, k3⟩, ⟨om, hs _ m1, m2, m3⟩, fun x v hx => ?_, fun x v hx => ?_⟩
  · obtain ⟨p, q1, q2, q3, q4⟩ := h.known x v hx
    exact ⟨p, q1, q2, q3, q4.mono (fun a o x _ => hs' a o x) fun _ e => e⟩
  · obtain ⟨p, q1, q2, q3⟩ := h.moves x v hx
    exact ⟨p, q1, q2, q3.mono fun a o x _ => hs' a o x⟩

/-- the ledger turns at one place that the memo does not lean on -/
theorem Inv.at_one (h : Inv w G fa N kv mv) {I : Addr} (hI : ∀ o, (I, o) ∈ N → ¬ Nicer o.cls) (hs : ∀ a o, (a, o) ∈ N → a ≠ I → (a, o) ∈ N') : Inv w G fa N' kv mv := by
  have hs' : ∀ a o, At (G.off fa) N a o → Nicer o.cls → At (G.off fa) N' a o := fun a o x c => ⟨hs _ _ x.1 fun q => hI o (q ▸ x.1) c, x.2⟩
  obtain ⟨o, kvs, l1, l2, l3⟩ := h.links
  obtain ⟨ok, k1, k2, k3⟩ := h.kin
  obtain ⟨om, m1, m2, m3⟩ := h.min
  have dc : ∀ {o : Obj} {kvs : List (Str × Value)}, o.IsDictOf (sK w) kvs → Nicer o.cls := fun h => .inl (.inl (by obtain ⟨_, _, x, _⟩ := h; exact x.1))
  refine ⟨h.ok, ⟨o, kvs, hs' _ _ l1 (dc l2), l2, l3⟩, ⟨ok, hs _ _ k1 (fun q => hI ok (q ▸ k1) (dc k3)), k2, k3⟩, ⟨om, hs _ _ m1 (fun q => hI om (q ▸ m1) (dc m3)), m2, m3⟩, fun x v hx => ?_, fun x v hx => ?_⟩
  · obtain ⟨p, q1, q2, q3, q4⟩ := h.known x v hx
    exact ⟨p, q1, q2, q3, q4.mono hs' fun _ e => e⟩
  · obtain ⟨p, q1, q2, q3⟩ := h.moves x v hx
    exact ⟨p, q1, q2, q3.mono fun a o x c => hs' a o x (.inl c)⟩

/-- into a call: the caller's frame is one more of the frames that stand in the ledger -/
theorem Inv.push (h : Inv w G fa N kv mv) {L : Addr} (hL : ∀ p ∈ N, p.1 ≠ L) (oL : Obj) : Inv w G (L :: fa) ((L, oL) :: N) kv mv := by
  have hs' : ∀ a o, At (G.off fa) N a o → At (G.off (L :: fa)) ((L, oL) :: N) a o := fun a o x => ⟨.tail _ x.1, fun q => by
    rcases List.mem_cons.mp q with e | q
    · exact x.2 (by rw [e]; exact .head _)
    rcases List.mem_cons.mp q with e | q
    · exact x.2 (by rw [e]; exact .tail _ (.head _))
    rcases List.mem_cons.mp q with e | q
    · exact hL _ x.1 e
    · exact x.2 (.tail _ (.tail _ q))⟩
  obtain ⟨o, kvs, l1, l2, l3⟩ := h.links
  obtain ⟨ok, k1, k2, k3⟩ := h.kin
  obtain ⟨om, m1, m2, m3⟩ := h.min
  refine ⟨h.ok, ⟨o, kvs, hs' _ _ l1, l2, l3⟩, ⟨ok, .tail _ k1, fun q => ?_, k3⟩, ⟨om, .tail _ m1, fun q => ?_, m3⟩, fun x v hx => ?_, fun x v hx => ?_⟩
  · rcases List.mem_cons.mp q with e | q
    · exact hL _ k1 e
    · exact k2 q
  · rcases List.mem_cons.mp q with e | q
    · exact hL _ m1 e
    · exact m2 q
  · obtain ⟨p, q1, q2, q3, q4⟩ := h.known x v hx
    exact ⟨p, q1, q2, q3, q4.mono (fun a o x _ => hs' a o x) fun _ e => e⟩
  · obtain ⟨p, q1, q2, q3⟩ := h.moves x v hx
    exact ⟨p, q1, q2, q3.mono fun a o x _ => hs' a o x⟩

/-- out of a call -/
theorem Inv.pop {L : Addr} (h : Inv w G (L :: fa) N kv mv) (hs : ∀ p ∈ N, p.1 ≠ L → p ∈ N') : Inv w G fa N' kv mv := by
  have hs' : ∀ a o, At (G.off (L :: fa)) N a o → At (G.off fa) N' a o := fun a o x => ⟨hs _ x.1 fun e => x.2 (.tail _ (.tail _ (by rw [show a = L from e]; exact .head _))), fun q => by
    rcases List.mem_cons.mp q with e | q
    · exact x.2 (by rw [e]; exact .head _)
    rcases List.mem_cons.mp q with e | q
    · exact x.2 (by rw [e]; exact .tail _ (.head _))
    · exact x.2 (.tail _ (.tail _ (.tail _ q)))⟩
  obtain ⟨o, kvs, l1, l2, l3⟩ := h.links
  obtain ⟨ok, k1, k2, k3⟩ := h.kin
  obtain ⟨om, m1, m2, m3⟩ := h.min
  refine ⟨h.ok, ⟨o, kvs, hs' _ _ l1, l2, l3⟩, ⟨ok, hs _ k1 fun e => k2 (by rw [← e]; exact .head _), fun q => k2 (.tail _ q), k3⟩, ⟨om, hs _ m1 fun e => m2 (by rw [← e]; exact .head _), fun q => m2 (.tail _ q), m3⟩, fun x v hx => ?_, fun x v hx => ?_⟩
  · obtain ⟨p, q1, q2, q3, q4⟩ := h.known x v hx
    exact ⟨p, q1, q2, q3, q4.mono (fun a o x _ => hs' a o x) fun _ e => e⟩
  · obtain ⟨p, q1, q2, q3⟩ := h.moves x v hx
    exact ⟨p, q1, q2, q3.mono fun a o x _ => hs' a o x⟩
end
end Mine
end
section
open PySem PySem.W PySem.Calls PyProof.Rows
set_option maxRecDepth 100000
set_option maxHeartbeats 4000000
namespace Mine

structure Fm (A : Around) (L : Addr) (G : Gd) (fa fb : List Addr) (N : Led) : Prop where
  top : ∃ env outer, A.frames = some (env :: outer) ∧ env.frame = some L
  each : ∀ l, A.frames = some l → ∀ env ∈ l, env.scope.kind ≠ .module ∧ ∃ a, env.frame = some a ∧ (a = L ∨ a ∈ fa)
  inn : ∀ a ∈ fa, ∃ o, (a, o) ∈ N ∧ ∀ vs, o.data ≠ .fields vs
  sub : ∀ a ∈ fa, a ∈ fb
  tab : ∀ a ∈ fb, a ∈ fa ∨ (a ≠ G.k ∧ a ≠ G.mv ∧ ∃ o, (a, o) ∈ N ∧ Kept o)

structure Gr (G : Gd) (fa : List Addr) (N N' : Led) : Prop where
  stab : ∀ a o, (a, o) ∈ N → a ∉ G.off fa → Kept o → (a, o) ∈ N'
  fram : ∀ a ∈ fa, ∀ o, (a, o) ∈ N → ∃ sl, (a, { o with slots := sl }) ∈ N'

section
variable {w : World} {G : Gd} {fa fb : List Addr} {N N' N₂ : Led} {kv kv' mv mv' : List (Str × Value)} {A A' : Around} {L : Addr} {h₀ h : Heap} {m : Str → Option Value}

theorem Gr.refl : Gr G fa N N := ⟨fun _ _ h _ _ => h, fun _ _ o h => ⟨o.slots, h⟩⟩
theorem Gr.of_sub (hs : ∀ p ∈ N, p ∈ N') : Gr G fa N N' := ⟨fun _ _ h _ _ => hs _ h, fun _ _ o h => ⟨o.slots, hs _ h⟩⟩
theorem Gr.trans (x : Gr G fa N N') (y : Gr G fa N' N₂) : Gr G fa N N₂ :=
  ⟨fun a o h h1 h2 => y.stab a o (x.stab a o h h1 h2) h1 h2, fun a ha o h => let ⟨_, h'⟩ := x.fram a ha o h; let ⟨sl, h2⟩ := y.fram a ha _ h'; ⟨sl, h2⟩⟩
theorem Fm.grow (M : Fm A L G fa fb N) (g : Gr G fa N N') : Fm A L G fa fb N' := by
  refine ⟨M.top, M.each, fun a ha => let ⟨o, h1, h2⟩ := M.inn a ha; let ⟨_, h3⟩ := g.fram a ha o h1; ⟨_, h3, h2⟩, M.sub, fun a ha => ?_⟩
  by_cases q : a ∈ fa
  · exact .inl q
  · rcases M.tab a ha with h | ⟨h1, h2, o, h3, h4⟩
    · exact absurd h q
    · refine .inr ⟨h1, h2, o, g.stab a o h3 (fun z => ?_) h4, h4⟩
      rcases List.mem_cons.mp z with e | z
      · exact h1 e
      rcases List.mem_cons.mp z with e | z
      · exact h2 e
      · exact q z
theorem Fm.sup (M : Fm A L G fa fb N) (hs : ∀ p ∈ N, p ∈ N') : Fm A L G fa fb N' := ⟨M.top, M.each, fun a ha => let ⟨o, h1, h2⟩ := M.inn a ha; ⟨o, hs _ h1, h2⟩, M.sub, fun a ha => (M.tab a ha).imp id fun ⟨h1, h2, o, h3, h4⟩ => ⟨h1, h2, o, hs _ h3, h4⟩⟩
theorem Fm.there (M : Fm A L G fa fb N) {a : Addr} (ha : a ∈ fb) : ∃ o, (a, o) ∈ N := by
  rcases M.tab a ha with h | ⟨_, _, o, h, _⟩
  · obtain ⟨o, h1, _⟩ := M.inn a h
    exact ⟨o, h1⟩
  · exact ⟨o, h⟩
theorem Fm.same (M : Fm A L G fa fb N) (e : A'.frames = A.frames) : Fm A' L G fa fb N := ⟨by rw [e]; exact M.top, by rw [e]; exact M.each, M.inn, M.sub, M.tab⟩

theorem Fr.nofields (F : Fr h₀ L h m) {o : Obj} (ho : h.get? L = some o) : ∀ vs, o.data ≠ .fields vs := by
  obtain ⟨o', es, ep, ho', hd, _⟩ := F.ns
  rw [ho] at ho'; cases ho'
  intro vs e
  rw [hd] at e; cases e

theorem Fm.push (M : Fm A L G fa fb N) {oL : Obj} (hd : ∀ vs, oL.data ≠ .fields vs) {env' : Env} {L' : Addr} (hf : env'.frame = some L') (hk : env'.scope.kind = .function) : Fm (A.deeper env') L' G (L :: fa) (L :: fb) ((L, oL) :: N) := by
  obtain ⟨env, outer, e1, e2⟩ := M.top
  have e3 : (A.deeper env').frames = some (env' :: env :: outer) := by show A.frames.map _ = _; rw [e1]; rfl
  refine ⟨⟨env', _, e3, hf⟩, fun l hl en hen => ?_, fun a ha => ?_, fun a ha => ?_, fun a ha => ?_⟩
  · rw [e3] at hl; cases hl
    rcases List.mem_cons.mp hen with rfl | hen
    · exact ⟨by rw [hk]; decide, L', hf, .inl rfl⟩
    · obtain ⟨q1, a, q2, q3⟩ := M.each _ e1 en hen
      exact ⟨q1, a, q2, .inr (q3.elim (fun q => by rw [q]; exact .head _) fun q => .tail _ q)⟩
  · rcases List.mem_cons.mp ha with rfl | ha
    · exact ⟨oL, .head _, hd⟩
    · obtain ⟨o, h1, h2⟩ := M.inn a ha
      exact ⟨o, .tail _ h1, h2⟩
  · rcases List.mem_cons.mp ha with rfl | ha
    · exact .head _
    · exact .tail _ (M.sub a ha)
  · rcases List.mem_cons.mp ha with rfl | ha
    · exact .inl (.head _)
    · rcases M.tab a ha with h | ⟨h1, h2, o, h3, h4⟩
      · exact .inl (.tail _ h)
      · exact .inr ⟨h1, h2, o, .tail _ h3, h4⟩

theorem Fr.L_fresh (F : Fr h₀ L h m) : h₀.get? L = none := by
  cases q : h₀.get? L with
  | none => rfl
  | some o => exact absurd (Nat.lt_of_lt_of_le (Heap.lt_size q) F.above) (Nat.lt_irrefl _)

theorem stand_of (F : Fr h₀ L h m) (NN : News h₀ L h N) (inn : ∀ a ∈ fa, ∃ o, (a, o) ∈ N ∧ ∀ vs, o.data ≠ .fields vs) : ∀ l : List Env, (∀ env ∈ l, env.scope.kind ≠ .module ∧ ∃ a, env.frame = some a ∧ (a = L ∨ a ∈ fa)) → Stand h l
  | [], _ => trivial
  | env :: r, hl => by
    obtain ⟨q1, a, q2, q3⟩ := hl env (.head _)
    refine ⟨q1, ?_, stand_of F NN inn r fun e he => hl e (.tail _ he)⟩
    rcases q3 with rfl | q3
    · obtain ⟨o, es, ep, ho, hd, _⟩ := F.ns
      exact ⟨a, o, q2, empty_get _, ho, fun vs e => by rw [hd] at e; cases e⟩
    · obtain ⟨o, h1, h2⟩ := inn a q3
      exact ⟨a, o, q2, empty_get _, NN.get h1, h2⟩
theorem Fm.stand (M : Fm A L G fa fb N) (F : Fr h₀ L h m) (NN : News h₀ L h N) {l : List Env} (hl : A.frames = some l) : Stand h l := stand_of F NN M.inn l (M.each l hl)
theorem Fm.addr (M : Fm A L G fa fb N) {l : List Env} (hl : A.frames = some l) {b : Addr} (hb : b ∈ l.filterMap (·.frame)) : b = L ∨ b ∈ fa := by
  obtain ⟨env, he, hf⟩ := List.mem_filterMap.mp hb
  obtain ⟨_, a, q2, q3⟩ := M.each l hl env he
  rw [hf] at q2; cases q2
  exact q3

theorem News.same {a : Addr} {o o' : Obj} (NN : News h₀ L h N) (x : (a, o) ∈ N) (y : (a, o') ∈ N) : o = o' := by
  have h1 := NN.get x
  rw [NN.get y] at h1
  exact (Option.some.inj h1).symm

/-- the ledger, looked at anew -/
def reread (h : Heap) (N : Led) : Led := N.map fun p => (p.1, (h.get? p.1).getD p.2)
theorem mem_reread {a : Addr} {o o' : Obj} (x : (a, o) ∈ N) (e : h.get? a = some o') : (a, o') ∈ reread h N := List.mem_map.mpr ⟨_, x, by simp [e]⟩
end

section
variable {w : World} {G : Gd} {fa fb : List Addr} {N : Led} {kv mv : List (Str × Value)} {A : Around} {L e : Addr} {h₀ : Heap} {m : Str → Option Value} {M : Model} {E : Value → Shared → Prop} {s : Shared} {p : List Nat}

/-- an exception of the memo passes a frame -/
theorem leave_inv {env : Env} {outer : List Env} {Q : Unit → Shared → Prop} (hA : A.frames = some (env :: outer)) (hf : env.frame = some L)
    (F : Fr h₀ L s.heap m) (NN : News h₀ L s.heap N) (MM : Fm A L G fa fb N) (I : Inv w G fb N kv mv) (hx : ExcOK w G (G.off fb) N e p)
    (hQ : ∀ h' N', Fr h₀ L h' m → News h₀ L h' N' → Fm A L G fa fb N' → Inv w G fb N' kv mv → ExcOK w G (G.off fb) N' e p → Gr G fa N N' → Q () { s with heap := h' }) :
    wpAny M A (noteFrame (.ref e) env) (fun _ s' => wpAny M A (setFlight (.ref e) none) Q E s') E s := by
  obtain ⟨oe, vs, dx, hh, tk, n, tab, x1, x2, x3, x4, x5, x6, x7, x8, head, y1, y2⟩ := hx.ex
  have heN : ∀ o, (e, o) ∈ N → o.cls = .ref 52 := fun o q => by rw [← News.same NN x1.1 q]; exact x2
  have hHead : HeadOk s.heap e head := y2.imp id fun ⟨T, oT, ts, b1, b2, b3, _, b5, b6⟩ => ⟨T, oT, ts, b1, b2, NN.get b3.1, b5, b6⟩
  refine note_set hA hf (MM.stand F NN hA) (NN.get x1.1) x4 y1 hHead fun h' T' oT' t0 t2 t3 t4 t5 t6 t7 => ?_
  have t1 : s.heap.get? T' = none := Heap.get?_none_of_le t0
  have eL : e ≠ L := (NN _ x1.1).2.1
  have efa : e ∉ fa := fun q => x1.2 (.tail _ (.tail _ (MM.sub _ q)))
  have TL : T' ≠ L := fun q => by
    obtain ⟨o, _, _, ho, _⟩ := F.ns
    rw [q, ho] at t1; cases t1
  have kept : ∀ a o, (a, o) ∈ N → a ≠ e → a ∉ fa → h'.get? a = some o := fun a o x a1 a2 => t6 a o a1 (fun q => by
    rcases MM.addr hA q with q | q
    · exact (NN _ x).2.1 q
    · exact a2 q) (NN.get x)
  have there : ∀ a o, (a, o) ∈ N → ∃ o', h'.get? a = some o' := fun a o x => by
    by_cases q : a = e
    · exact ⟨_, q ▸ t5⟩
    · exact ⟨_, (t7 a o q (NN.get x)).choose_spec⟩
  have keep₀ : ∀ b o, h₀.get? b = some o → h'.get? b = some o := fun b o q => t6 b o (fun z => by
      have := (NN _ x1.1).2.2
      rw [← show b = (e, oe).1 from z, q] at this; cases this) (fun z => by
      rcases MM.addr hA z with z | z
      · rw [z, Fr.L_fresh F] at q; cases q
      · obtain ⟨o', h1, _⟩ := MM.inn b z
        have := (NN _ h1).2.2
        rw [show (b, o').1 = b from rfl, q] at this; cases this) (F.keep b o q)
  have F' : Fr h₀ L h' m := by
    obtain ⟨o, es, ep, ho, hd, r⟩ := F.ns
    obtain ⟨sl, hs⟩ := t7 L o (Ne.symm eL) ho
    exact ⟨⟨_, es, ep, hs, hd, r⟩, keep₀, F.above⟩
  have T0 : h₀.get? T' = none := by
    cases q : h₀.get? T' with
    | none => rfl
    | some o => have := F.keep _ _ q; rw [t1] at this; cases this
  have N' : News h₀ L h' ((T', oT') :: reread h' N) := fun q hq => by
    rcases List.mem_cons.mp hq with rfl | hq
    · exact ⟨t2, TL, T0⟩
    · obtain ⟨r, hr, rfl⟩ := List.mem_map.mp hq
      obtain ⟨o', ho'⟩ := there r.1 r.2 hr
      exact ⟨by simp [ho'], (NN _ hr).2.1, (NN _ hr).2.2⟩
  have hs : ∀ a o, At (G.off fb) N a o → a ≠ e → At (G.off fb) ((T', oT') :: reread h' N) a o := fun a o x a1 =>
    ⟨.tail _ (mem_reread x.1 (kept a o x.1 a1 fun q => x.2 (.tail _ (.tail _ (MM.sub _ q))))), x.2⟩
  have hs' : ∀ a o, At (G.off fb) N a o → o.cls ≠ .ref 52 → At (G.off fb) ((T', oT') :: reread h' N) a o := fun a o x hc => hs a o x fun q => hc (heN o (q ▸ x.1))
  have hs'' : ∀ a o, At (G.off fb) N a o → Nice o.cls → At (G.off fb) ((T', oT') :: reread h' N) a o := fun a o x hc => hs' a o x hc.ne
  have gr : Gr G fa N ((T', oT') :: reread h' N) := ⟨fun a o x a1 a2 => .tail _ (mem_reread x (kept a o x (fun q => a2 (heN o (q ▸ x)) vs (by have hq : (e, o) ∈ N := q ▸ x; rw [← News.same NN x1.1 hq]; exact x4)) fun q => a1 (.tail _ (.tail _ q)))), fun a ha o x => by
    have ae : a ≠ e := fun q => efa (q ▸ ha)
    obtain ⟨sl, h1⟩ := t7 a o ae (NN.get x)
    exact ⟨sl, .tail _ (mem_reread x h1)⟩⟩
  have Toff : T' ∉ G.off fb := fun q => by
    have gone : ∀ o, (T', o) ∈ N → False := fun o x => by have := NN.get x; rw [t1] at this; cases this
    obtain ⟨ok, k1, _⟩ := I.kin
    obtain ⟨om, m1, _⟩ := I.min
    rcases List.mem_cons.mp q with q | q
    · exact gone ok (q ▸ k1)
    rcases List.mem_cons.mp q with q | q
    · exact gone om (q ▸ m1)
    · obtain ⟨o, h1⟩ := MM.there q
      exact gone o h1
  have self : ∀ p', ExcOK w G (G.off fb) N e p' → ExcOK w G (G.off fb) ((T', oT') :: reread h' N) e p' := fun p' hx' => by
    obtain ⟨oe', vs', dx, hh, tk, n, tab, z1, z2, z3, z4, z5, z6, z7, z8, _⟩ := hx'.ex
    obtain rfl := News.same NN x1.1 z1.1
    rw [x4] at z4
    obtain rfl := Data.fields.inj z4
    refine ⟨oe.mapFields (·.setIfInBounds 1 (.ref T')), vs.setIfInBounds 1 (.ref T'), dx, hh, tk, n, tab, ⟨.tail _ (mem_reread x1.1 t5), x1.2⟩, ?_, ?_, Obj.data_mapFields x4 _, ?_, hs' _ _ z6 (by intro q; cases q), z7, z8.mono hs'', .ref T', ?_, .inr ⟨T', oT', ?_⟩⟩
    · rw [Obj.cls_mapFields]; exact x2
    · obtain ⟨c, d, dt, sl⟩ := oe
      cases dt <;> exact z3
    · obtain ⟨c, d, dt, sl⟩ := oe
      cases dt <;> exact z5
    · rw [Array.getElem?_setIfInBounds_self]
      have := (Array.getElem?_eq_some_iff.mp y1).1
      simp [this]
    · obtain ⟨ts, b1, b2⟩ := t4
      exact ⟨ts, rfl, (fun q => by rw [q, NN.get x1.1] at t1; cases t1), ⟨.head _, Toff⟩, t3, b1, b2⟩
  refine hQ h' _ F' N' (MM.grow gr) ?_ (self p hx) gr
  obtain ⟨o, kvs, l1, l2, l3⟩ := I.links
  obtain ⟨ok, k1, k2, k3⟩ := I.kin
  obtain ⟨om, m1, m2, m3⟩ := I.min
  have dcls : ∀ {o : Obj} {kvs : List (Str × Value)}, o.IsDictOf (sK w) kvs → o.cls ≠ .ref 52 := fun h q => by
    obtain ⟨_, _, x, _⟩ := h
    rw [x.1] at q; cases q
  refine ⟨I.ok, ⟨o, kvs, hs' _ _ l1 (dcls l2), l2, l3⟩, ⟨ok, .tail _ (mem_reread k1 (kept _ _ k1 (fun q => dcls k3 (heN ok (q ▸ k1))) (fun q => k2 (MM.sub _ q)))), k2, k3⟩, ⟨om, .tail _ (mem_reread m1 (kept _ _ m1 (fun q => dcls m3 (heN om (q ▸ m1))) (fun q => m2 (MM.sub _ q)))), m2, m3⟩, fun x v hx => ?_, fun x v hx => ?_⟩
  · obtain ⟨p', q1, q2, q3, q4⟩ := I.known x v hx
    refine ⟨p', q1, q2, q3, ?_⟩
    unfold KnownOK at q4 ⊢
    split at q4
    · rename_i h0
      rw [if_pos h0]
      obtain ⟨e', h1, h2, h3⟩ := q4
      refine ⟨e', h1, ?_, h3⟩
      by_cases q : e' = e
      · subst q
        exact self p' h2
      · exact h2.other (fun a o x y _ => hs a o x y) heN q
    · rename_i h0
      rw [if_neg h0]
      exact q4
  · obtain ⟨p', q1, q2, q3⟩ := I.moves x v hx
    exact ⟨p', q1, q2, q3.mono hs''⟩
end
end Mine
end
section
open PySem PySem.W PySem.Calls PyProof.Rows
set_option maxRecDepth 100000
set_option maxHeartbeats 4000000
namespace Mine

theorem stored_isSome {kvs : List (Str × Value)} {x y : Str} {v : Value} (h : (valueAt kvs y).isSome = true) : (valueAt (stored kvs x v) y).isSome = true := by
  rw [valueAt_isSome_eq_any] at h ⊢
  unfold stored
  split
  · rw [List.any_map]
    rw [List.any_eq_true] at h ⊢
    obtain ⟨z, hz, e⟩ := h
    refine ⟨z, hz, ?_⟩
    show decide ((if z.1 = x then (z.1, v) else z).1 = y) = true
    split <;> exact e
  · rw [List.any_append, h]; rfl
theorem stored_self {kvs : List (Str × Value)} {x : Str} {v : Value} : (valueAt (stored kvs x v) x).isSome = true := by
  rw [valueAt_isSome_eq_any]
  unfold stored
  split
  · rename_i h
    rw [List.any_map]
    rw [List.any_eq_true] at h ⊢
    obtain ⟨z, hz, e⟩ := h
    refine ⟨z, hz, ?_⟩
    show decide ((if z.1 = x then (z.1, v) else z).1 = x) = true
    split <;> exact e
  · rw [List.any_append]; simp
theorem mem_stored {kvs : List (Str × Value)} {x y : Str} {v u : Value} (h : (y, u) ∈ stored kvs x v) : (y = x ∧ u = v) ∨ (y, u) ∈ kvs := by
  unfold stored at h
  split at h
  · obtain ⟨z, hz, e⟩ := List.mem_map.mp h
    split at e
    · rename_i hx
      left
      cases e
      exact ⟨hx, rfl⟩
    · exact .inr (e ▸ hz)
  · rcases List.mem_append.mp h with h | h
    · exact .inr h
    · left
      have := List.mem_singleton.mp h
      cases this
      exact ⟨rfl, rfl⟩
theorem mem_of_valueAt {kvs : List (Str × Value)} {x : Str} {v : Value} (h : valueAt kvs x = some v) : (x, v) ∈ kvs := by
  unfold valueAt at h
  cases e : kvs.find? fun kv => decide (kv.1 = x) with
  | none => rw [e] at h; cases h
  | some z =>
    rw [e] at h
    have h1 := List.find?_some e
    have h2 := List.mem_of_find?_eq_some e
    obtain ⟨a, b⟩ := z
    simp at h h1
    rw [← h, ← h1]; exact h2

def allPl : List Str := (List.range 5).flatMap fun a => (List.range 5).flatMap fun b => (List.range 5).map fun c => txt [a, b, c]
theorem allPl_len : allPl.length = 125 := by decide +kernel
theorem mem_allPl {p : List Nat} (h : IsP p) : txt p ∈ allPl := by
  obtain ⟨a, b, c, rfl, h1, h2, h3⟩ := h
  unfold allPl
  simp only [List.mem_flatMap, List.mem_map, List.mem_range]
  exact ⟨a, by omega, b, by omega, c, by omega, rfl⟩

section
variable {w : World} {G : Gd} {fa : List Addr} {N : Led} {kv mv : List (Str × Value)} {A : Around} {L d : Addr} {h₀ : Heap} {m : Str → Option Value} {E : Value → Shared → Prop} {s : Shared} {p : List Nat} {o : Obj} {kvs : List (Str × Value)} {x : Str} {t : Tok} {v : Value}

theorem dict_nodup (h : o.IsDictOf (sK w) kvs) : (kvs.map (·.1)).Nodup := let ⟨_, _, _, _, _, _, z⟩ := h; z
theorem dict_cls (h : o.IsDictOf (sK w) kvs) : o.cls = .type "dict" := let ⟨_, _, x, _⟩ := h; x.1

theorem small_of (hd : (kvs.map (·.1)).Nodup) (hp : ∀ x v, (x, v) ∈ kvs → ∃ p, IsP p ∧ x = txt p) : kvs.length ≤ 125 := by
  have := len_of_sub (kvs.map (·.1)) allPl hd (fun x hx => by
    obtain ⟨z, hz, rfl⟩ := List.mem_map.mp hx
    obtain ⟨p, h1, h2⟩ := hp z.1 z.2 hz
    rw [h2]; exact mem_allPl h1)
  rwa [List.length_map, allPl_len] at this
theorem Inv.kv_len (I : Inv w G fa N kv mv) : kv.length ≤ 125 := let ⟨_, _, _, h⟩ := I.kin; small_of (dict_nodup h) fun x v hx => let ⟨p, h1, h2, _⟩ := I.known x v hx; ⟨p, h1, h2⟩
theorem Inv.mv_len (I : Inv w G fa N kv mv) : mv.length ≤ 125 := let ⟨_, _, _, h⟩ := I.min; small_of (dict_nodup h) fun x v hx => let ⟨p, h1, h2, _⟩ := I.moves x v hx; ⟨p, h1, h2⟩
theorem sl_of {n : Nat} (h : n ≤ 125) : n ≤ sizeLine := by rw [sizeLine_eq]; omega

def putAt (d : Addr) (o : Obj) (N : Led) : Led := (d, o) :: N.filter fun p => !(p.1 == d)
theorem mem_put {a : Addr} {o' o'' : Obj} (h : (a, o') ∈ N) (hne : a ≠ d) : (a, o') ∈ putAt d o'' N := .tail _ (List.mem_filter.mpr ⟨h, by simpa using hne⟩)

theorem set_led {Q : Unit → Shared → Prop} (F : Fr h₀ L s.heap m) (NN : News h₀ L s.heap N) (hm : (d, o) ∈ N) (hd : o.IsDictOf (sK w) kvs) (hsz : kvs.length ≤ sizeLine)
    (h : ∀ h' o', Fr h₀ L h' m → News h₀ L h' (putAt d o' N) → o'.IsDictOf (sK w) (stored kvs x v) → Q () { s with heap := h', toks := s.toks + 1 }) :
    wpAny (model PP w) A (setItem (.ref d) (.str x t) v) Q E s := by
  have hg := NN _ hm
  refine wpAny_setItem_pairs (knd := sK w) (hsz := hsz) (strKind_is _ _ _ _) (Heap.dictOf_iff.mpr ⟨o, hg.1, hd⟩) fun h' hmm hs => ?_
  obtain ⟨o', ho', hd'⟩ := Heap.dictOf_iff.mp hmm
  refine h h' o' (F.change hs hg.2.1 hg.2.2) (fun q hq => ?_) hd'
  rcases List.mem_cons.mp hq with rfl | hq
  · exact ⟨ho', hg.2⟩
  · obtain ⟨h1, h2⟩ := List.mem_filter.mp hq
    have hne : q.1 ≠ d := by simpa using h2
    exact ⟨(hs.2 _ hne).trans (NN q h1).1, (NN q h1).2⟩

theorem set_known {Q : Unit → Shared → Prop} (F : Fr h₀ L s.heap m) (NN : News h₀ L s.heap N) (I : Inv w G fa N kv mv) (hp : IsP p) (hmv : (valueAt mv (txt p)).isSome = true) (hv : KnownOK w G (G.off fa) N kv p v)
    (h : ∀ h' N', Fr h₀ L h' m → News h₀ L h' N' → Inv w G fa N' (stored kv (txt p) v) mv → (∀ a o, (a, o) ∈ N → a ≠ G.k → (a, o) ∈ N') → Q () { s with heap := h', toks := s.toks + 1 }) :
    wpAny (model PP w) A (setItem (.ref G.k) (.str (txt p) t) v) Q E s := by
  obtain ⟨ok, k1, k2, k3⟩ := id I.kin
  refine set_led F NN k1 k3 (sl_of I.kv_len) fun h' o' F' N' hd' => h h' _ F' N' ?_ fun a o x e => mem_put x e
  have hs : ∀ a o, At (G.off fa) N a o → At (G.off fa) (putAt G.k o' N) a o := fun a o x => ⟨mem_put x.1 fun e => x.2 (by rw [e]; exact .head _), x.2⟩
  obtain ⟨o, kvs, l1, l2, l3⟩ := I.links
  obtain ⟨om, m1, m2, m3⟩ := I.min
  refine ⟨I.ok, ⟨o, kvs, hs _ _ l1, l2, l3⟩, ⟨o', .head _, k2, hd'⟩, ⟨om, mem_put m1 (Ne.symm I.ok.2.2.1), m2, m3⟩, fun y u hy => ?_, fun y u hy => ?_⟩
  · rcases mem_stored hy with ⟨rfl, rfl⟩ | hy
    · exact ⟨p, hp, rfl, hmv, hv.mono (fun a o x _ => hs a o x) fun _ e => stored_isSome e⟩
    · obtain ⟨p', q1, q2, q3, q4⟩ := I.known y u hy
      exact ⟨p', q1, q2, q3, q4.mono (fun a o x _ => hs a o x) fun _ e => stored_isSome e⟩
  · obtain ⟨p', q1, q2, q3⟩ := I.moves y u hy
    exact ⟨p', q1, q2, q3.mono fun a o x _ => hs a o x⟩

theorem set_moves {Q : Unit → Shared → Prop} (F : Fr h₀ L s.heap m) (NN : News h₀ L s.heap N) (I : Inv w G fa N kv mv) (hp : IsP p) (hv : MovesOK G (G.off fa) N p v)
    (h : ∀ h' N', Fr h₀ L h' m → News h₀ L h' N' → Inv w G fa N' kv (stored mv (txt p) v) → (∀ a o, (a, o) ∈ N → a ≠ G.mv → (a, o) ∈ N') → Q () { s with heap := h', toks := s.toks + 1 }) :
    wpAny (model PP w) A (setItem (.ref G.mv) (.str (txt p) t) v) Q E s := by
  obtain ⟨om, m1, m2, m3⟩ := id I.min
  refine set_led F NN m1 m3 (sl_of I.mv_len) fun h' o' F' N' hd' => h h' _ F' N' ?_ fun a o x e => mem_put x e
  have hs : ∀ a o, At (G.off fa) N a o → At (G.off fa) (putAt G.mv o' N) a o := fun a o x => ⟨mem_put x.1 fun e => x.2 (.tail _ (by rw [e]; exact .head _)), x.2⟩
  obtain ⟨o, kvs, l1, l2, l3⟩ := I.links
  obtain ⟨ok, k1, k2, k3⟩ := I.kin
  refine ⟨I.ok, ⟨o, kvs, hs _ _ l1, l2, l3⟩, ⟨ok, mem_put k1 I.ok.2.2.1, k2, k3⟩, ⟨o', .head _, m2, hd'⟩, fun y u hy => ?_, fun y u hy => ?_⟩
  · obtain ⟨p', q1, q2, q3, q4⟩ := I.known y u hy
    exact ⟨p', q1, q2, stored_isSome q3, q4.mono (fun a o x _ => hs a o x) fun _ e => e⟩
  · rcases mem_stored hy with ⟨rfl, rfl⟩ | hy
    · exact ⟨p, hp, rfl, hv.mono fun a o x _ => hs a o x⟩
    · obtain ⟨p', q1, q2, q3⟩ := I.moves y u hy
      exact ⟨p', q1, q2, q3.mono fun a o x _ => hs a o x⟩
end
end Mine
end
section
open PySem PySem.W PySem.Calls PyProof.Rows
set_option maxRecDepth 100000
set_option maxHeartbeats 4000000
namespace Mine

structure Room (A : Around) (n : Nat) : Prop where
  hd : A.handled = none
  dp : A.depth + n ≤ 900
  un : A.units + 8 * n ≤ 9000
theorem Room.deeper {A : Around} {n : Nat} (r : Room A (n + 1)) (env : Env) : Room (A.deeper env) n :=
  ⟨r.hd, by show A.depth + 1 + n ≤ _; have := r.dp; omega, by show A.units + 3 + 8 * n ≤ _; have := r.un; omega⟩
theorem Room.le {A : Around} {n k : Nat} (r : Room A n) (h : k ≤ n) : Room A k := ⟨r.hd, by have := r.dp; omega, by have := r.un; omega⟩
theorem Room.depth {A : Around} {n : Nat} (r : Room A n) : A.depth < recursionLimit := by have := r.dp; show A.depth < 1000; omega
theorem Room.units {A : Around} {n : Nat} (r : Room A n) : A.units < cLine := by have := r.un; show A.units < 9900; omega

abbrev AX (hd : Option Value) : Around := { handled := hd, depth := 900, frames := none, guards := none, units := 9000 }
theorem wpAny_wide {α : Type} {M : Model} {A : Around} {t : Sem α} {Q : α → Shared → Prop} {E : Value → Shared → Prop} {s : Shared} (h : wpAny M (AX A.handled) t Q E s) (hd : A.depth ≤ 900) (hu : A.units ≤ 9000) : wpAny M A t Q E s :=
  fun Γ p hΓ => h Γ p ⟨hΓ.1, Nat.le_trans hΓ.2.1 hd, fun l hl => (by cases hl), fun g hg => (by cases hg), Nat.le_trans hΓ.2.2.2.2 hu⟩

theorem Fr.look {h₀ h h' : Heap} {L : Addr} {m : Str → Option Value} (F : Fr h₀ L h m) (e : ∀ b, h'.get? b = h.get? b) : Fr h₀ L h' m :=
  let ⟨o, es, ep, ho, r⟩ := F.ns; ⟨⟨o, es, ep, (e L).trans ho, r⟩, fun b o q => (e b).trans (F.keep b o q), F.above⟩
theorem News.look {h₀ h h' : Heap} {L : Addr} {N : Led} (NN : News h₀ L h N) (e : ∀ b, h'.get? b = h.get? b) : News h₀ L h' N :=
  fun q hq => ⟨(e q.1).trans (NN q hq).1, (NN q hq).2⟩
theorem txt_len (p : List Nat) : (txt p).length = p.length := by
  show ((p.map (48 + ·)).toArray).size = _
  simp
theorem txt_fits {p : List Nat} (h : p.length ≤ 100) : (txt p).length ≤ sizeLine := by rw [txt_len, sizeLine_eq]; omega
theorem IsP.len {p : List Nat} (h : IsP p) : p.length = 3 := by obtain ⟨a, b, c, rfl, _⟩ := h; rfl
theorem IsP.fits {p : List Nat} (h : IsP p) : (txt p).length ≤ sizeLine := txt_fits (by rw [h.len]; omega)
theorem field_txt {prog : Program} {w : World} {A : Around} {E : Value → Shared → Prop} {s : Shared} {x : Str} {t : Tok} {Q : Value → Shared → Prop} (hx : x.length ≤ sizeLine) (h : ∀ tk u, Q (.str x tk) { s with toks := u }) :
    wpAny (model prog w) A (formatField (.str x t) Str.empty) Q E s := wpAny_formatField_str (h _ s.toks) (h _ _) hx
def Kg (kv kv' : List (Str × Value)) : Prop := ∀ x, (valueAt kv x).isSome = true → (valueAt kv' x).isSome = true
theorem Kg.refl {kv : List (Str × Value)} : Kg kv kv := fun _ e => e
theorem Kg.trans {a b c : List (Str × Value)} (x : Kg a b) (y : Kg b c) : Kg a c := fun k e => y k (x k e)

def failT (p : List Nat) : Str := Str.ofString "<" ++ txt p ++ Str.ofString " _law_answer() failed>"
theorem failT_eq (p : List Nat) : Str.empty ++ Str.ofString "<" ++ txt p ++ Str.ofString " " ++ Str.ofString "_law_answer" ++ Str.ofString "() failed>" = failT p := by
  unfold failT
  rw [Str.empty_append, Str.append_assoc (_ ++ Str.ofString " "), Str.append_assoc (Str.ofString "<" ++ txt p) (Str.ofString " ")]
  congr 1

section
variable {w : World} {G : Gd} {fa fb : List Addr} {N N' : Led} {kv mv : List (Str × Value)} {A : Around} {L L' : Addr} {h₀ h h' : Heap} {m m' : Str → Option Value} {oL : Obj}
/-- back from a call into the caller's frame -/
theorem back (F : Fr h₀ L h m) (hL : h.get? L = some oL) (NN : News h₀ L h N) (M : Fm A L G fa fb N) (F' : Fr h₀ L' h' m') (NN' : News h₀ L' h' N') (I' : Inv w G (L :: fb) N' kv mv) (g : Gr G (L :: fa) ((L, oL) :: N) N') :
    ∃ N₂, Fr h₀ L h' m ∧ News h₀ L h' N₂ ∧ Fm A L G fa fb N₂ ∧ Inv w G fb N₂ kv mv ∧ Gr G fa N N₂ ∧ ∀ a o, At (G.off (L :: fb)) N' a o → At (G.off fb) N₂ a o := by
  have keep : ∀ p ∈ N', p.1 ≠ L → p ∈ N'.filter fun p => !(p.1 == L) := fun p hp hne => List.mem_filter.mpr ⟨hp, by simpa using hne⟩
  obtain ⟨sl, hs⟩ := g.fram L (.head _) oL (.head _)
  have gr : Gr G fa N (N'.filter fun p => !(p.1 == L)) := by
    refine ⟨fun a o x a1 a2 => keep _ (g.stab a o (.tail _ x) (fun q => ?_) a2) (NN _ x).2.1, fun a ha o x => ?_⟩
    · rcases List.mem_cons.mp q with q | q
      · exact a1 (by rw [q]; exact .head _)
      rcases List.mem_cons.mp q with q | q
      · exact a1 (by rw [q]; exact .tail _ (.head _))
      rcases List.mem_cons.mp q with q | q
      · exact (NN _ x).2.1 q
      · exact a1 (.tail _ (.tail _ q))
    · obtain ⟨sl', h2⟩ := g.fram a (.tail _ ha) o (.tail _ x)
      exact ⟨sl', keep _ h2 (NN _ x).2.1⟩
  refine ⟨_, ?_, fun q hq => ?_, M.grow gr, I'.pop keep, gr, fun a o x => ⟨keep _ x.1 fun q => x.2 (.tail _ (.tail _ (by rw [show a = L from q]; exact .head _))), fun q => ?_⟩⟩
  · obtain ⟨o, es, ep, ho, hd, r⟩ := F.ns
    rw [hL] at ho; cases ho
    exact ⟨⟨_, es, ep, NN'.get hs, hd, r⟩, F'.keep, F.above⟩
  · obtain ⟨h1, h2⟩ := List.mem_filter.mp hq
    exact ⟨(NN' q h1).1, by simpa using h2, (NN' q h1).2.2⟩
  · rcases List.mem_cons.mp q with q | q
    · exact x.2 (by rw [q]; exact .head _)
    rcases List.mem_cons.mp q with q | q
    · exact x.2 (by rw [q]; exact .tail _ (.head _))
    · exact x.2 (.tail _ (.tail _ (.tail _ q)))
end

theorem fresh_off {w : World} {G : Gd} {fa fb : List Addr} {N : Led} {kv mv : List (Str × Value)} {A : Around} {L a : Addr} {h₀ h : Heap} (NN : News h₀ L h N) (M : Fm A L G fa fb N) (I : Inv w G fb N kv mv) (ha : h.objs.size ≤ a) : a ∉ G.off fb := fun q => by
  have lt : ∀ o, (a, o) ∈ N → False := fun o x => absurd (Heap.lt_size (NN.get x)) (Nat.not_lt.mpr ha)
  obtain ⟨ok, k1, _⟩ := I.kin
  obtain ⟨om, m1, _⟩ := I.min
  rcases List.mem_cons.mp q with q | q
  · exact lt ok (q ▸ k1)
  rcases List.mem_cons.mp q with q | q
  · exact lt om (q ▸ m1)
  · obtain ⟨o, h1⟩ := M.there q
    exact lt o h1

def LinksAt (w : World) (G : Gd) (N : Led) : Prop := ∃ o kvs, (G.ln, o) ∈ N ∧ o.IsDictOf (sK w) kvs ∧ ∀ k, k ≤ 4 → ∃ v, valueAt kvs (txt [k]) = some v ∧ IsT v (txt (G.lw k))
theorem Inv.linksAt {w : World} {G : Gd} {fb : List Addr} {N : Led} {kv mv : List (Str × Value)} (I : Inv w G fb N kv mv) : LinksAt w G N :=
  let ⟨o, kvs, a, b, c⟩ := I.links; ⟨o, kvs, a.1, b, c⟩
def MovesSpec (w : World) (h₀ : Heap) (G : Gd) : Prop :=
  ∀ (p : List Nat) (A : Around) (L : Addr) (m : Str → Option Value) (N : Led) (s : Shared) (tx : Tok) (Q E : Value → Shared → Prop),
    Room A 4 → Fr h₀ L s.heap m → News h₀ L s.heap N → LinksAt w G N → Lw G.lw → IsP p →
    (∀ h' tk' l vs n, (∀ q ∈ N, q.1 < l) → Fr h₀ L h' m → News h₀ L h' ((l, { cls := .type "list", data := .seq vs.toArray n }) :: N) → Texts vs ((mvs G.lw p).map txt) → Q (.ref l) { s with heap := h', toks := tk' }) →
    wpAny (model PP w) A (call (.ref 64) [.ref G.ln, .str (txt p) tx]) Q E s

def AnsSpec (w : World) (h₀ : Heap) (G : Gd) (p : List Nat) : Prop :=
  ∀ (A : Around) (L : Addr) (m : Str → Option Value) (fa fb : List Addr) (N : Led) (kv mv : List (Str × Value)) (s : Shared) (t : Addr) (tx : Tok) (Q E : Value → Shared → Prop),
    Room A (2 * p.sum + 5) → Fr h₀ L s.heap m → News h₀ L s.heap N → Fm A L G fa fb N → Inv w G fb N kv mv → IsP p →
    (t, tupOf [.ref G.ln, .ref G.mv, .ref G.k, .str (txt p) tx]) ∈ N →
    (∀ h' N' kv' mv' tk' v, Fr h₀ L h' m → News h₀ L h' N' → Fm A L G fa fb N' → Inv w G fb N' kv' mv' → Gr G fa N N' → Kg kv kv' → Kg mv mv' → (valueAt kv' (txt p)).isSome = true →
      (nim G.g p = 0 → ∀ e, v = .ref e → ExcOK w G (G.off fb) N' e p → E v { s with heap := h', toks := tk' }) ∧ (nim G.g p ≠ 0 → IsT v (txt (ans G.lw G.g p)) → Q v { s with heap := h', toks := tk' })) →
    wpAny (model PP w) A (call (.ref 71) [.ref t]) Q E s
end Mine
end
section
open PySem PySem.W PySem.Calls PyProof.Rows
set_option maxRecDepth 100000
set_option maxHeartbeats 4000000
namespace Mine

def Rest (s s' : Shared) : Prop := ∃ h tk, s' = { s with heap := h, toks := tk }
theorem Rest.refl (s : Shared) : Rest s s := ⟨s.heap, s.toks, rfl⟩
theorem Rest.trans {s s₁ s₂ : Shared} (x : Rest s s₁) (y : Rest s₁ s₂) : Rest s s₂ := by
  obtain ⟨h, tk, rfl⟩ := x
  obtain ⟨h', tk', rfl⟩ := y
  exact ⟨h', tk', rfl⟩
theorem Rest.mk' (s : Shared) (h : Heap) (tk : Nat) : Rest s { s with heap := h, toks := tk } := ⟨h, tk, rfl⟩

section
variable {w : World} {A : Around} {E : Value → Shared → Prop} {s : Shared} {h₀ : Heap} {env : Env} {m : Str → Option Value} {N : Led} {x : Str} {px : Pos} {body : List Stmt} {R : Result → Shared → Prop}

/-- a loop over anything that walks, the ledger at hand; the iterator is one of its entries -/
theorem loop_led {I : Addr} {fp : List Addr} {n : Nat} {P : Nat → Value → Prop} {St : Nat → Heap → Prop} {T : Value} (W : Walks PP w A I fp [I] n P St)
    (hcls : ∀ i h, St i h → ∃ o, h.get? I = some o ∧ o.cls = T)
    (J : Nat → (Str → Option Value) → Led → Prop)
    (hJ : ∀ i m N N', J i m N → (∀ o, (I, o) ∈ N → o.cls = T) → (∀ a o, (a, o) ∈ N → a ≠ I → (a, o) ∈ N') → (∀ o, (I, o) ∈ N' → o.cls = T) → J i m N')
    (hx : env.kindOf x = some .local) (hk : env.scope.kind = .function)
    (F : Fr h₀ env.locals s.heap m) (NN : News h₀ env.locals s.heap N) (hfp : ∀ b ∈ fp, ∃ o, (b, o) ∈ N) (hst : St 0 s.heap) (hj : J 0 m N)
    (turn : ∀ i v s₁ m₁ N₁, i < n → P i v → J i m₁ N₁ → Fr h₀ env.locals s₁.heap (fun y => if y = x then some v else m₁ y) → News h₀ env.locals s₁.heap N₁ → (∀ b ∈ fp, ∃ o, (b, o) ∈ N₁) → (∀ b ∈ fp, b ≠ I → ∀ o, (b, o) ∈ N → (b, o) ∈ N₁) → (∀ o, (I, o) ∈ N₁ → o.cls = T) → Rest s s₁ →
      wpAny (model PP w) A (execs body env) (fun f s₃ => match f with
        | .next | .cont => Rest s s₃ ∧ ∃ m₃ N₃, Fr h₀ env.locals s₃.heap m₃ ∧ News h₀ env.locals s₃.heap N₃ ∧ (∀ b ∈ fp, ∀ o, (b, o) ∈ N₁ → (b, o) ∈ N₃) ∧ J (i + 1) m₃ N₃
        | .brk => R (.ok .next) s₃
        | .ret v => R (.ok (.ret v)) s₃) (fun _ _ => False) s₁)
    (done : ∀ s₁ m₁ N₁, J n m₁ N₁ → Fr h₀ env.locals s₁.heap m₁ → News h₀ env.locals s₁.heap N₁ → Rest s s₁ → R (.ok .next) s₁) :
    codeAny (model PP w) A (.forLoop (.Name x px) (.ref I) body [] env) R s := by
  have hp : (env.scope.kind == .class || (env.scope.kind == .module && env.locals != env.globals)) = false := by rw [hk]; rfl
  have step : ∀ (s' : Shared) (m' : Str → Option Value) (N' : Led) (i : Nat) (h' : Heap), Fr h₀ env.locals s'.heap m' → News h₀ env.locals s'.heap N' → (∀ o, (I, o) ∈ N' → o.cls = T) → (∃ o, (I, o) ∈ N') →
      (∀ b o, b ∉ [I] → s'.heap.get? b = some o → h'.get? b = some o) → (∃ o, h'.get? I = some o ∧ o.cls = T) → J i m' N' →
      Fr h₀ env.locals h' m' ∧ News h₀ env.locals h' (reread h' N') ∧ J i m' (reread h' N') ∧ (∀ o, (I, o) ∈ reread h' N' → o.cls = T) := by
    intro s' m' N' i h' F' NN' hc hin hk' ho hJ'
    obtain ⟨oi, hoi⟩ := hin
    obtain ⟨o', ho', hc'⟩ := ho
    have IL : I ≠ env.locals := (NN' _ hoi).2.1
    have keepN : ∀ a o, (a, o) ∈ N' → a ≠ I → h'.get? a = some o := fun a o q hne => hk' a o (by simpa using hne) (NN'.get q)
    have there : ∀ a o, (a, o) ∈ N' → ∃ o', h'.get? a = some o' := fun a o q => by
      by_cases e : a = I
      · exact ⟨o', e ▸ ho'⟩
      · exact ⟨o, keepN a o q e⟩
    have cI : ∀ o, (I, o) ∈ reread h' N' → o.cls = T := fun o q => by
      obtain ⟨r, hr, e⟩ := List.mem_map.mp q
      cases e
      rw [ho']; exact hc'
    refine ⟨⟨F'.ns.at fun o e => hk' _ o (by simpa using Ne.symm IL) e, fun b o e => hk' b o (fun q => ?_) (F'.keep b o e), F'.above⟩, fun q hq => ?_, hJ i m' N' _ hJ' hc (fun a o q hne => mem_reread q (keepN a o q hne)) cI, cI⟩
    · have := (NN' _ hoi).2.2
      rw [← List.mem_singleton.mp q, e] at this; cases this
    · obtain ⟨r, hr, rfl⟩ := List.mem_map.mp hq
      obtain ⟨o₂, h₂⟩ := there r.1 r.2 hr
      exact ⟨by simp [h₂], (NN' _ hr).2⟩
  refine codeAny_forLoop (fun k s' => ∃ i m' N', Rest s s' ∧ Fr h₀ env.locals s'.heap m' ∧ News h₀ env.locals s'.heap N' ∧ (∀ b ∈ fp, ∃ o, (b, o) ∈ N') ∧ (∀ b ∈ fp, b ≠ I → ∀ o, (b, o) ∈ N → (b, o) ∈ N') ∧ (∃ o, (I, o) ∈ N') ∧ St i s'.heap ∧ J i m' N' ∧ i ≤ n ∧ k = n + 1 - i) ?_ (n + 1)
    ⟨0, m, N, .refl s, F, NN, hfp, (fun _ _ _ _ q => q), ?_, hst, hj, Nat.zero_le _, rfl⟩
  · rintro k s' ⟨i, m', N', rs, F', NN', hfp', hold', hin', hst', hJ', hi, rfl⟩
    have hc' : ∀ o, (I, o) ∈ N' → o.cls = T := fun o q => by
      obtain ⟨o₂, h1, h2⟩ := hcls _ _ hst'
      rw [NN'.get q] at h1
      cases h1; exact h2
    by_cases hlt : i < n
    · refine W.item i _ _ _ hlt hst' fun v h' tk hP hst₁ hk₁ => ?_
      obtain ⟨F₁, NN₁, J₁, c₁⟩ := step s' m' N' i h' F' NN' hc' hin' hk₁ (hcls _ _ hst₁) hJ'
      refine wpAny_assign_Name (wpAny_storeName_local hx F₁.ns (fun h₂ hn₂ hs₂ => ?_) hp)
      have F₂ : Fr h₀ env.locals h₂ (fun y => if y = x then some v else m' y) := F₁.set hn₂ hs₂
      have NN₂ : News h₀ env.locals h₂ (reread h' N') := NN₁.set hs₂
      have hfp₂ : ∀ b ∈ fp, ∃ o, (b, o) ∈ reread h' N' := fun b hb => by
        obtain ⟨o, ho⟩ := hfp' b hb
        exact ⟨_, List.mem_map.mpr ⟨_, ho, rfl⟩⟩
      have hold₂ : ∀ b ∈ fp, b ≠ I → ∀ o, (b, o) ∈ N → (b, o) ∈ reread h' N' := fun b hb hne o ho => mem_reread (hold' b hb hne o ho) (hk₁ b o (by simpa using hne) (NN'.get (hold' b hb hne o ho)))
      have st₂ : St (i + 1) h₂ := W.frame _ _ _ hst₁ fun b hb o e => (hs₂.2 b fun q => by
        obtain ⟨o₂, ho₂⟩ := hfp' b hb
        exact (NN' _ ho₂).2.1 q).trans e
      have rs₂ : Rest s { s' with heap := h₂, toks := tk + 1 } := rs.trans (.mk' s' h₂ (tk + 1))
      refine wpAny_mono (turn i v _ m' _ hlt hP J₁ F₂ NN₂ hfp₂ hold₂ c₁ rs₂) (fun f s₃ h₃ => ?_) fun _ _ f => f.elim
      have next : (Rest s s₃ ∧ ∃ m₃ N₃, Fr h₀ env.locals s₃.heap m₃ ∧ News h₀ env.locals s₃.heap N₃ ∧ (∀ b ∈ fp, ∀ o, (b, o) ∈ reread h' N' → (b, o) ∈ N₃) ∧ J (i + 1) m₃ N₃) →
          ∃ m, m < n + 1 - i ∧ ∃ j m' N', Rest s s₃ ∧ Fr h₀ env.locals s₃.heap m' ∧ News h₀ env.locals s₃.heap N' ∧ (∀ b ∈ fp, ∃ o, (b, o) ∈ N') ∧ (∀ b ∈ fp, b ≠ I → ∀ o, (b, o) ∈ N → (b, o) ∈ N') ∧ (∃ o, (I, o) ∈ N') ∧ St j s₃.heap ∧ J j m' N' ∧ j ≤ n ∧ m = n + 1 - j := by
        rintro ⟨rs₃, m₃, N₃, F₃, NN₃, hf₃, J₃⟩
        refine ⟨n + 1 - (i + 1), by omega, i + 1, m₃, N₃, rs₃, F₃, NN₃, fun b hb => ?_, fun b hb hne o ho => hf₃ b hb o (hold₂ b hb hne o ho), ?_, ?_, J₃, hlt, rfl⟩
        · obtain ⟨o, ho⟩ := hfp₂ b hb
          exact ⟨o, hf₃ b hb o ho⟩
        · obtain ⟨o, ho⟩ := hfp₂ I (W.sub I (.head _))
          exact ⟨o, hf₃ I (W.sub I (.head _)) o ho⟩
        · refine W.frame _ _ _ st₂ fun b hb o e => ?_
          obtain ⟨o₂, ho₂⟩ := hfp₂ b hb
          have e₂ := NN₂.get ho₂
          have : h₂.get? b = some o := e
          rw [e₂] at this
          cases this
          exact NN₃.get (hf₃ b hb _ ho₂)
      cases f with
      | next => exact next h₃
      | cont => exact next h₃
      | brk => exact h₃
      | ret v => exact h₃
    · have hin : i = n := by omega
      subst hin
      refine W.done _ _ _ hst' fun h' tk hk₁ => wpAny_execs_nil ?_
      by_cases q : ∃ o, h'.get? I = some o ∧ o.cls = T
      · obtain ⟨F₁, NN₁, J₁, _⟩ := step s' m' N' i h' F' NN' hc' hin' hk₁ q hJ'
        exact done _ m' _ J₁ F₁ NN₁ (rs.trans (.mk' s' h' tk))
      · have IL : I ≠ env.locals := let ⟨_, ho⟩ := hin'; (NN' _ ho).2.1
        have F₁ : Fr h₀ env.locals h' m' := ⟨F'.ns.at fun o e => hk₁ _ o (by simpa using Ne.symm IL) e, fun b o e => hk₁ b o (fun q => by
          obtain ⟨oi, hoi⟩ := hin'
          have := (NN' _ hoi).2.2
          rw [← List.mem_singleton.mp q, e] at this; cases this) (F'.keep b o e), F'.above⟩
        have NN₁ : News h₀ env.locals h' (N'.filter fun p => !(p.1 == I)) := fun r hr => by
          obtain ⟨h1, h2⟩ := List.mem_filter.mp hr
          exact ⟨hk₁ _ _ (by simpa using h2) (NN' r h1).1, (NN' r h1).2⟩
        refine done _ m' _ (hJ i m' N' _ hJ' hc' (fun a o q hne => List.mem_filter.mpr ⟨q, by simpa using hne⟩) fun o q => ?_) F₁ NN₁ (rs.trans (.mk' s' h' tk))
        have := (List.mem_filter.mp q).2
        simp at this
  · exact hfp I (W.sub I (.head _))

/-- a loop over a list of the ledger -/
theorem loop_list {l : Addr} {lo : Obj} {vs : List Value} {nn : Nat} (hh : A.handled = none)
    (J : Addr → Nat → (Str → Option Value) → Led → Prop)
    (hJ : ∀ I i m N N', J I i m N → (∀ o, (I, o) ∈ N → o.cls = .type "list_iterator") → (∀ a o, (a, o) ∈ N → a ≠ I → (a, o) ∈ N') → (∀ o, (I, o) ∈ N' → o.cls = .type "list_iterator") → J I i m N')
    (hx : env.kindOf x = some .local) (hk : env.scope.kind = .function)
    (F : Fr h₀ env.locals s.heap m) (NN : News h₀ env.locals s.heap N) (hl : (l, lo) ∈ N) (hlo : lo = { cls := .type "list", data := .seq vs.toArray nn })
    (hj : ∀ I oI, (∀ p ∈ N, p.1 < I) → s.heap.objs.size ≤ I → J I 0 m ((I, oI) :: N))
    (turn : ∀ I i v s₁ m₁ N₁, vs[i]? = some v → J I i m₁ N₁ → Fr h₀ env.locals s₁.heap (fun y => if y = x then some v else m₁ y) → News h₀ env.locals s₁.heap N₁ → (l, lo) ∈ N₁ → (∃ o, (I, o) ∈ N₁ ∧ o.cls = .type "list_iterator") → Rest s s₁ →
      wpAny (model PP w) A (execs body env) (fun f s₃ => match f with
        | .next | .cont => Rest s s₃ ∧ ∃ m₃ N₃, Fr h₀ env.locals s₃.heap m₃ ∧ News h₀ env.locals s₃.heap N₃ ∧ (∀ b, b = I ∨ b = l → ∀ o, (b, o) ∈ N₁ → (b, o) ∈ N₃) ∧ J I (i + 1) m₃ N₃
        | .brk => R (.ok .next) s₃
        | .ret v => R (.ok (.ret v)) s₃) (fun _ _ => False) s₁)
    (done : ∀ I s₁ m₁ N₁, J I vs.length m₁ N₁ → Fr h₀ env.locals s₁.heap m₁ → News h₀ env.locals s₁.heap N₁ → Rest s s₁ → R (.ok .next) s₁) :
    wpAny (model PP w) A (pyIter (.ref l)) (fun it s₂ => codeAny (model PP w) A (.forLoop (.Name x px) it body [] env) R s₂) E s := by
  have hL : s.heap.IsList l vs.toArray := ⟨lo, NN.get hl, by rw [hlo], nn, by rw [hlo]⟩
  refine wpAny_pyIter_list hL ?_
  have hlt : ∀ p ∈ N, p.1 < s.heap.objs.size := fun p hp => Heap.lt_size (NN p hp).1
  have hne : l ≠ s.heap.objs.size := Nat.ne_of_lt (hlt _ hl)
  have hsz : vs.toArray.size = vs.length := by simp
  have W := Walks.list (prog := PP) (w := w) hh s.heap.objs.size l hne vs.toArray
  rw [hsz] at W
  have N₁ := NN.push F { cls := .type "list_iterator", data := .fields #[.ref l, .int 0 0] }
  refine loop_led (T := .type "list_iterator") W (fun i h st => let ⟨o, ho, hc, _⟩ := st.1; ⟨o, ho, hc⟩) (J s.heap.objs.size) (hJ _) hx hk (F.push _) N₁ (fun b hb => ?_)
    ⟨⟨_, Heap.get?_push_size _ rfl, rfl, rfl⟩, hL.push _⟩ (hj _ _ hlt (Nat.le_refl _)) (fun i v s₁ m₁ N₁ hi hP hJ₁ F₁ NN₁ hfp₁ hold₁ hc₁ rs => ?_) fun s₁ m₁ N₁ hJ₁ F₁ NN₁ rs => done _ s₁ m₁ N₁ hJ₁ F₁ NN₁ ((Rest.mk' s _ _).trans rs)
  · rcases List.mem_cons.mp hb with rfl | hb
    · exact ⟨_, .head _⟩
    · rw [List.mem_singleton.mp hb]
      exact ⟨lo, .tail _ hl⟩
  · obtain ⟨oI, hoI⟩ := hfp₁ _ (.head _)
    refine wpAny_mono (turn _ i v s₁ m₁ N₁ (by simpa using hP) hJ₁ F₁ NN₁ (hold₁ l (.tail _ (.head _)) hne lo (.tail _ hl)) ⟨oI, hoI, hc₁ _ hoI⟩ ((Rest.mk' s _ _).trans rs)) (fun f s₃ h₃ => ?_) fun _ _ f => f.elim
    have next : (Rest s s₃ ∧ ∃ m₃ N₃, Fr h₀ env.locals s₃.heap m₃ ∧ News h₀ env.locals s₃.heap N₃ ∧ (∀ b, b = s.heap.objs.size ∨ b = l → ∀ o, (b, o) ∈ N₁ → (b, o) ∈ N₃) ∧ J s.heap.objs.size (i + 1) m₃ N₃) →
        (Rest { s with heap := s.heap.push { cls := .type "list_iterator", data := .fields #[.ref l, .int 0 0] } } s₃ ∧ ∃ m₃ N₃, Fr h₀ env.locals s₃.heap m₃ ∧ News h₀ env.locals s₃.heap N₃ ∧ (∀ b ∈ [s.heap.objs.size, l], ∀ o, (b, o) ∈ N₁ → (b, o) ∈ N₃) ∧ J s.heap.objs.size (i + 1) m₃ N₃) := by
      rintro ⟨⟨h, tk, rfl⟩, m₃, N₃, F₃, NN₃, hf, hJ₃⟩
      refine ⟨⟨h, tk, rfl⟩, m₃, N₃, F₃, NN₃, fun b hb => hf b ?_, hJ₃⟩
      rcases List.mem_cons.mp hb with e | hb
      · exact .inl e
      · exact .inr (List.mem_singleton.mp hb)
    cases f with
    | next => exact next h₃
    | cont => exact next h₃
    | brk => exact h₃
    | ret v => exact h₃
end
end Mine
end
section
open PySem PySem.W PySem.Calls PyProof.Rows PySem.W.X
set_option maxRecDepth 100000
set_option maxHeartbeats 0
namespace Mine
local macro_rules | `(tactic| x_close) => `(tactic| ((rename (∀ (x : Str) (u v : Nat), _ → _) => hq); exact hq _ _ _ (by decide +kernel)))
theorem getat {w : World} {s : Shared} (KX : (hd.heap_39 w.params).In s.heap) {hd : Option Value} {tk : Tok} {Q E : Value → Shared → Prop} (hQ : ∀ (x : Str) (u v : Nat), x = Str.ofString "_law_answer" → Q (.str x u) { s with toks := v }) :
    wpAny (model PP w) (AX hd) (call (.builtin "object.__getattribute__") [.ref 71, .str (Str.ofString "__name__") tk]) Q E s := by
  x_run
end Mine
namespace Mine
theorem slot_fn_ga : Slot "function" "__getattribute__" "object.__getattribute__" :=
  .of (owner := "object") (n := "__getattribute__") (by rw [typeLookup_type, builtinLookup_eq_fast]; kernel_rfl) (by decide +kernel) (by decide +kernel) (by decide +kernel)
    (by first | exact .inl (by decide +kernel) | exact .inr (by decide +kernel)) (by rw [isSubtype_type]; kernel_rfl)
theorem fn_name {w : World} {s : Shared} {A : Around} {expr : Bool} (X : (hd.heap_39 w.params).In s.heap) (hd : A.depth ≤ 900) (hu : A.units ≤ 9000) {Q E : Value → Shared → Prop} (hQ : ∀ (u v : Nat), Q (.str (Str.ofString "_law_answer") u) { s with toks := v }) :
    wpAny (model PP w) A (getAttr (.ref 71) (Str.ofString "__name__") expr) Q E s := by
  unfold getAttr
  refine wpAny_bind (wpAny_mkText ?_)
  unfold getAttrBy
  refine wpAny_holding (wpAny_bind (Looks.here (s := { s with toks := s.toks + 1 }) (looks_typeIn X (v := .ref 71) (t := .type "function") (by k_is)) ?_))
  refine wpAny_bind (wpAny_of_eq slot_fn_ga.lookup ?_)
  show wpAny _ A (getAttrByItsOwn (.ref 71) (.str (Str.ofString "__name__") s.toks) (.type "function") (.builtin "object.__getattribute__") true expr) Q E { s with toks := s.toks + 1 }
  unfold getAttrByItsOwn
  refine wpAny_bind (m := hookBefore (.type "function")) (wpAny_pure ?_)
  refine wpAny_bind (wpAny_attempt (wpAny_holding ?_))
  have e : callGetattribute (.ref 71) (.str (Str.ofString "__name__") s.toks) (.builtin "object.__getattribute__") expr = boundAndCalled (.builtin "object.__getattribute__") (.ref 71) (.str (Str.ofString "__name__") s.toks) := by
    cases expr <;> rfl
  rw [e]
  unfold boundAndCalled
  refine wpAny_bind (wpAny_of_eq (slot_fn_ga.bind _) ?_)
  refine wpAny_wide ?_ hd hu
  refine getat (s := { s with toks := s.toks + 1 }) X fun x u v e => ?_
  subst e
  exact wpAny_pure (hQ _ _)
end Mine
end
section
open PySem PySem.W PySem.Calls PyProof.Rows PySem.W.X
set_option maxRecDepth 100000
set_option maxHeartbeats 4000000
namespace Mine
theorem raise_exc {w : World} {A : Around} {E : Value → Shared → Prop} {s : Shared} {env : Env} {x : Sem Value} {Q : Flow → Shared → Prop} (hh : A.handled = none)
    (h : wpAny (model PP w) A x (fun v s₁ => ∃ e oe vs head, v = .ref e ∧ (hd.heap_39 w.params).In s₁.heap ∧ s₁.heap.get? e = some oe ∧ oe.cls = .ref 52 ∧ oe.data = .fields vs ∧ vs[1]? = some head ∧ HeadOk s₁.heap e head ∧
      ∀ h', (∀ b, h'.get? b = s₁.heap.get? b) → E (.ref e) { s₁ with heap := h' }) E s) :
    wpAny (model PP w) A (raiseStmt env (some x) none) Q E s := by
  unfold raiseStmt
  refine wpAny_bind (wpAny_mono h (fun v s₁ h₁ => ?_) fun _ _ x => x)
  obtain ⟨e, oe, vs, head, rfl, X, he, hc, hdt, h1, hH, hE⟩ := h₁
  refine wpAny_bind (wpAny_pure ?_)
  refine wpAny_bind (wpAny_holding ?_)
  obtain ⟨c, od, dt, sl⟩ := oe
  dsimp only at hc hdt
  subst hc hdt
  have hsub := looks_subIn (M := model PP w) X (t := .ref 52) (base := .type "BaseException") (r := true) (by k_is)
  have hty := looks_typeIn (M := model PP w) X (v := .ref 52) (t := .type "type") (by k_is)
  repeat (first | with_reducible refine wpAny_loadPart_at he ?_ | with_reducible refine Looks.here hsub ?_ | with_reducible refine Looks.here hty ?_ | wp_step)
  rw [h1]
  refine wpAny_pure ?_
  rcases hH with rfl | ⟨T, oT, ts, rfl, hTe, hT, hdT, h3⟩
  · rw [if_neg (by decide)]
    exact wpAny_pure (wpAny_raiseNew_none hh (hE _ fun _ => rfl))
  · rw [if_pos (show (Value.ref T != Value.none) = true from by simp)]
    exact wpAny_setField hT hdT (Array.getElem?_eq_some_iff.mp h3).1 (wpAny_raiseNew_none hh (hE _ (get_update_same (f := Obj.mapFields (·.setIfInBounds 3 Value.none)) hT (mapFields_same hdT (setIf_same h3)))))
theorem exec_raise {w : World} {A : Around} {E : Value → Shared → Prop} {s : Shared} {env : Env} {x : PySem.Expr} {pos : Pos} {Q : Flow → Shared → Prop} (hh : A.handled = none)
    (h : wpAny (model PP w) A (eval x env) (fun v s₁ => ∃ e oe vs head, v = .ref e ∧ (hd.heap_39 w.params).In s₁.heap ∧ s₁.heap.get? e = some oe ∧ oe.cls = .ref 52 ∧ oe.data = .fields vs ∧ vs[1]? = some head ∧ HeadOk s₁.heap e head ∧
      ∀ h', (∀ b, h'.get? b = s₁.heap.get? b) → E (.ref e) { s₁ with heap := h' }) E s) :
    wpAny (model PP w) A (exec (.Raise (some x) none pos) env) Q E s := by
  rw [arm_exec_Raise]
  refine wpAny_bind (wpAny_standAt ?_)
  show wpAny _ A (raiseStmt env (some (do let v ← eval x env; standAt pos; pure v)) none) Q E s
  refine raise_exc hh (wpAny_bind (wpAny_mono h (fun v s₁ h₁ => wpAny_bind (wpAny_standAt (wpAny_pure h₁))) fun _ _ x => x))

/-- isinstance of an exception of the memo -/
local macro_rules | `(tactic| x_close) => `(tactic| ((rename (∀ (u : Nat), _) => hq); exact hq _))
theorem isi_exc {w : World} {s : Shared} (KX : (hd.heap_39 w.params).In s.heap) {hd : Option Value} {e : Addr} {od : Option Addr} {vs : Array Value} {sl : Array (Option Value)}
    (he : s.heap.get? e = some ⟨.ref 52, od, .fields vs, sl⟩) {Q E : Value → Shared → Prop} (hQ : ∀ (u : Nat), Q (.bool true) { s with toks := u }) :
    wpAny (model PP w) (AX hd) (call (.builtin "isinstance") [.ref e, .ref 52]) Q E s := by
  x_run
end Mine
end
section
open PySem PySem.W PySem.Calls PyProof.Rows
set_option maxRecDepth 100000
set_option maxHeartbeats 4000000
namespace Mine
section
variable {prog : Program} {w : World} {A : Around} {E : Value → Shared → Prop} {s : Shared} {K : Frag} {h₀ : Heap} {L : Addr} {m : Str → Option Value} {N : List (Addr × Obj)}
/-- a call of a def with cells, the ground staying as it is -/
theorem callFC {R : Result → Shared → Prop} {name qual : Str} {params : Arguments} {body : List Stmt} {scope : Scope} {dV kV doc pm cdv ct oc : Value} {an od : Option Addr} {osl : Array (Option Value)} {f : Addr} {args : Args} {binds : List (Str × Value)}
    (F : Fr h₀ L s.heap m) (X : K.In h₀) (NN : News h₀ L s.heap N) (hlim : h₀.NoLimit)
    (ho : K.lookup f = some ⟨oc, od, .func (fnOf name qual params body scope dV kV doc pm an cdv ct), osl⟩) (hcd : codeIn K cdv qual = true) (hroom : A.depth < recursionLimit)
    (hbind : BindsTo s (fnOf name qual params body scope dV kV doc pm an cdv ct) args binds) (hkind : (binds.all fun y => scope.names.lookup y.1 == some .local || scope.names.lookup y.1 == some .cell) = true)
    (hnd : ((cellsFrom 0 scope.names []).map (·.1)).Nodup)
    (h : ∀ L' h₁ tk oL cells, s.heap.get? L = some oL → Fr h₀ L' h₁ (bindL (envOfC qual scope L' f cdv).kindOf binds fun _ => none) → News h₀ L' h₁ (cells ++ (L, oL) :: N) →
      CellsAre (bindC (envOfC qual scope L' f cdv).kindOf binds fun _ => none) (cellsFrom (L' + 1) scope.names []) cells → (∀ p ∈ (L, oL) :: N, p.1 < L') →
      wpAny (model prog w) (A.deeper (envOfC qual scope L' f cdv)) (execs body (envOfC qual scope L' f cdv))
        (fun fl s' => R (.ok (.ret (match fl with | .ret v => v | _ => .none))) s')
        (fun e s' => wpAny (model prog w) (A.deeper (envOfC qual scope L' f cdv)) (leaving (envOfC qual scope L' f cdv) e) (fun _ s'' => R (.error e) s'') (fun e' s'' => R (.error e') s'') s')
        { s with heap := h₁, toks := tk })
    (hco : scope.isCoroutine = false := by rfl) (hgen : scope.isGenerator = false := by rfl) (hk : scope.kind = .function := by rfl) : codeAny (model prog w) A (.call (.ref f) args) R s := by
  obtain ⟨oL, es, ep, hL, hLr⟩ := id F.ns
  refine codeAny_call_function hroom (F.keep _ _ (X _ _ ho)) rfl hco hgen rfl (codeRec_of (X.keeps F.keep) hcd) (hbind _ _ _ _ ?_)
  refine wpAny_newFunctionEnv_cells hk (kindsX hkind _) fun env' he s' x => ?_
  subst he
  refine ⟨(hlim.keeps F.keep).keeps x.toInCall.keep, codeAny_func ?_⟩
  obtain ⟨h₁, tk, rfl, _⟩ := x.done
  have hk₁ := x.toInCall.keep
  obtain ⟨cells, NC, Y⟩ := Cl.news (h₀ := s.heap) (Nat.le_refl _) fun n c hm => ⟨x.cell n c (lookup_of_mem_nodup (cellsFrom_names scope.names 0 (s.heap.objs.size + 1) [] [] rfl ▸ hnd) hm), x.above n c hm⟩
  refine h s.heap.objs.size h₁ tk oL cells hL ⟨x.toInCall.ns, fun b o e => hk₁ b o (F.keep b o e), Nat.le_of_lt (Nat.lt_of_le_of_lt F.above (Heap.lt_size hL))⟩ (fun p hp => ?_) Y (fun p hp => ?_)
  · rcases List.mem_append.mp hp with hp | hp
    · refine ⟨(NC p hp).1, (NC p hp).2.1, ?_⟩
      cases q : h₀.get? p.1 with
      | none => rfl
      | some o => have := F.keep _ _ q; rw [(NC p hp).2.2] at this; cases this
    · rcases List.mem_cons.mp hp with rfl | hp
      · exact ⟨hk₁ _ _ hL, Nat.ne_of_lt (Heap.lt_size hL), Fr.L_fresh F⟩
      · exact ⟨hk₁ _ _ (NN p hp).1, Nat.ne_of_lt (Heap.lt_size (NN p hp).1), (NN p hp).2.2⟩
  · rcases List.mem_cons.mp hp with rfl | hp
    · exact Heap.lt_size hL
    · exact Heap.lt_size (NN p hp).1
end
end Mine
end
section
open PySem PySem.W PySem.Calls PyProof.Rows PySem.W.X
set_option maxRecDepth 100000
set_option maxHeartbeats 0
namespace Mine
def recEntry (w : World) (tab : Addr) (tk : Tok) (n : Nat) : Obj := { cls := .type "dict", data := .dict #[⟨PyData.keyHash w.params (Str.ofString "recipients"), .str (Str.ofString "recipients") tk, .ref tab⟩] n }
theorem cond_ite {α : Type} (b : Bool) (x y : α) : condFn α b x y = if b = true then x else y := by cases b <;> rfl
theorem xw_eq (i : Int) : XFast.xw12210062019545310541 i = reduceHash i := by
  unfold XFast.xw12210062019545310541 reduceHash
  simp only [cond_ite, beq_iff_eq]
  congr
theorem rec_hash (w : World) : condFn Int (Str.ofString "recipients").cps.isEmpty 0 (XFast.xw12210062019545310541 (w.params.strHash (Str.ofString "recipients").cps)) = PyData.keyHash w.params (Str.ofString "recipients") := by
  rw [xw_eq]
  rfl
theorem rec_eq (w : World) (tab : Addr) (tk : Tok) (n : Nat) : ({ cls := .type "dict", data := .dict #[⟨condFn Int (Str.ofString "recipients").cps.isEmpty 0 (XFast.xw12210062019545310541 (w.params.strHash (Str.ofString "recipients").cps)), .str (Str.ofString "recipients") tk, .ref tab⟩] n } : Obj) = recEntry w tab tk n := by
  unfold recEntry
  rw [rec_hash]
local macro_rules | `(tactic| x_close) => `(tactic| ((rename Mem _ _ _ _ => dD); (rename (∀ (h' : Heap), _) => hq); (apply hq); all_goals (first | exact (fun b o x => dD.keep b o x (by simp [away])) | exact (dD.nw _ (.tail _ (.tail _ (.tail _ (.head _))))) | exact (dD.nw _ (.tail _ (.head _))).2 | exact ((dD.nw _ (.tail _ (.head _))).1.trans (congrArg some (rec_eq _ _ _ _))) | rfl)))
theorem make_exc {w : World} {s : Shared} (KX : (hd.heap_39 w.params).In s.heap) {hd : Option Value} {tab : Addr} {Q E : Value → Shared → Prop}
    (hQ : ∀ (h' : Heap) (tk' : Nat) (e dx : Addr) (vs : Array Value) (tk : Tok) (n : Nat), (∀ b o, s.heap.get? b = some o → h'.get? b = some o) →
      (h'.get? e = some { cls := .ref 52, dict := some dx, data := .fields vs } ∧ s.heap.get? e = none) → vs[1]? = some .none → h'.get? dx = some (recEntry w tab tk n) → s.heap.get? dx = none → Q (.ref e) { s with heap := h', toks := tk' }) :
    wpAny (model PP w) (AX hd) (call (.ref 52) [.ref tab]) Q E s := by
  x_run
end Mine
end
section
open PySem PySem.W PySem.Calls PyProof.Rows PySem.W.X
set_option maxRecDepth 100000
set_option maxHeartbeats 0
namespace Mine
local macro_rules | `(tactic| x_close) => `(tactic| ((rename (∀ (u : Nat), _) => hq); exact hq _))
theorem getrec_x {w : World} {s : Shared} (KX : (hd.heap_39 w.params).In s.heap) {hd : Option Value} {e dx tab : Addr} {tk tk' : Tok} {n : Nat} {hh : Int} {vs : Array Value}
    (he : s.heap.get? e = some ⟨.ref 52, some dx, .fields vs, #[]⟩) (hdx : s.heap.get? dx = some ⟨.type "dict", none, .dict #[⟨hh, .str (Str.ofString "recipients") tk', .ref tab⟩] n, #[]⟩) {Q E : Value → Shared → Prop} (hQ : ∀ (u : Nat), Q (.ref tab) { s with toks := u }) :
    wpAny (model PP w) (AX hd) (call (.builtin "BaseException.__getattribute__") [.ref e, .str (Str.ofString "recipients") tk]) Q E s := by
  x_run
end Mine
end
section
open PySem PySem.W PySem.Calls PyProof.Rows
set_option maxRecDepth 100000
set_option maxHeartbeats 4000000
namespace Mine
theorem slot_exc_ga : Slot "BaseException" "__getattribute__" "BaseException.__getattribute__" :=
  .of (owner := "BaseException") (n := "__getattribute__") (by rw [typeLookup_type, builtinLookup_eq_fast]; kernel_rfl) (by decide +kernel) (by decide +kernel) (by decide +kernel)
    (by first | exact .inl (by decide +kernel) | exact .inr (by decide +kernel)) (by rw [isSubtype_type]; kernel_rfl)
theorem get_rec {w : World} {A : Around} {E : Value → Shared → Prop} {s : Shared} {expr : Bool} {Q : Value → Shared → Prop} {e dx tab : Addr} {vs : Array Value} {tk : Tok} {n : Nat} {hh : Int} (X : (hd.heap_39 w.params).In s.heap) (hdp : A.depth ≤ 900) (hu : A.units ≤ 9000)
    (he : s.heap.get? e = some ⟨.ref 52, some dx, .fields vs, #[]⟩) (hdx : s.heap.get? dx = some ⟨.type "dict", none, .dict #[⟨hh, .str (Str.ofString "recipients") tk, .ref tab⟩] n, #[]⟩) (h : ∀ u, Q (.ref tab) { s with toks := u }) :
    wpAny (model PP w) A (getAttr (.ref e) (Str.ofString "recipients") expr) Q E s := by
  have ht : Looks (model PP w) s.heap (typeOf (.ref e)) (.ref 52) := (Looks.ld he).andThen .now
  have hga : findIn (hd.heap_39 w.params) (.ref 52) "__getattribute__" = some (some (.builtin "BaseException.__getattribute__")) := by k_is
  have hgr : findIn (hd.heap_39 w.params) (.ref 52) "__getattr__" = some none := by k_is
  have hb : Looks (model PP w) s.heap (hookBefore (.ref 52)) none := looks_hook X ((if_pos (by decide : onTheHeap (.ref 52) = true)).trans hgr)
  refine wpAny_bind (wpAny_mkText (wpAny_holding (wpAny_bind (ht _ _ _ _ (fun _ _ e => e) (wpAny_bind (looks_findIn X hga _ _ _ _ (fun _ _ e => e) ?_))))))
  dsimp only
  rw [show (onTheHeap (.ref 52) && Value.builtin "BaseException.__getattribute__" == Value.builtin "object.__getattribute__") = false from by rw [show (Value.builtin "BaseException.__getattribute__" == Value.builtin "object.__getattribute__") = false from by decide +kernel, Bool.and_false], if_neg (by decide)]
  refine wpAny_bind (hb _ _ _ _ (fun _ _ e => e) (wpAny_bind (wpAny_attempt (wpAny_holding ?_))))
  unfold callGetattribute
  rw [show (expr && onTheHeap (Value.builtin "BaseException.__getattribute__")) = false from Bool.and_false _, if_neg (by decide)]
  unfold boundAndCalled
  rw [slot_exc_ga.bind]
  refine wpAny_bind (wpAny_pure ?_)
  refine wpAny_wide (getrec_x (s := { s with toks := s.toks + 1 }) X he hdx fun u => ?_) hdp hu
  exact wpAny_pure (h _)
theorem exc_match {w : World} {A : Around} {E : Value → Shared → Prop} {s : Shared} {Q : Bool → Shared → Prop} {e : Addr} {oe : Obj} (X : (hd.heap_39 w.params).In s.heap)
    (he : s.heap.get? e = some oe) (hc : oe.cls = .ref 52) (hq : Q true s) : wpAny (model PP w) A (excMatches (.ref e) (.ref 52)) Q E s := by
  have h1 := looks_subIn (M := model PP w) X (t := .ref 52) (base := .type "BaseException") (r := true) (by k_is)
  have h2 := looks_typeIn (M := model PP w) X (v := .ref 52) (t := .type "type") (by k_is)
  have h3 := looks_subIn (M := model PP w) X (t := .ref 52) (base := .ref 52) (r := true) (by k_is)
  have h4 := looks_instIn (M := model PP w) X (v := .ref 52) (base := .type "tuple") (r := false) (by k_is)
  obtain ⟨c, od, dt, sl⟩ := oe
  dsimp only at hc
  subst hc
  have hC := X 52 _ (by k_is)
  unfold excMatches
  repeat (first | with_reducible refine wpAny_loadPart_at he ?_ | (with_reducible refine wpAny_loadPart_at hC ?_; dsimp only) | with_reducible refine Looks.here h1 ?_ | with_reducible refine Looks.here h2 ?_ | with_reducible refine Looks.here h3 ?_ | with_reducible refine Looks.here h4 ?_ | wp_step)
  exact hq
end Mine
end
section
open PySem PySem.W PySem.Calls PyProof.Rows
set_option maxRecDepth 100000
set_option maxHeartbeats 4000000
namespace Mine
local macro_rules | `(tactic| walk_at "mine 0") => `(tactic| fail "no line")
local macro_rules | `(tactic| walk_at "mine 1") => `(tactic| fail "no line")
local macro_rules | `(tactic| walk_at "mine 2") => `(tactic| fail "no line")

local macro_rules | `(tactic| size_fits) => `(tactic| ((with_reducible rename IsP _ => hpz); rw [sizeLine_eq]; simp only [Str.length_append, txt_len, hpz.len]; exact Nat.le_of_ble_eq_true (by decide +kernel)))
local macro_rules | `(tactic| walk_at "formatField str") => `(tactic| (refine field_txt (by first | exact IsP.fits (by assumption) | decide +kernel) ?_; intro _ _; (try dsimp only)))
theorem safe_walk {w : World} {h₀ : Heap} {mean mg mb} (X : (hd.heap_39 w.params).In h₀) (T : TopX w mean mg mb h₀) {G : Gd} {p : List Nat} (hAns : AnsSpec w h₀ G p)
    {A : Around} {L m fa fb N kv mv} {s : Shared} {t : Addr} {tx tu : Tok} {Q E : Value → Shared → Prop}
    (R : Room A (2 * p.sum + 6)) (F : Fr h₀ L s.heap m) (NN : News h₀ L s.heap N) (M : Fm A L G fa fb N) (I : Inv w G fb N kv mv) (hp : IsP p)
    (ht : (t, tupOf [.ref G.ln, .ref G.mv, .ref G.k, .str (txt p) tx]) ∈ N)
    (hQ : ∀ h' N' kv' mv' tk' v, Fr h₀ L h' m → News h₀ L h' N' → Fm A L G fa fb N' → Inv w G fb N' kv' mv' → Gr G fa N N' → Kg kv kv' → Kg mv mv' → (valueAt kv' (txt p)).isSome = true →
      IsT v (if nim G.g p = 0 then failT p else txt (ans G.lw G.g p)) → Q v { s with heap := h', toks := tk' }) :
    wpAny (model PP w) A (call (.ref 22) [.ref t, .str (txt p) tu, .ref 71]) Q E s := by
  refine wpAny_call ?_
  have hT : ∃ o, s.heap.get? 15 = some o ∧ o.data = .seq #[.type "str"] 0 := ⟨_, F.keep _ _ (X 15 _ (by k_is)), rfl⟩
  obtain ⟨oT, hT1, hT2⟩ := hT
  k_dflt (refine' callF (binds := [(Str.ofString "value", .ref t), (Str.ofString "what", .str (txt p) tu), (Str.ofString "func", .ref 71)]) F X NN T.nolimit ?ho ?hcd R.depth ?bind ?loc ?_ ?c1 ?c2 ?c3 ?c4; (case ho => k_is); (case hcd => k_is); (case bind => exact BindsTo.of_defaults rfl hT1 hT2 rfl rfl); (case loc => exact locs rfl); (case c1 => rfl); (case c2 => rfl); (case c3 => rfl); (case c4 => decide))
  intro L' h₁ oL hL F' N' lt'
  k_fold
  have hd := Fr.nofields F hL
  obtain ⟨env, outer, e1, e2⟩ := M.top
  iterate 12 walk1
  refine hAns _ _ _ (L :: fa) (L :: fb) ((L, oL) :: N) kv mv _ t tx _ _ (R.deeper _) F' N' (M.push hd rfl rfl) (I.push (fun q hq => (NN q hq).2.1) oL) hp (.tail _ ht) ?_
  intro h₂ N₂ kv' mv' tk₂ v F₂ NN₂ M₂ I₂ g₂ kg₂ kgm₂ is₂
  refine ⟨fun h0 e he hx => ?_, fun h0 hv => ?_⟩
  · subst he
    have e3 : (A.deeper (envOf (Str.ofString "_safe_string") { kind := ScopeKind.function, names := [(Str.ofString "value", NameKind.local), (Str.ofString "what", NameKind.local), (Str.ofString "func", NameKind.local)], isGenerator := false, isCoroutine := false } L' 22 (Value.ref 21))).frames = some (envOf (Str.ofString "_safe_string") { kind := ScopeKind.function, names := [(Str.ofString "value", NameKind.local), (Str.ofString "what", NameKind.local), (Str.ofString "func", NameKind.local)], isGenerator := false, isCoroutine := false } L' 22 (Value.ref 21) :: env :: outer) := by
      show A.frames.map _ = _
      rw [e1]; rfl
    refine leave_inv e3 rfl F₂ NN₂ M₂ I₂ hx ?_
    intro h₃ N₃ F₃ NN₃ M₃ I₃ hx₃ g₃
    refine handleBy_bare (by intro q; cases q) ?_
    obtain ⟨oe, vs, dx, hh, tkk, n, tab, x1, x2, x3, x4, x5, x6, x7, x8, head, y1, y2⟩ := id hx₃.ex
    have hHead : HeadOk h₃ e head := y2.imp id fun ⟨T, oT, ts, b1, b2, b3, _, b5, b6⟩ => ⟨T, oT, ts, b1, b2, NN₃.get b3.1, b5, b6⟩
    refine set_again (NN₃.get x1.1) x4 y1 hHead fun h₄ same => ?_
    refine wpAny_mono (E := fun _ _ => False) ?_ (fun _ _ q => q) (fun _ _ f => f.elim)
    have F₄ := Fr.look F₃ same
    have NN₄ := News.look NN₃ same
    clear NN₃ F₃ NN₂ F₂
    repeat walk1
    refine fn_name (X.keeps F₄.keep) (by have := R.dp; show A.depth + 1 ≤ 900; omega) (by have := R.un; show A.units + 3 ≤ 9000; omega) fun u₆ v₆ => ?_
    iterate 5 walk1
    refine (wpAny_mkStr ?ka ?kb : wpAny _ _ (mkStr _) _ _ _)
    case kb => size_fits
    rw [failT_eq]
    obtain ⟨N₅, F₅, NN₅, M₅, I₅, g₅, _⟩ := back F hL NN M F₄ NN₄ I₃ (g₂.trans g₃)
    exact hQ h₄ N₅ kv' mv' _ _ F₅ NN₅ M₅ I₅ g₅ kg₂ kgm₂ is₂ (by rw [if_pos h0]; exact ⟨_, rfl⟩)
  · obtain ⟨N₅, F₅, NN₅, M₅, I₅, g₅, _⟩ := back F hL NN M F₂ NN₂ I₂ g₂
    exact hQ h₂ N₅ kv' mv' _ _ F₅ NN₅ M₅ I₅ g₅ kg₂ kgm₂ is₂ (by rw [if_neg h0]; exact hv)
end Mine
end
section
open PySem PySem.W PySem.Calls PyProof.Rows
set_option maxRecDepth 100000
set_option maxHeartbeats 4000000
namespace Mine

theorem valueAt_stored_self {kvs : List (Str × Value)} {x : Str} {v : Value} : valueAt (stored kvs x v) x = some v := by
  obtain ⟨u, hu⟩ := Option.isSome_iff_exists.mp (stored_self (kvs := kvs) (x := x) (v := v))
  rw [hu]
  have hm := mem_of_valueAt hu
  unfold stored at hm
  split at hm
  · obtain ⟨z, hz, e⟩ := List.mem_map.mp hm
    split at e
    · cases e; rfl
    · rename_i hne
      cases e
      exact absurd rfl hne
  · rename_i hany
    rcases List.mem_append.mp hm with h | h
    · exact absurd (List.any_eq_true.mpr ⟨_, h, by simp⟩) hany
    · have := List.mem_singleton.mp h
      cases this
      rfl

theorem keyed_snoc (l : List Str) (x : Str) : keyed (l ++ [x]) = if x ∈ keyed l then keyed l else keyed l ++ [x] := by
  unfold keyed
  rw [List.foldl_append]
  rfl
theorem stored_keys {kvs : List (Str × Value)} {x : Str} {v : Value} : (stored kvs x v).map (·.1) = if x ∈ kvs.map (·.1) then kvs.map (·.1) else kvs.map (·.1) ++ [x] := by
  unfold stored
  have h : (kvs.any fun z => decide (z.1 = x)) = true ↔ x ∈ kvs.map (·.1) := by
    rw [List.any_eq_true, List.mem_map]
    constructor
    · rintro ⟨z, h1, h2⟩; exact ⟨z, h1, by simpa using h2⟩
    · rintro ⟨z, h1, h2⟩; exact ⟨z, h1, by simpa using h2⟩
  by_cases hx : x ∈ kvs.map (·.1)
  · rw [if_pos hx]
    first
      | rw [if_pos (h.mpr hx)]
      | (have := h.mpr hx; simp only [this, if_true])
    rw [List.map_map]
    refine List.map_congr_left fun z hz => ?_
    show (if z.1 = x then (z.1, v) else z).1 = z.1
    split <;> rfl
  · rw [if_neg hx]
    first
      | rw [if_neg fun q => hx (h.mp q)]
      | (have : (kvs.any fun z => decide (z.1 = x)) = false := by cases q : (kvs.any fun z => decide (z.1 = x)) with | true => exact absurd (h.mp q) hx | false => rfl
         simp only [this])
    rw [List.map_append]; rfl

theorem lt_off {w : World} {G : Gd} {fa fb : List Addr} {N : Led} {kv mv : List (Str × Value)} {A : Around} {L a : Addr} (M : Fm A L G fa fb N) (I : Inv w G fb N kv mv) (ha : ∀ p ∈ N, p.1 < a) : a ∉ G.off fb := fun q => by
  have lt : ∀ o, (a, o) ∈ N → False := fun o x => absurd (ha _ x) (Nat.lt_irrefl _)
  obtain ⟨ok, k1, _⟩ := I.kin
  obtain ⟨om, m1, _⟩ := I.min
  rcases List.mem_cons.mp q with q | q
  · exact lt ok (q ▸ k1)
  rcases List.mem_cons.mp q with q | q
  · exact lt om (q ▸ m1)
  · obtain ⟨o, h1⟩ := M.there q
    exact lt o h1

theorem new_ok {h₀ h : Heap} {L a : Addr} {m : Str → Option Value} (F : Fr h₀ L h m) (hn : h.get? a = none) : a ≠ L ∧ h₀.get? a = none := by
  refine ⟨fun e => ?_, ?_⟩
  · obtain ⟨o, _, _, ho, _⟩ := F.ns
    rw [e, ho] at hn; cases hn
  · cases q : h₀.get? a with
    | none => rfl
    | some o => rw [F.keep _ _ q] at hn; cases hn
theorem none_off {w : World} {G : Gd} {fa fb : List Addr} {N : Led} {kv mv : List (Str × Value)} {A : Around} {L a : Addr} {h₀ h : Heap} (NN : News h₀ L h N) (M : Fm A L G fa fb N) (I : Inv w G fb N kv mv) (hn : h.get? a = none) : a ∉ G.off fb := fun q => by
  have lt : ∀ o, (a, o) ∈ N → False := fun o x => by rw [NN.get x] at hn; cases hn
  obtain ⟨ok, k1, _⟩ := I.kin
  obtain ⟨om, m1, _⟩ := I.min
  rcases List.mem_cons.mp q with q | q
  · exact lt ok (q ▸ k1)
  rcases List.mem_cons.mp q with q | q
  · exact lt om (q ▸ m1)
  · obtain ⟨o, h1⟩ := M.there q
    exact lt o h1

/-- what holds at the head of the loop's turn i -/
structure Turn (w : World) (G : Gd) (p : List Nat) (tx : Tok) (fa fb : List Addr) (L : Addr) (A : Around) (N₀ : Led) (kv₀ mv₀ : List (Str × Value)) (d I : Addr) (i : Nat) (m : Str → Option Value) (N : Led) : Prop where
  n1 : m (Str.ofString "links") = some (.ref G.ln)
  n2 : m (Str.ofString "moves") = some (.ref G.mv)
  n3 : m (Str.ofString "known") = some (.ref G.k)
  n4 : m (Str.ofString "place") = some (.str (txt p) tx)
  n5 : m (Str.ofString "table") = some (.ref d)
  fm : Fm A L G fa (d :: fb) N
  gr : Gr G fa N₀ N
  ne : ∀ q ∈ N₀, q.1 ≠ I
  nd : ∀ q ∈ N₀, q.1 ≠ d
  ioff : I ∉ G.off (d :: fb)
  doff : d ∉ G.off fb
  dsys : (d == sysModules) = false
  ex : ∃ kv mv, Inv w G (d :: fb) N kv mv ∧ Kg kv₀ kv ∧ Kg mv₀ mv ∧ (valueAt mv (txt p)).isSome = true ∧ (∀ q ∈ (mvs G.lw p).take i, nim G.g q ≠ 0 ∧ (valueAt kv (txt q)).isSome = true)
  tb : ∃ od dvs, (d, od) ∈ N ∧ od.IsDictOf (sK w) dvs ∧ dvs.map (·.1) = keyed (((mvs G.lw p).take i).map txt) ∧
    ∀ x v, (x, v) ∈ dvs → ∃ q t tk u, q ∈ mvs G.lw p ∧ x = txt q ∧ v = .ref t ∧ At (G.off (d :: fb)) N t (tupOf [.int 554 tk, .str (txt (ans G.lw G.g q)) u])

section
variable {w : World} {G : Gd} {p : List Nat} {tx : Tok} {fa fb : List Addr} {L : Addr} {A : Around} {N₀ : Led} {kv₀ mv₀ kv mv : List (Str × Value)} {d I : Addr} {i : Nat} {m m' : Str → Option Value} {N N' : Led}

theorem Fm.stand_in {od : Obj} (M : Fm A L G fa fb N) (hk : d ≠ G.k) (hm : d ≠ G.mv) (h : Kept od) : Fm A L G fa (d :: fb) ((d, od) :: N) :=
  ⟨M.top, M.each, fun a ha => let ⟨o, h1, h2⟩ := M.inn a ha; ⟨o, .tail _ h1, h2⟩, fun a ha => .tail _ (M.sub a ha), fun a ha => by
    rcases List.mem_cons.mp ha with rfl | ha
    · exact .inr ⟨hk, hm, od, .head _, h⟩
    · exact (M.tab a ha).imp id fun ⟨h1, h2, o, h3, h4⟩ => ⟨h1, h2, o, .tail _ h3, h4⟩⟩
/-- the table turns -/
theorem Fm.at_d {od : Obj} (M : Fm A L G fa (d :: fb) N) (hd : d ∉ G.off fb) (hs : ∀ a o, (a, o) ∈ N → a ≠ d → (a, o) ∈ N') (hn : (d, od) ∈ N') (h : Kept od) (fs : ∀ a ∈ fa, a ∈ fb) : Fm A L G fa (d :: fb) N' := by
  have ne : ∀ a ∈ fa, a ≠ d := fun a ha e => hd (.tail _ (.tail _ (e ▸ fs a ha)))
  refine ⟨M.top, M.each, fun a ha => let ⟨o, h1, h2⟩ := M.inn a ha; ⟨o, hs _ _ h1 (ne a ha), h2⟩, M.sub, fun a ha => ?_⟩
  by_cases e : a = d
  · subst e
    exact .inr ⟨fun q => hd (by rw [q]; exact .head _), fun q => hd (by rw [q]; exact .tail _ (.head _)), od, hn, h⟩
  · exact (M.tab a ha).imp id fun ⟨h1, h2, o, h3, h4⟩ => ⟨h1, h2, o, hs _ _ h3 e, h4⟩
/-- the ledger turns at the table alone -/
theorem Gr.at_d (h : Gr G fa N₀ N) (nd : ∀ q ∈ N₀, q.1 ≠ d) (hs : ∀ a o, (a, o) ∈ N → a ≠ d → (a, o) ∈ N') : Gr G fa N₀ N' :=
  ⟨fun a o x h1 h2 => hs _ _ (h.stab a o x h1 h2) (nd _ x), fun a ha o x => let ⟨sl, y⟩ := h.fram a ha o x; ⟨sl, hs _ _ y (nd _ x)⟩⟩
theorem Inv.at_off (h : Inv w G (d :: fb) N kv mv) (hs : ∀ a o, (a, o) ∈ N → a ≠ d → (a, o) ∈ N') : Inv w G (d :: fb) N' kv mv := by
  have hs' : ∀ a o, At (G.off (d :: fb)) N a o → At (G.off (d :: fb)) N' a o := fun a o x => ⟨hs _ _ x.1 fun q => x.2 (.tail _ (.tail _ (by rw [q]; exact .head _))), x.2⟩
  obtain ⟨o, kvs, l1, l2, l3⟩ := h.links
  obtain ⟨ok, k1, k2, k3⟩ := h.kin
  obtain ⟨om, m1, m2, m3⟩ := h.min
  refine ⟨h.ok, ⟨o, kvs, hs' _ _ l1, l2, l3⟩, ⟨ok, hs _ _ k1 (fun q => k2 (by rw [q]; exact .head _)), k2, k3⟩, ⟨om, hs _ _ m1 (fun q => m2 (by rw [q]; exact .head _)), m2, m3⟩, fun x v hx => ?_, fun x v hx => ?_⟩
  · obtain ⟨p, q1, q2, q3, q4⟩ := h.known x v hx
    exact ⟨p, q1, q2, q3, q4.mono (fun a o x _ => hs' a o x) fun _ e => e⟩
  · obtain ⟨p, q1, q2, q3⟩ := h.moves x v hx
    exact ⟨p, q1, q2, q3.mono fun a o x _ => hs' a o x⟩
theorem dict_nofields {o : Obj} {kvs : List (Str × Value)} (h : o.IsDictOf (sK w) kvs) : ∀ vs, o.data ≠ .fields vs := fun vs e => by
  obtain ⟨es, ep, _, h2, _⟩ := h
  rw [h2] at e; cases e
theorem Turn.step (J : Turn w G p tx fa fb L A N₀ kv₀ mv₀ d I i m N) (hI : ∀ o, (I, o) ∈ N → o.cls = .type "list_iterator") (hs : ∀ a o, (a, o) ∈ N → a ≠ I → (a, o) ∈ N') : Turn w G p tx fa fb L A N₀ kv₀ mv₀ d I i m N' := by
  have hc : ∀ o, (I, o) ∈ N → ¬ Nicer o.cls := fun o q hn => by
    rw [hI o q] at hn
    rcases hn with (h | h | h | h) | h <;> first | (injection h with h; exact absurd h (by decide)) | cases h
  have fbI : ∀ a ∈ d :: fb, a ≠ I := fun a ha e => J.ioff (.tail _ (.tail _ (e ▸ ha)))
  have faI : ∀ a ∈ fa, a ≠ I := fun a ha => fbI a (J.fm.sub a ha)
  refine { J with fm := ⟨J.fm.top, J.fm.each, fun a ha => let ⟨o, h1, h2⟩ := J.fm.inn a ha; ⟨o, hs _ _ h1 (faI a ha), h2⟩, J.fm.sub, fun a ha => (J.fm.tab a ha).imp id fun ⟨h1, h2, o, h3, h4⟩ => ⟨h1, h2, o, hs _ _ h3 (fbI a ha), h4⟩⟩, gr := ⟨fun a o x y z => hs _ _ (J.gr.stab a o x y z) (J.ne _ x), fun a ha o x => let ⟨sl, h⟩ := J.gr.fram a ha o x; ⟨sl, hs _ _ h (faI a ha)⟩⟩, ex := ?_, tb := ?_ }
  · obtain ⟨kv, mv, I1, r⟩ := J.ex
    exact ⟨kv, mv, I1.at_one hc hs, r⟩
  · obtain ⟨od, dvs, h1, h2, h3, h4⟩ := J.tb
    refine ⟨od, dvs, hs _ _ h1 (fbI d (.head _)), h2, h3, fun x v hx => ?_⟩
    obtain ⟨q, t, tk, u, a1, a2, a3, a4⟩ := h4 x v hx
    exact ⟨q, t, tk, u, a1, a2, a3, hs _ _ a4.1 (fun e => by have := hI _ (e ▸ a4.1); injection this with h; exact absurd h (by decide)), a4.2⟩
end

theorem loop_turn {E : Value → Shared → Prop} {s : Shared} {h₀ : Heap} {env : Env} {x : Str} {px : Pos} {body : List Stmt} {R : Result → Shared → Prop}
    {w : World} {G : Gd} {p : List Nat} {tx : Tok} {fa fb : List Addr} {A : Around} {N₀ : Led} {kv₀ mv₀ : List (Str × Value)} {d : Addr} {m : Str → Option Value} {N : Led}
    {l : Addr} {lo : Obj} {vs : List Value} {nn : Nat} (hh : A.handled = none)
    (hx : env.kindOf x = some .local) (hk : env.scope.kind = .function) (W : Lw G.lw) (hp : IsP p) (hT : Texts vs ((mvs G.lw p).map txt))
    (F : Fr h₀ env.locals s.heap m) (NN : News h₀ env.locals s.heap N) (hl : (l, lo) ∈ N) (hlo : lo = { cls := .type "list", data := .seq vs.toArray nn })
    (hj : ∀ I oI, (∀ p ∈ N, p.1 < I) → Turn w G p tx fa fb env.locals A N₀ kv₀ mv₀ d I 0 m ((I, oI) :: N))
    (turn : ∀ I i q u s₁ m₁ N₁, (mvs G.lw p)[i]? = some q → IsP q → q.sum < p.sum → Turn w G p tx fa fb env.locals A N₀ kv₀ mv₀ d I i m₁ N₁ → Fr h₀ env.locals s₁.heap (fun y => if y = x then some (.str (txt q) u) else m₁ y) → News h₀ env.locals s₁.heap N₁ → (l, lo) ∈ N₁ → (∃ o, (I, o) ∈ N₁ ∧ o.cls = .type "list_iterator") → Rest s s₁ →
      wpAny (model PP w) A (execs body env) (fun f s₃ => match f with
        | .next | .cont => Rest s s₃ ∧ ∃ m₃ N₃, Fr h₀ env.locals s₃.heap m₃ ∧ News h₀ env.locals s₃.heap N₃ ∧ (∀ b, b = I ∨ b = l → ∀ o, (b, o) ∈ N₁ → (b, o) ∈ N₃) ∧ Turn w G p tx fa fb env.locals A N₀ kv₀ mv₀ d I (i + 1) m₃ N₃
        | .brk => R (.ok .next) s₃
        | .ret v => R (.ok (.ret v)) s₃) (fun _ _ => False) s₁)
    (done : ∀ I s₁ m₁ N₁, Turn w G p tx fa fb env.locals A N₀ kv₀ mv₀ d I (mvs G.lw p).length m₁ N₁ → Fr h₀ env.locals s₁.heap m₁ → News h₀ env.locals s₁.heap N₁ → Rest s s₁ → R (.ok .next) s₁) :
    wpAny (model PP w) A (pyIter (.ref l)) (fun it s₂ => codeAny (model PP w) A (.forLoop (.Name x px) it body [] env) R s₂) E s := by
  have hlen : vs.length = (mvs G.lw p).length := by rw [hT.length, List.length_map]
  refine loop_list hh (fun I i m N => Turn w G p tx fa fb env.locals A N₀ kv₀ mv₀ d I i m N) (fun I i m N N' J h1 h2 _ => J.step h1 h2) hx hk F NN hl hlo (fun I oI h1 _ => hj I oI h1) (fun I i v s₁ m₁ N₁ hv J F₁ NN₁ q1 q2 rs => ?_) (fun I s₁ m₁ N₁ J F₁ NN₁ rs => done I s₁ m₁ N₁ (hlen ▸ J) F₁ NN₁ rs)
  have hi : i < (mvs G.lw p).length := by rw [← hlen]; exact (List.getElem?_eq_some_iff.mp hv).1
  obtain ⟨u, hu⟩ := StrsAre.get hT i (txt (mvs G.lw p)[i]) (by rw [List.getElem?_map, List.getElem?_eq_getElem hi]; rfl)
  rw [hv] at hu
  obtain rfl := Option.some.inj hu
  have hq := mvs_place W hp (List.getElem_mem hi)
  exact turn I i _ u s₁ m₁ N₁ (List.getElem?_eq_getElem hi) hq.1 hq.2 J F₁ NN₁ q1 q2 rs

theorem item_new {G : Gd} {p q : List Nat} {off : List Addr} {N : Led} {t : Addr} {tk u : Tok} {x : Str} (hq : q ∈ mvs G.lw p) (hx : x = txt (ans G.lw G.g q)) (hm : (t, tupOf [.int 554 tk, .str x u]) ∈ N) (ho : t ∉ off) :
    ∃ q' t' tk' u', q' ∈ mvs G.lw p ∧ txt q = txt q' ∧ Value.ref t = .ref t' ∧ At off N t' (tupOf [.int 554 tk', .str (txt (ans G.lw G.g q')) u']) :=
  ⟨q, t, tk, u, hq, rfl, rfl, hx ▸ hm, ho⟩

/-- the first noughted move is the answer -/
theorem ans_first {lw : Nat → List Nat} {g : Nat → Nat} {p q : List Nat} {i : Nat} (hq : (mvs lw p)[i]? = some q) (h0 : nim g q = 0) (hb : ∀ r ∈ (mvs lw p).take i, nim g r ≠ 0) : ans lw g p = q := by
  have hi := (List.getElem?_eq_some_iff.mp hq).1
  have e : mvs lw p = (mvs lw p).take i ++ q :: (mvs lw p).drop (i + 1) := by
    conv => lhs; rw [← List.take_append_drop i (mvs lw p)]
    rw [List.drop_eq_getElem_cons hi, (List.getElem?_eq_some_iff.mp hq).2]
  unfold ans
  rw [e, List.find?_append, List.find?_eq_none.mpr fun r hr => by simpa using hb r hr]
  simp [List.find?, h0]
theorem ans_len {lw : Nat → List Nat} {g : Nat → Nat} (W : Lw lw) (M : Mx lw g) {q : List Nat} (hq : IsP q) (h : nim g q ≠ 0) : (ans lw g q).length = 3 := by
  obtain ⟨r, hr, h0⟩ := nim_yes W M hq h
  unfold ans
  cases e : (mvs lw q).find? fun m => nim g m == 0 with
  | none =>
    have := List.find?_eq_none.mp e r hr
    simp [h0] at this
  | some x => exact (mvs_place W hq (List.mem_of_find?_eq_some e)).1.len
theorem failT_len (q : List Nat) : (failT q).length = 1 + q.length + 22 := by
  unfold failT
  rw [Str.length_append, Str.length_append, txt_len]
  rfl
theorem ans_ne_fail {lw : Nat → List Nat} {g : Nat → Nat} (W : Lw lw) (M : Mx lw g) {q : List Nat} (hq : IsP q) (h : nim g q ≠ 0) : txt (ans lw g q) ≠ failT q := fun e => by
  have := congrArg Str.length e
  rw [txt_len, failT_len, ans_len W M hq h, hq.len] at this
  omega
theorem cmp_fail {lw : Nat → List Nat} {g : Nat → Nat} (W : Lw lw) (M : Mx lw g) {q : List Nat} (hq : IsP q) :
    ((if nim g q = 0 then failT q else txt (ans lw g q)) == Str.ofString "<" ++ txt q ++ Str.ofString " _law_answer() failed>") = decide (nim g q = 0) := by
  show (_ == failT q) = _
  by_cases h : nim g q = 0
  · rw [if_pos h, decide_eq_true h]
    exact beq_self_eq_true _
  · rw [if_neg h, decide_eq_false h]
    exact beq_eq_false_iff_ne.mpr (ans_ne_fail W M hq h)
end Mine
end
section
open PySem PySem.W PySem.Calls PyProof.Rows
set_option maxRecDepth 100000
set_option maxHeartbeats 4000000
namespace Mine
local macro_rules | `(tactic| walk_at "mine 0") => `(tactic| fail "no line")
local macro_rules | `(tactic| walk_at "mine 1") => `(tactic| fail "no line")
local macro_rules | `(tactic| walk_at "mine 2") => `(tactic| fail "no line")
local macro_rules | `(tactic| walk_at "mine 3") => `(tactic| fail "no line")
local macro_rules | `(tactic| size_fits) => `(tactic| ((with_reducible rename IsP _ => hpz); rw [sizeLine_eq]; simp only [Str.length_append, txt_len, hpz.len]; exact Nat.le_of_ble_eq_true (by decide +kernel)))
local macro_rules | `(tactic| k_mem) => `(tactic| assumption)
local macro_rules | `(tactic| walk_at "eval Name") => `(tactic| (refine ld (by assumption) (by (first | with_reducible assumption | (refine Eq.trans (if_neg ?_) ?_; (case' refine_1 => decide); with_reducible assumption) | (refine Eq.trans (if_neg (by decide)) (Eq.trans (if_neg (by decide)) ?_); with_reducible assumption))) ?_))
local macro_rules | `(tactic| walk_at "subscriptTail") => `(tactic| (refine kda_item (knd := strKind _ _) (by assumption) (by assumption) (by assumption) (strKind_is _ _ _ _) (by assumption) ?_))
local macro_rules | `(tactic| walk_at "assign Tuple") => `(tactic| (refine unpackN_ (by assumption) (by assumption) (News.isTup (by assumption) (by assumption)) (by rfl) (by rfl) (by rfl) ?_; intro _ _ _))

local macro_rules | `(tactic| walk_at "exec Raise some none") => `(tactic| (k_dflt (refine' exec_raise ?hz ?_; (case hz => exact rfl))))
theorem execs_two {M : Model} {A : Around} {E : Value → Shared → Prop} {s : Shared} {st : Stmt} {rest : List Stmt} {env : Env} {Q : Flow → Shared → Prop} (P : Shared → Prop)
    (tail : ∀ s', P s' → wpAny M A (execs rest env) Q E s') (head : wpAny M A (exec st env) (fun f s' => match f with | .next => P s' | f => Q f s') E s) : wpAny M A (execs (st :: rest) env) Q E s :=
  wpAny_execs_cons (wpAny_mono head (fun f s' h => by cases f <;> first | exact tail _ h | exact h) fun _ _ h => h)
structure AnsMid (w : World) (h₀ : Heap) (G : Gd) (p : List Nat) (fa fb : List Addr) (L : Addr) (kv mv : List (Str × Value)) (N : Led) (tx : Tok) (s : Shared) (s' : Shared) : Prop where
  ex : ∃ h' tk' N' kv' mv' m', s' = { s with heap := h', toks := tk' } ∧ Fr h₀ L h' m' ∧ m' (Str.ofString "known") = some (.ref G.k) ∧ m' (Str.ofString "place") = some (.str (txt p) tx) ∧ News h₀ L h' N' ∧
    Inv w G fb N' kv' mv' ∧ Gr G fa N N' ∧ Kg kv kv' ∧ Kg mv mv' ∧ (valueAt kv' (txt p)).isSome = true
theorem ans_walk {w : World} {h₀ : Heap} {mean mg mb} (X : (hd.heap_39 w.params).In h₀) (T : TopX w mean mg mb h₀) {G : Gd} {p : List Nat} (hMoves : MovesSpec w h₀ G) (hRec : ∀ q, IsP q → q.sum < p.sum → AnsSpec w h₀ G q)
    {A : Around} {L m fa fb N kv mv} {s : Shared} {t : Addr} {tx : Tok} {Q E : Value → Shared → Prop}
    (R : Room A (2 * p.sum + 5)) (F : Fr h₀ L s.heap m) (NN : News h₀ L s.heap N) (M : Fm A L G fa fb N) (I : Inv w G fb N kv mv) (hp : IsP p)
    (ht : (t, tupOf [.ref G.ln, .ref G.mv, .ref G.k, .str (txt p) tx]) ∈ N)
    (hQ : ∀ h' N' kv' mv' tk' v, Fr h₀ L h' m → News h₀ L h' N' → Fm A L G fa fb N' → Inv w G fb N' kv' mv' → Gr G fa N N' → Kg kv kv' → Kg mv mv' → (valueAt kv' (txt p)).isSome = true →
      (nim G.g p = 0 → ∀ e, v = .ref e → ExcOK w G (G.off fb) N' e p → E v { s with heap := h', toks := tk' }) ∧ (nim G.g p ≠ 0 → IsT v (txt (ans G.lw G.g p)) → Q v { s with heap := h', toks := tk' })) :
    wpAny (model PP w) A (call (.ref 71) [.ref t]) Q E s := by
  obtain ⟨env, outer, e1, e2⟩ := M.top
  obtain ⟨hdl, dp, fr, gd, un⟩ := A
  obtain rfl : hdl = none := R.hd
  obtain rfl : fr = some (env :: outer) := e1
  refine wpAny_call ?_
  k_dflt (refine' callF (binds := [(Str.ofString "ask", .ref t)]) F X NN T.nolimit ?ho ?hcd R.depth ?bind ?loc ?_ ?c1 ?c2 ?c3 ?c4; (case ho => k_is); (case hcd => k_is); (case bind => exact BindsTo.of_eq rfl); (case loc => exact locs rfl); (case c1 => rfl); (case c2 => rfl); (case c3 => rfl); (case c4 => decide))
  intro L' h₁ oL hL F' N' lt'
  k_fold
  have hd := Fr.nofields F hL
  have ht' : (t, tupOf [.ref G.ln, .ref G.mv, .ref G.k, .str (txt p) tx]) ∈ (L, oL) :: N := .tail _ ht
  have M' : ∀ env' : Env, env'.frame = some L' → env'.scope.kind = .function → Fm (Around.deeper { handled := none, depth := dp, frames := some (env :: outer), guards := gd, units := un } env') L' G (L :: fa) (L :: fb) ((L, oL) :: N) := fun _ a b => M.push hd a b
  have I' := I.push (fun q hq => (NN q hq).2.1) oL
  have M₀ := M' (envOf (Str.ofString "_law_answer") { kind := .function, names := [], isGenerator := false, isCoroutine := false } L' 71 (.ref 70)) rfl rfl
  obtain ⟨ok, k1, k2, k3⟩ := id I'.kin
  iterate 17 walk1
  rename Fr _ _ _ _ => F₁
  rename News _ _ _ _ => N₁
  refine execs_two (AnsMid w h₀ G p (L :: fa) (L :: fb) L' kv mv ((L, oL) :: N) tx s) ?tail ?head
  case tail =>
    rintro s' ⟨h₂, tk₂, N₂, kv₂, mv₂, m₂, rfl, F₂, a1, a2, NN₂, I₂, g₂, kg₂, kgm₂, is₂⟩
    obtain ⟨v, hv⟩ := Option.isSome_iff_exists.mp is₂
    obtain ⟨ok₂, kk1, kk2, kk3⟩ := id I₂.kin
    clear F₁ N₁
    obtain ⟨p', q1, q2, q3, q4⟩ := I₂.known _ _ (mem_of_valueAt hv)
    obtain rfl := txt_inj q2
    by_cases h0 : nim G.g p = 0
    · unfold KnownOK at q4
      rw [if_pos h0] at q4
      obtain ⟨e, rfl, hx, hq⟩ := q4
      obtain ⟨oe, vs, dx, hh, tkk, n, tab, x1, x2, x3, x4, x5, x6, x7, x8, head, y1, y2⟩ := id hx.ex
      have hHead : HeadOk h₂ e head := y2.imp id fun ⟨T, oT, ts, b1, b2, b3, _, b5, b6⟩ => ⟨T, oT, ts, b1, b2, NN₂.get b3.1, b5, b6⟩
      obtain ⟨ec, eo, ed, es⟩ := oe
      dsimp only at x2 x3 x4 x5
      subst x2 x3 x4 x5
      repeat walk1
      refine wpAny_wide (isi_exc (X.keeps F₂.keep) (NN₂.get x1.1) fun u => ?_) (by have := R.dp; show dp + 1 ≤ 900; dsimp only at this; omega) (by have := R.un; show un + 3 ≤ 9000; dsimp only at this; omega)
      iterate 8 walk1
      refine ⟨e, _, vs, head, rfl, X.keeps F₂.keep, NN₂.get x1.1, rfl, rfl, y1, hHead, fun h₃ same => ?_⟩
      show wpAny _ _ (leaving _ (.ref e)) _ _ _
      unfold leaving
      refine wpAny_bind (leave_inv (outer := env :: outer) rfl rfl (Fr.look F₂ same) (News.look NN₂ same) ((M' _ rfl rfl).grow g₂) I₂ hx ?_)
      intro h₄ N₄ F₄ NN₄ M₄ I₄ hx₄ g₄
      obtain ⟨N₅, F₅, NN₅, M₅, I₅, g₅, at₅⟩ := back F hL NN M F₄ NN₄ I₄ (g₂.trans g₄)
      exact (hQ h₄ N₅ kv₂ mv₂ _ (.ref e) F₅ NN₅ M₅ I₅ g₅ kg₂ kgm₂ is₂).1 h0 e rfl (hx₄.mono fun a o x _ => at₅ a o x)
    · unfold KnownOK at q4
      rw [if_neg h0] at q4
      obtain ⟨tv, rfl⟩ := q4
      repeat walk1
      obtain ⟨N₅, F₅, NN₅, M₅, I₅, g₅, at₅⟩ := back F hL NN M F₂ NN₂ I₂ g₂
      exact (hQ h₂ N₅ kv₂ mv₂ _ _ F₅ NN₅ M₅ I₅ g₅ kg₂ kgm₂ is₂).2 h0 ⟨_, rfl⟩
  case head =>
    iterate 4 walk1
    refine kdg_notin N₁ k1 k3 I'.ok.2.2.2.1 (strKind_is _ _ _ _) (valueAt kv (txt p)).isSome rfl ?_
    cases hb : (valueAt kv (txt p)).isSome
    case true =>
      repeat walk1
      exact ⟨_, _, _, _, _, _, rfl, F₁, rfl, rfl, N₁, I', .refl, .refl, .refl, hb⟩
    case false =>
      iterate 14 walk1
      refine hMoves p _ L' _ _ _ tx _ _ ((R.deeper _).le (by omega)) F₁ N₁ I'.linksAt I'.ok.1 hp fun h₂ tk₂ l lvs ln l1 F₂ N₂ hT => ?_
      have loff : l ∉ G.off (L :: fb) := lt_off M₀ I' l1
      clear F₁ N₁
      iterate 2 walk1
      refine set_moves F₂ N₂ (I'.mono fun q hq => .tail _ hq) hp ⟨l, _, lvs, ln, rfl, ⟨.head _, loff⟩, rfl, hT⟩ fun h₃ N₃ F₃ NN₃ I₃ k₃ => ?_
      clear F₂ N₂
      iterate 6 walk1
      rename_i tkB d hB od dlt dsys dd fsB hiB fiB hC F₄ N₄
      obtain ⟨om, om1, om2, om3⟩ := id I₃.min
      have om1' := List.mem_cons_of_mem (d, od) om1
      have hvl : valueAt (stored mv (txt p) (.ref l)) (txt p) = some (.ref l) := valueAt_stored_self
      have hlN : (l, ({ cls := .type "list", data := .seq lvs.toArray ln } : Obj)) ∈ N₃ := k₃ _ _ (.head _) fun e => loff (by rw [e]; exact .tail _ (.head _))
      have gr₃ : Gr G (L :: fa) ((L, oL) :: N) N₃ := ⟨fun a o x h1 _ => k₃ a o (.tail _ x) fun e => h1 (by rw [e]; exact .tail _ (.head _)), fun a ha o x => ⟨o.slots, k₃ a o (.tail _ x) fun e => om2 (e ▸ M₀.sub a ha)⟩⟩
      refine wpAny_For ?_
      repeat walk1
      refine loop_turn (N₀ := (L, oL) :: N) (kv₀ := kv) (mv₀ := mv) (d := d) (tx := tx) (fa := L :: fa) (fb := L :: fb) rfl rfl rfl I'.ok.1 hp hT F₄ N₄ (.tail _ hlN) rfl ?start ?turn ?done
      case start =>
        intro I oI hlt
        have I₄ := I₃.push (fun q hq => Nat.ne_of_lt (dlt q hq)) od
        have doff := lt_off (M₀.grow gr₃) I₃ dlt
        have fmx : ∀ {A'}, Fm A' L' G (L :: fa) (L :: fb) ((L, oL) :: N) → Fm A' L' G (L :: fa) (d :: L :: fb) ((d, od) :: N₃) := fun M' => (M'.grow gr₃).stand_in (fun e => doff (by rw [e]; exact .head _)) (fun e => doff (by rw [e]; exact .tail _ (.head _))) (.of (by rw [dict_cls dd]; intro q; cases q))
        have nd : ∀ q ∈ (L, oL) :: N, q.1 ≠ d := by
          intro q hq
          by_cases e : q.1 = G.mv
          · rw [e]; exact Nat.ne_of_lt (dlt _ om1)
          · exact Nat.ne_of_lt (dlt _ (k₃ _ _ (.tail _ hq) e))
        have gr₄ : Gr G (L :: fa) ((L, oL) :: N) ((d, od) :: N₃) := gr₃.trans (.of_sub fun q hq => .tail _ hq)
        refine { n1 := rfl, n2 := rfl, n3 := rfl, n4 := rfl, n5 := rfl, fm := (fmx (M' _ rfl rfl)).sup (fun q hq => .tail _ hq), gr := gr₄.trans (.of_sub fun q hq => .tail _ hq), ne := ?_, nd := nd, ioff := lt_off (fmx M₀) I₄ hlt, doff := doff, dsys := dsys, ex := ⟨kv, _, I₄.mono (fun q hq => .tail _ hq), .refl, fun _ => stored_isSome, stored_self, fun q hq => by simp at hq⟩, tb := ⟨od, [], .tail _ (.head _), dd, rfl, fun _ _ h => by cases h⟩ }
        intro q hq
        by_cases e : q.1 = G.mv
        · rw [e]; exact Nat.ne_of_lt (hlt _ (.tail _ om1))
        · exact Nat.ne_of_lt (hlt _ (.tail _ (k₃ _ _ (.tail _ hq) e)))
      case turn =>
        intro I i q u s₁ m₁ N₁ hq hqp hlt J F₁ NN₁ hl₁ hI₁ rs
        obtain ⟨hh₁, tk₁, rfl⟩ := rs
        clear F₄ N₄
        revert F₁
        generalize hm₂ : (fun y => if y = Str.ofString "move" then some (Value.str (txt q) u) else m₁ y) = m₂
        intro F₁
        have a1 : m₂ (Str.ofString "links") = some (.ref G.ln) := by rw [← hm₂]; exact J.n1
        have a2 : m₂ (Str.ofString "moves") = some (.ref G.mv) := by rw [← hm₂]; exact J.n2
        have a3 : m₂ (Str.ofString "known") = some (.ref G.k) := by rw [← hm₂]; exact J.n3
        have a4 : m₂ (Str.ofString "place") = some (.str (txt p) tx) := by rw [← hm₂]; exact J.n4
        have a5 : m₂ (Str.ofString "table") = some (.ref d) := by rw [← hm₂]; exact J.n5
        have a6 : m₂ (Str.ofString "move") = some (.str (txt q) u) := by rw [← hm₂]; rfl
        have F₁ : Fr h₀ L' hh₁ m₂ := F₁
        have NN₁ : News h₀ L' hh₁ N₁ := NN₁
        obtain ⟨kv₁, mv₁, I₁, kg₁, kgm₁, ism₁, pst⟩ := J.ex
        obtain ⟨od₁, dvs, td1, td2, td3, td4⟩ := J.tb
        iterate 23 walk1
        rename Fr _ _ _ _ => F₅
        rename News _ _ _ _ => N₅
        refine safe_walk X T (hRec q hqp hlt) ((R.deeper _).le (by omega)) F₅ N₅ (J.fm.sup fun q hq => .tail _ hq) (I₁.mono fun q hq => .tail _ hq) hqp (.head _) fun h₆ N₆ kv₆ mv₆ tk₆ v F₆ NN₆ M₆ I₆ g₆ kg₆ kgm₆ is₆ hv => ?_
        clear F₅ N₅
        obtain ⟨tv, rfl⟩ := hv
        iterate 14 walk1
        rw [cmp_fail I'.ok.1 I'.ok.2.1 hqp]
        have ism₆ := kgm₆ _ ism₁
        by_cases h0 : nim G.g q = 0
        · rw [decide_eq_true h0]
          have hpz : nim G.g p ≠ 0 := fun e => nim_no I'.ok.1 I'.ok.2.1 hp e (List.mem_of_getElem? hq) h0
          iterate 7 walk1
          rename Fr _ _ _ _ => F₇
          rename News _ _ _ _ => N₇
          refine set_known F₇ N₇ I₆ hp ism₆ (by unfold KnownOK; rw [if_neg hpz, ans_first hq h0 fun r hr => (pst r hr).1]; exact ⟨u, rfl⟩) fun h₈ N₈ F₈ NN₈ I₈ k₈ => ?_
          clear F₇ N₇
          repeat walk1
          show Q (.str (txt q) u) _
          have kf : G.k ∉ L :: fa := fun e => k2 (M₀.sub _ e)
          have gk : Gr G (L :: fa) N₆ N₈ := ⟨fun a o x h1 _ => k₈ a o x (fun e => h1 (by rw [e]; exact .head _)), fun a ha o x => ⟨o.slots, k₈ a o x fun e => kf (e ▸ ha)⟩⟩
          obtain ⟨N₉, F₉, NN₉, M₉, I₉, g₉, _⟩ := back F hL NN M F₈ NN₈ (I₈.pop fun _ hp _ => hp) ((J.gr.trans (.of_sub fun q hq => .tail _ hq)).trans (g₆.trans gk))
          exact (hQ h₈ N₉ _ _ _ _ F₉ NN₉ M₉ I₉ g₉ (kg₁.trans (kg₆.trans fun _ => stored_isSome)) (kgm₁.trans kgm₆) stored_self).2 hpz ⟨u, by rw [ans_first hq h0 fun r hr => (pst r hr).1]⟩
        · rw [decide_eq_false h0]
          have subo : ∀ a, a ∉ G.off (L :: fb) → a ∉ G.off (L :: fa) := fun a h e => h (by
            rcases List.mem_cons.mp e with e | e
            · rw [e]; exact .head _
            rcases List.mem_cons.mp e with e | e
            · rw [e]; exact .tail _ (.head _)
            · exact .tail _ (.tail _ (M₀.sub _ e)))
          have subd : ∀ a, a ∉ G.off (d :: L :: fb) → a ∉ G.off (L :: fb) := fun a h e => h (by
            rcases List.mem_cons.mp e with e | e
            · rw [e]; exact .head _
            rcases List.mem_cons.mp e with e | e
            · rw [e]; exact .tail _ (.head _)
            · exact .tail _ (.tail _ (.tail _ e)))
          have td1' : (d, od₁) ∈ N₆ := g₆.stab d od₁ (.tail _ td1) (subo _ J.doff) (.of (by rw [dict_cls td2]; intro q; cases q))
          have dsz : dvs.length ≤ sizeLine := sl_of (small_of (dict_nodup td2) fun x v hx => let ⟨r, _, _, _, r1, r2, _⟩ := td4 x v hx; ⟨r, (mvs_place I'.ok.1 hp r1).1, r2⟩)
          have ltN : ∀ p ∈ N₆, p.1 < _ := fun p hp => Heap.lt_size ((by assumption : News h₀ L' _ N₆) p hp).1
          have tkeys : ∀ v, (stored dvs (txt q) v).map (·.1) = keyed (((mvs G.lw p).take (i + 1)).map txt) := fun v => by
            rw [List.take_add_one, hq, stored_keys, td3]
            simp only [Option.toList, List.map_append, List.map_cons, List.map_nil]
            rw [keyed_snoc]
          iterate 14 walk1
          rename Fr _ _ _ _ => F₇
          rename News _ _ _ _ => N₇
          refine set_led F₇ N₇ (.tail _ td1') td2 dsz fun h₈ o₈ F₈ NN₈ hd₈ => ?_
          clear F₇ N₇
          iterate 2 walk1
          refine ⟨⟨_, _, rfl⟩, _, _, F₈, NN₈, ?_, ?_⟩
          · intro b hb o hbo
            obtain ⟨oI, hI2, hI3⟩ := hI₁
            have hbd : b ≠ d := fun e => by
              have h1 := News.same NN₁ (e ▸ hbo) td1
              rcases hb with rfl | rfl
              · exact J.ioff (by rw [e]; exact .tail _ (.tail _ (.head _)))
              · have := dict_cls td2
                rw [← h1, News.same NN₁ hbo hl₁] at this
                injection this with this
                exact absurd this (by decide)
            refine mem_put (.tail _ ?_) hbd
            refine g₆.stab b o (.tail _ hbo) ?_ ?_
            · rcases hb with rfl | rfl
              · exact subo _ (subd _ J.ioff)
              · exact subo _ loff
            · refine .of ?_
              rcases hb with rfl | rfl
              · rw [News.same NN₁ hbo hI2, hI3]; intro q; cases q
              · rw [News.same NN₁ hbo hl₁]; intro q; cases q
          · refine { n1 := a1, n2 := a2, n3 := a3, n4 := a4, n5 := a5, fm := (M₆.sup fun q hq => .tail _ hq).at_d J.doff (fun a o x e => mem_put x e) (.head _) (.of (by rw [dict_cls hd₈]; intro q; cases q)) M₀.sub, gr := (((J.gr.trans (.of_sub fun q hq => .tail _ hq)).trans g₆).trans (.of_sub fun q hq => .tail _ hq)).at_d J.nd (fun a o x e => mem_put x e), ne := J.ne, nd := J.nd, ioff := J.ioff, doff := J.doff, dsys := J.dsys, ex := ⟨kv₆, mv₆, (I₆.mono fun q hq => .tail _ hq).at_off (fun a o x e => mem_put x e), kg₁.trans kg₆, kgm₁.trans kgm₆, ism₆, fun r hr => ?_⟩, tb := ⟨o₈, _, .head _, hd₈, tkeys _, fun x v hx => ?_⟩ }
            · rw [List.take_add_one, hq] at hr
              rcases List.mem_append.mp hr with hr | hr
              · exact ⟨(pst r hr).1, kg₆ _ (pst r hr).2⟩
              · simp only [Option.toList, List.mem_singleton] at hr
                subst hr
                exact ⟨h0, is₆⟩
            · rcases mem_stored hx with ⟨rfl, rfl⟩ | hx
              · exact item_new (List.mem_of_getElem? hq) (if_neg h0) (mem_put (.head _) (Nat.ne_of_gt (ltN _ td1'))) (lt_off M₆ I₆ ltN)
              · obtain ⟨r, t', tk', u', r1, r2, r3, r4⟩ := td4 x v hx
                have h6 := g₆.stab t' _ (.tail _ r4.1) (subo _ (subd _ r4.2)) (.of (by intro q; cases q))
                exact ⟨r, t', tk', u', r1, r2, r3, mem_put (.tail _ h6) (fun e => r4.2 (by rw [e]; exact .tail _ (.tail _ (.head _)))), r4.2⟩
      case done =>
        intro I s₁ m₁ N₁ J F₁ NN₁ rs
        obtain ⟨hh₁, tk₁, rfl⟩ := rs
        clear F₄ N₄
        obtain ⟨kv₁, mv₁, I₁, kg₁, kgm₁, ism₁, pst⟩ := J.ex
        obtain ⟨od₁, dvs, td1, td2, td3, td4⟩ := J.tb
        rw [List.take_length] at pst td3
        have hp0 : nim G.g p = 0 := Classical.byContradiction fun e => let ⟨r, r1, r2⟩ := nim_yes I'.ok.1 I'.ok.2.1 hp e; (pst r r1).1 r2
        have a3 := J.n3
        have a4 := J.n4
        have a5 := J.n5
        have F₁ : Fr h₀ L' hh₁ m₁ := F₁
        have NN₁ : News h₀ L' hh₁ N₁ := NN₁
        have I₂ := I₁.pop (N' := N₁) fun _ hp _ => hp
        have M₁ := M₀.grow J.gr
        have kf : G.k ∉ L :: fa := fun e => k2 (M₀.sub _ e)
        iterate 9 walk1
        refine wpAny_wide (make_exc (X.keeps F₁.keep) fun h₂ tk₂ e dx vs tkR nR keep he h1 hdx hdf => ?_) (by have := R.dp; show dp + 1 ≤ 900; dsimp only at this; omega) (by have := R.un; show un + 3 ≤ 9000; dsimp only at this; omega)
        have F₂ : Fr h₀ L' h₂ m₁ := ⟨F₁.ns.at fun o q => keep _ o q, fun b o q => keep b o (F₁.keep b o q), F₁.above⟩
        have N₂ : News h₀ L' h₂ ((e, { cls := .ref 52, dict := some dx, data := .fields vs }) :: (dx, recEntry w d tkR nR) :: N₁) := fun q hq => by
          rcases List.mem_cons.mp hq with rfl | hq
          · exact ⟨he.1, new_ok F₁ he.2⟩
          rcases List.mem_cons.mp hq with rfl | hq
          · exact ⟨hdx, new_ok F₁ hdf⟩
          · exact ⟨keep _ _ (NN₁ q hq).1, (NN₁ q hq).2⟩
        have exc : ExcOK w G (G.off (L :: fb)) ((e, { cls := .ref 52, dict := some dx, data := .fields vs }) :: (dx, recEntry w d tkR nR) :: N₁) e p := by
          refine ⟨_, vs, dx, _, tkR, nR, d, ⟨.head _, none_off NN₁ M₁ I₂ he.2⟩, rfl, rfl, rfl, rfl, ⟨.tail _ (.head _), none_off NN₁ M₁ I₂ hdf⟩, rfl, ⟨od₁, dvs, J.dsys, ⟨.tail _ (.tail _ td1), J.doff⟩, td2, td3, fun x v hx => ?_⟩, .none, h1, .inl rfl⟩
          obtain ⟨r, t', tk', u', r1, r2, r3, r4⟩ := td4 x v hx
          refine ⟨r, t', tk', u', r1, r2, r3, .tail _ (.tail _ r4.1), fun z => r4.2 ?_⟩
          rcases List.mem_cons.mp z with z | z
          · rw [z]; exact .head _
          rcases List.mem_cons.mp z with z | z
          · rw [z]; exact .tail _ (.head _)
          · exact .tail _ (.tail _ (.tail _ z))
        clear F₁ NN₁
        iterate 2 walk1
        refine set_known F₂ N₂ (I₂.mono fun q hq => .tail _ (.tail _ hq)) hp ism₁ (by unfold KnownOK; rw [if_pos hp0]; exact ⟨e, rfl, exc, fun q hq => (pst q hq).2⟩) fun h₃ N₃ F₃ NN₃ I₃ k₃ => ?_
        clear F₂ N₂
        iterate 2 walk1
        have gk : Gr G (L :: fa) ((e, { cls := .ref 52, dict := some dx, data := .fields vs }) :: (dx, recEntry w d tkR nR) :: N₁) N₃ := ⟨fun a o x h1 _ => k₃ a o x (fun e => h1 (by rw [e]; exact .head _)), fun a ha o x => ⟨o.slots, k₃ a o x fun e => kf (e ▸ ha)⟩⟩
        exact ⟨_, _, _, _, _, _, rfl, F₃, a3, a4, NN₃, I₃, (J.gr.trans (.of_sub fun q hq => .tail _ (.tail _ hq))).trans gk, kg₁.trans (fun _ => stored_isSome), kgm₁, stored_self⟩
end Mine
end
section
open PySem PySem.W PySem.Calls PyProof.Rows
set_option maxRecDepth 100000
set_option maxHeartbeats 4000000
namespace Mine
local macro_rules | `(tactic| walk_at "mine 0") => `(tactic| fail "no line")
local macro_rules | `(tactic| walk_at "mine 1") => `(tactic| fail "no line")
local macro_rules | `(tactic| walk_at "mine 2") => `(tactic| fail "no line")
local macro_rules | `(tactic| walk_at "mine 3") => `(tactic| fail "no line")
local macro_rules | `(tactic| walk_at "mine 4") => `(tactic| fail "no line")
local macro_rules | `(tactic| walk_at "mine 5") => `(tactic| fail "no line")
local macro_rules | `(tactic| walk_at "mine 6") => `(tactic| fail "no line")
local macro_rules | `(tactic| walk_at "mine 7") => `(tactic| fail "no line")
local macro_rules | `(tactic| walk_at "mine 8") => `(tactic| fail "no line")
local macro_rules | `(tactic| walk_at "mine 9") => `(tactic| fail "no line")
local macro_rules | `(tactic| walk_at "mine 10") => `(tactic| fail "no line")
theorem ans_all {w : World} {h₀ : Heap} {mean mg mb} (X : (hd.heap_39 w.params).In h₀) (T : TopX w mean mg mb h₀) {G : Gd} (hMoves : MovesSpec w h₀ G) : ∀ n p, IsP p → p.sum ≤ n → AnsSpec w h₀ G p := by
  intro n
  induction n using Nat.strongRecOn with
  | ind n ih =>
    intro p hp hn A L m fa fb N kv mv s t tx Q E R F NN M I _ ht hQ
    exact ans_walk X T hMoves (fun q hq hlt => ih q.sum (by omega) q hq (Nat.le_refl _)) R F NN M I hp ht hQ

local macro_rules | `(tactic| k_mem) => `(tactic| assumption)
local macro_rules | `(tactic| walk_at "eval Name") => `(tactic| (refine ld (by assumption) (by (first | with_reducible assumption)) ?_))

def ToldOK (w : World) (G : Gd) (off : List Addr) (N : Led) (p : List Nat) (v : Value) : Prop :=
  if nim G.g p = 0 then ∃ tab, v = .ref tab ∧ TabOK w G off N tab p else IsT v (txt (ans G.lw G.g p))
theorem told_walk {w : World} {h₀ : Heap} {mean mg mb} (X : (hd.heap_39 w.params).In h₀) (T : TopX w mean mg mb h₀) {G : Gd} {p : List Nat} (hMoves : MovesSpec w h₀ G)
    {A : Around} {L m fa fb N kv mv} {s : Shared} {tx : Tok} {Q E : Value → Shared → Prop}
    (R : Room A (2 * p.sum + 6)) (F : Fr h₀ L s.heap m) (NN : News h₀ L s.heap N) (M : Fm A L G fa fb N) (I : Inv w G fb N kv mv) (hp : IsP p)
    (hQ : ∀ h' N' kv' mv' tk' v, Fr h₀ L h' m → News h₀ L h' N' → Fm A L G fa fb N' → Inv w G fb N' kv' mv' → Gr G fa N N' → Kg kv kv' → Kg mv mv' → (valueAt kv' (txt p)).isSome = true →
      ToldOK w G (G.off fb) N' p v → Q v { s with heap := h', toks := tk' }) :
    wpAny (model PP w) A (call (.ref 78) [.ref G.ln, .ref G.mv, .ref G.k, .str (txt p) tx]) Q E s := by
  obtain ⟨env, outer, e1, e2⟩ := M.top
  obtain ⟨hdl, dp, fr, gd, un⟩ := A
  obtain rfl : hdl = none := R.hd
  obtain rfl : fr = some (env :: outer) := e1
  refine wpAny_call ?_
  k_dflt (refine' callF (binds := [(Str.ofString "links", .ref G.ln), (Str.ofString "moves", .ref G.mv), (Str.ofString "known", .ref G.k), (Str.ofString "place", .str (txt p) tx)]) F X NN T.nolimit ?ho ?hcd R.depth ?bind ?loc ?_ ?c1 ?c2 ?c3 ?c4; (case ho => k_is); (case hcd => k_is); (case bind => exact BindsTo.of_eq rfl); (case loc => exact locs rfl); (case c1 => rfl); (case c2 => rfl); (case c3 => rfl); (case c4 => decide))
  intro L' h₁ oL hL F' N' lt'
  k_fold
  have hd := Fr.nofields F hL
  have M' : ∀ env' : Env, env'.frame = some L' → env'.scope.kind = .function → Fm (Around.deeper { handled := none, depth := dp, frames := some (env :: outer), guards := gd, units := un } env') L' G (L :: fa) (L :: fb) ((L, oL) :: N) := fun _ a b => M.push hd a b
  have I' := I.push (fun q hq => (NN q hq).2.1) oL
  iterate 22 walk1
  rename Fr _ L' _ _ => F₁
  rename News _ L' _ _ => N₁
  refine ans_all X T hMoves p.sum p hp (Nat.le_refl _) _ _ _ (L :: fa) (L :: fb) _ kv mv _ _ tx _ _ ((R.deeper _).le (by omega)) F₁ N₁ ((M' _ rfl rfl).sup fun q hq => .tail _ hq) (I'.mono fun q hq => .tail _ hq) hp (.head _) ?_
  clear F₁ N₁
  intro h₂ N₂ kv' mv' tk₂ v F₂ NN₂ M₂ I₂ g₂ kg₂ kgm₂ is₂
  have g₂' := (Gr.of_sub (G := G) (fa := L :: fa) (fun q hq => List.mem_cons_of_mem _ hq)).trans g₂
  refine ⟨fun h0 e he hx => ?_, fun h0 hv => ?_⟩
  · subst he
    refine leave_inv (outer := env :: outer) rfl rfl F₂ NN₂ M₂ I₂ hx ?_
    intro h₃ N₃ F₃ NN₃ M₃ I₃ hx₃ g₃
    obtain ⟨oe, vs, dx, hh, tkk, n, tab, x1, x2, x3, x4, x5, x6, x7, x8, head, y1, y2⟩ := id hx₃.ex
    have hHead : HeadOk h₃ e head := y2.imp id fun ⟨T, oT, ts, b1, b2, b3, _, b5, b6⟩ => ⟨T, oT, ts, b1, b2, NN₃.get b3.1, b5, b6⟩
    clear NN₂ F₂
    refine wpAny_handleBy_cons (codeAny_handlers_test ?_) (by intro q; cases q)
    iterate 1 walk1
    refine exc_match (X.keeps F₃.keep) (NN₃.get x1.1) x2 ?_
    refine codeAny_handlers_suite_as ?_
    refine set_again (NN₃.get x1.1) x4 y1 hHead fun h₅ same₅ => ?_
    have F₅ := Fr.look F₃ same₅
    have NN₅ := News.look NN₃ same₅
    clear NN₃ F₃
    obtain ⟨ec, eo, ed, es⟩ := oe
    dsimp only at x2 x3 x4 x5
    subst x2 x3 x4 x5
    iterate 6 walk1
    rename Fr _ L' _ _ => F₆
    rename News _ L' _ _ => N₆
    refine get_rec (X.keeps F₆.keep) (by have := R.dp; show dp + 1 ≤ 900; dsimp only at this; omega) (by have := R.un; show un + 3 ≤ 9000; dsimp only at this; omega) (N₆.get x1.1) (N₆.get x6.1) fun u₇ => ?_
    dsimp only
    refine wpAny_nameGoes (by rfl) F₆.ns (by rfl) fun h₇ m₇ hn₇ hs₇ => ?_
    show Q (.ref tab) _
    obtain ⟨N₉, F₉, NN₉, M₉, I₉, g₉, at₉⟩ := back F hL NN M (F₆.set hn₇ hs₇) (N₆.set hs₇) I₃ (g₂'.trans g₃)
    exact hQ h₇ N₉ kv' mv' _ _ F₉ NN₉ M₉ I₉ g₉ kg₂ kgm₂ is₂ (by unfold ToldOK; rw [if_pos h0]; exact ⟨tab, rfl, x8.mono fun a o x _ => at₉ a o x⟩)
  · obtain ⟨N₅, F₅, NN₅, M₅, I₅, g₅, _⟩ := back F hL NN M F₂ NN₂ I₂ g₂'
    exact hQ h₂ N₅ kv' mv' _ _ F₅ NN₅ M₅ I₅ g₅ kg₂ kgm₂ is₂ (by unfold ToldOK; rw [if_neg h0]; exact hv)
end Mine
end
section
open PySem PySem.W PySem.Calls PyProof.Rows
set_option maxRecDepth 100000
set_option maxHeartbeats 4000000
namespace Mine

/-- the names of a comprehension's own frame, in the ledger -/
def CN (C : Addr) (N : Led) (m : Str → Option Value) : Prop :=
  ∃ o es ep, (C, o) ∈ N ∧ o.data = .dict es ep ∧ StrKeys es ∧ ∀ name, nsFind es name = m name
theorem CN.ns {C L : Addr} {N : Led} {m : Str → Option Value} {h₀ h : Heap} (c : CN C N m) (NN : News h₀ L h N) : h.Ns C m :=
  let ⟨o, es, ep, h1, h2, h3, h4⟩ := c; ⟨o, es, ep, NN.get h1, h2, h3, h4⟩
theorem CN.mono {C : Addr} {N N' : Led} {m : Str → Option Value} (c : CN C N m) (hs : ∀ o, (C, o) ∈ N → (C, o) ∈ N') : CN C N' m :=
  let ⟨o, es, ep, h1, r⟩ := c; ⟨o, es, ep, hs _ h1, r⟩
theorem CN.of_ns {C : Addr} {N : Led} {m : Str → Option Value} {h : Heap} (n : h.Ns C m) (hs : ∀ o, h.get? C = some o → (C, o) ∈ N) : CN C N m :=
  let ⟨o, es, ep, h1, r⟩ := n; ⟨o, es, ep, hs _ h1, r⟩
theorem CN.there {C : Addr} {N : Led} {m : Str → Option Value} (c : CN C N m) : ∃ o, (C, o) ∈ N ∧ Kept o :=
  let ⟨o, _, _, h1, h2, _⟩ := c; ⟨o, h1, .dict h2⟩

section
variable {w : World} {A : Around} {E : Value → Shared → Prop} {s : Shared} {h₀ : Heap} {L : Addr} {cenv : Env} {m mc : Str → Option Value} {N : Led} {x : Str} {px ps : Pos} {R : Result → Shared → Prop}

/-- a comprehension's loop over anything that walks, the ledger at hand; the iterator and the comprehension's frame are entries -/
theorem comp_led {e : PySem.Expr} {depth : Nat} {acc : Value} {body : Sem Unit} {I : Addr} {fp : List Addr} {n : Nat} {P : Nat → Value → Prop} {St : Nat → Heap → Prop} {T : Value} (W : Walks PP w A I fp [I] n P St)
    (hden : (Code.compLoop e depth (.ref I) acc cenv).isFrame = false)
    (hq : (Code.compLoop e depth (.ref I) acc cenv).quiet = true)
    (hun : A.under (Code.compLoop e depth (.ref I) acc cenv) = A)
    (hturn : compTurn e depth (.ref I) acc cenv = (standAt ps >>= fun _ => pyNext (.ref I) >>= fun r => match r with
      | none => pure (.done .next)
      | some v => letOwnedTupleGo (.Name x px) (.ref I) v >>= fun _ => assign (.Name x px) cenv v >>= fun _ => body >>= fun _ => again (.compLoop e depth (.ref I) acc cenv)))
    (hcls : ∀ i h, St i h → ∃ o, h.get? I = some o ∧ o.cls = T)
    (J : Nat → (Str → Option Value) → Led → Prop)
    (hJ : ∀ i m m' N N', J i m N → (∀ o, (I, o) ∈ N → o.cls = T) → (∀ a o, (a, o) ∈ N → a ≠ I → a ≠ cenv.locals → (a, o) ∈ N') → (∀ o, (I, o) ∈ N' → o.cls = T) → CN cenv.locals N' m' → (∀ y, y ≠ x → m' y = m y) → J i m' N')
    (hx : cenv.kindOf x = some .local) (hk : cenv.scope.kind = .function) (hIC : I ≠ cenv.locals) (hfC : cenv.locals ∉ fp)
    (F : Fr h₀ L s.heap m) (NN : News h₀ L s.heap N) (hfp : ∀ b ∈ fp, ∃ o, (b, o) ∈ N) (hc : CN cenv.locals N mc) (hst : St 0 s.heap) (hj : J 0 mc N)
    (turn : ∀ (i : Nat) (v : Value) (s₁ : Shared) (m₁ : Str → Option Value) (N₁ : Led), i < n → P i v → J i (fun y => if y = x then some v else m₁ y) N₁ → Fr h₀ L s₁.heap m → News h₀ L s₁.heap N₁ → CN cenv.locals N₁ (fun y => if y = x then some v else m₁ y) → (∀ b ∈ fp, ∃ o, (b, o) ∈ N₁) →
      (∀ b ∈ fp, b ≠ I → ∀ o, (b, o) ∈ N → (b, o) ∈ N₁) → (∀ o, (I, o) ∈ N₁ → o.cls = T) → Rest s s₁ →
      wpAny (model PP w) A body (fun _ s₃ => Rest s s₃ ∧ ∃ m₃ N₃, Fr h₀ L s₃.heap m ∧ News h₀ L s₃.heap N₃ ∧ CN cenv.locals N₃ m₃ ∧ (∀ b ∈ fp, ∀ o, (b, o) ∈ N₁ → (b, o) ∈ N₃) ∧ J (i + 1) m₃ N₃) (fun _ _ => False) s₁)
    (done : ∀ s₁ m₁ N₁, J n m₁ N₁ → Fr h₀ L s₁.heap m → News h₀ L s₁.heap N₁ → CN cenv.locals N₁ m₁ → Rest s s₁ → R (.ok .next) s₁) :
    codeAny (model PP w) A (.compLoop e depth (.ref I) acc cenv) R s := by
  have hp : (cenv.scope.kind == .class || (cenv.scope.kind == .module && cenv.locals != cenv.globals)) = false := by rw [hk]; rfl
  refine codeAny_loop hq (fun k s' => ∃ i m' N', Rest s s' ∧ Fr h₀ L s'.heap m ∧ News h₀ L s'.heap N' ∧ CN cenv.locals N' m' ∧ (∀ b ∈ fp, ∃ o, (b, o) ∈ N') ∧ (∀ b ∈ fp, b ≠ I → ∀ o, (b, o) ∈ N → (b, o) ∈ N') ∧ St i s'.heap ∧ J i m' N' ∧ i ≤ n ∧ k = n + 1 - i) ?_ (n + 1)
    ⟨0, mc, N, .refl s, F, NN, hc, hfp, (fun _ _ _ _ q => q), hst, hj, Nat.zero_le _, rfl⟩
  rintro k s' ⟨i, m', N', rs, F', NN', hc', hfp', hold', hst', hJ', hi, rfl⟩
  rw [hun]
  have hIf : I ∈ fp := W.sub I (.head _)
  have IL : I ≠ L := let ⟨o, ho⟩ := hfp' I hIf; (NN' _ ho).2.1
  have CL : cenv.locals ≠ L := let ⟨o, ho, _⟩ := hc'.there; (NN' _ ho).2.1
  have I0 : h₀.get? I = none := let ⟨o, ho⟩ := hfp' I hIf; (NN' _ ho).2.2
  have C0 : h₀.get? cenv.locals = none := let ⟨o, ho, _⟩ := hc'.there; (NN' _ ho).2.2
  have cI' : ∀ o, (I, o) ∈ N' → o.cls = T := fun o q => by
    obtain ⟨o₂, h1, h2⟩ := hcls _ _ hst'
    rw [NN'.get q] at h1
    cases h1; exact h2
  have frame : ∀ {h h' : Heap} {wr : List Addr}, Fr h₀ L h m → (∀ b o, b ∉ wr → h.get? b = some o → h'.get? b = some o) → (∀ b ∈ wr, b ≠ L ∧ h₀.get? b = none) → Fr h₀ L h' m := fun F hk' hw =>
    ⟨F.ns.at fun o e => hk' _ o (fun q => (hw _ q).1 rfl) e, fun b o e => hk' b o (fun q => by rw [(hw _ q).2] at e; cases e) (F.keep b o e), F.above⟩
  have hIw : ∀ b ∈ [I], b ≠ L ∧ h₀.get? b = none := fun b hb => by rw [List.mem_singleton.mp hb]; exact ⟨IL, I0⟩
  have isT : (model PP w).den (.compLoop e depth (.ref I) acc cenv) = (compTurn e depth (.ref I) acc cenv).onRaise (fun x => do noteFrame x cenv; theTreesLotGoes x) := by
    show (if (Code.compLoop e depth (.ref I) acc cenv).isFrame = true then _ else _) = _
    rw [hden]; rfl
  rw [isT]
  refine wpAny_noted ?_
  rw [hturn]
  refine wpAny_bind (wpAny_standAt (wpAny_bind ?_))
  by_cases hlt : i < n
  · refine W.item i _ _ _ hlt hst' fun v h' tk hP hst₁ hk₁ => ?_
    refine wpAny_bind (wpAny_pure ?_)
    refine wpAny_bind (wpAny_assign_Name (wpAny_storeName_local hx ((hc'.ns NN').at' fun o q => hk₁ _ o (by simpa using Ne.symm hIC) q) (fun h₂ hn₂ hs₂ => ?_) hp))
    have F₁ : Fr h₀ L h' m := frame F' hk₁ hIw
    have F₂ : Fr h₀ L h₂ m := frame (wr := [cenv.locals]) F₁ (fun b o hb q => (hs₂.2 b (by simpa using hb)).trans q) (fun b hb => by rw [List.mem_singleton.mp hb]; exact ⟨CL, C0⟩)
    have there : ∀ a o, (a, o) ∈ N' → ∃ o', h₂.get? a = some o' := fun a o q => by
      by_cases e1 : a = cenv.locals
      · obtain ⟨o', _, _, q', _⟩ := hn₂
        exact ⟨o', e1 ▸ q'⟩
      · by_cases e2 : a = I
        · obtain ⟨o', q', _⟩ := hcls _ _ hst₁
          exact ⟨o', (hs₂.2 a e1).trans (e2 ▸ q')⟩
        · exact ⟨o, (hs₂.2 a e1).trans (hk₁ a o (by simpa using e2) (NN'.get q))⟩
    have keepN : ∀ a o, (a, o) ∈ N' → a ≠ I → a ≠ cenv.locals → (a, o) ∈ reread h₂ N' := fun a o q e2 e1 => mem_reread q ((hs₂.2 a e1).trans (hk₁ a o (by simpa using e2) (NN'.get q)))
    have N₂ : News h₀ L h₂ (reread h₂ N') := fun q hq => by
      obtain ⟨r, hr, rfl⟩ := List.mem_map.mp hq
      obtain ⟨o₂, h₂'⟩ := there r.1 r.2 hr
      exact ⟨by simp [h₂'], (NN' _ hr).2⟩
    have cI₂ : ∀ o, (I, o) ∈ reread h₂ N' → o.cls = T := fun o q => by
      obtain ⟨o', q', c'⟩ := hcls _ _ hst₁
      have := N₂.get q
      rw [(hs₂.2 I hIC).trans q'] at this
      cases this; exact c'
    have c₂ : CN cenv.locals (reread h₂ N') (fun y => if y = x then some v else m' y) := .of_ns hn₂ fun o q => let ⟨o', ho', _⟩ := hc'.there; mem_reread ho' q
    have hfp₂ : ∀ b ∈ fp, ∃ o, (b, o) ∈ reread h₂ N' := fun b hb => by
      obtain ⟨o, ho⟩ := hfp' b hb
      exact ⟨_, List.mem_map.mpr ⟨_, ho, rfl⟩⟩
    have bC : ∀ b ∈ fp, b ≠ cenv.locals := fun b hb q => hfC (q ▸ hb)
    have hold₂ : ∀ b ∈ fp, b ≠ I → ∀ o, (b, o) ∈ N → (b, o) ∈ reread h₂ N' := fun b hb hne o ho => keepN b o (hold' b hb hne o ho) hne (bC b hb)
    have st₂ : St (i + 1) h₂ := W.frame _ _ _ hst₁ fun b hb o q => (hs₂.2 b (bC b hb)).trans q
    have rs₂ : Rest s { s' with heap := h₂, toks := tk + 1 } := rs.trans (.mk' s' h₂ (tk + 1))
    have J₂ := hJ i m' (fun y => if y = x then some v else m' y) N' _ hJ' cI' keepN cI₂ c₂ (fun y hy => if_neg hy)
    refine wpAny_bind (wpAny_mono (turn i v { s' with heap := h₂, toks := tk + 1 } m' _ hlt hP J₂ F₂ N₂ c₂ hfp₂ hold₂ cI₂ rs₂) (fun _ s₃ h₃ => ?_) fun _ _ f => f.elim)
    obtain ⟨rs₃, m₃, N₃, F₃, NN₃, hc₃, hf₃, J₃⟩ := h₃
    refine wpAny_pure ⟨rfl, n + 1 - (i + 1), by omega, i + 1, m₃, N₃, rs₃, F₃, NN₃, hc₃, fun b hb => ?_, fun b hb hne o ho => hf₃ b hb o (hold₂ b hb hne o ho), ?_, J₃, hlt, rfl⟩
    · obtain ⟨o, ho⟩ := hfp₂ b hb
      exact ⟨o, hf₃ b hb o ho⟩
    · refine W.frame _ _ _ st₂ fun b hb o q => ?_
      obtain ⟨o₂, ho₂⟩ := hfp₂ b hb
      have e₂ := N₂.get ho₂
      have : h₂.get? b = some o := q
      rw [e₂] at this
      cases this
      exact NN₃.get (hf₃ b hb _ ho₂)
  · have hin : i = n := by omega
    subst hin
    refine W.done _ _ _ hst' fun h' tk hk₁ => wpAny_pure ?_
    have F₁ : Fr h₀ L h' m := frame F' hk₁ hIw
    have N₁ : News h₀ L h' (N'.filter fun p => !(p.1 == I)) := fun r hr => by
      obtain ⟨h1, h2⟩ := List.mem_filter.mp hr
      exact ⟨hk₁ _ _ (by simpa using h2) (NN' r h1).1, (NN' r h1).2⟩
    have keepN : ∀ a o, (a, o) ∈ N' → a ≠ I → (a, o) ∈ N'.filter fun p => !(p.1 == I) := fun a o q hne => List.mem_filter.mpr ⟨q, by simpa using hne⟩
    have c₁ : CN cenv.locals (N'.filter fun p => !(p.1 == I)) m' := hc'.mono fun o q => keepN _ o q (Ne.symm hIC)
    exact done _ m' _ (hJ i m' m' N' _ hJ' cI' (fun a o q hne _ => keepN a o q hne) (fun o q => by
      have := (List.mem_filter.mp q).2
      simp at this) c₁ fun _ _ => rfl) F₁ N₁ c₁ (rs.trans (.mk' s' h' tk))
end
end Mine
end
section
open PySem PySem.W PySem.Calls PyProof.Rows
set_option maxRecDepth 100000
set_option maxHeartbeats 4000000
namespace Mine

theorem slice_lo0 (a b c : Nat) : Txt.slice (txt [a, b, c]) none (some 0) = txt [] := by rfl
theorem slice_lo1 (a b c : Nat) : Txt.slice (txt [a, b, c]) none (some 1) = txt [a] := by rfl
theorem slice_lo2 (a b c : Nat) : Txt.slice (txt [a, b, c]) none (some 2) = txt [a, b] := by rfl
theorem slice_hi1 (a b c : Nat) : Txt.slice (txt [a, b, c]) (some 1) none = txt [b, c] := by
  unfold Txt.slice
  rw [show Builtin.Str.strSliceIndices (some 1) none 1 (txt [a, b, c]).length = [1, 2] from by show Builtin.Str.strSliceIndices (some 1) none 1 3 = _; decide +kernel]
  rfl
theorem slice_hi2 (a b c : Nat) : Txt.slice (txt [a, b, c]) (some 2) none = txt [c] := by
  unfold Txt.slice
  rw [show Builtin.Str.strSliceIndices (some 2) none 1 (txt [a, b, c]).length = [2] from by show Builtin.Str.strSliceIndices (some 2) none 1 3 = _; decide +kernel]
  rfl
theorem slice_hi3 (a b c : Nat) : Txt.slice (txt [a, b, c]) (some 3) none = txt [] := by rfl
theorem txt_append (a b : List Nat) : txt a ++ txt b = txt (a ++ b) := by
  show (⟨_⟩ : Str) = ⟨_⟩
  congr 1
  unfold txt
  simp
theorem glue_txt : ∀ ds : List Nat, Builtin.Str.glued ⟨#[]⟩ (ds.map fun d => txt [d]) = txt ds := by
  intro ds
  rw [StrLaws.glued_eq_join]
  induction ds with
  | nil => rfl
  | cons d r ih =>
    cases r with
    | nil => rfl
    | cons y r =>
      show txt [d] ++ (⟨#[]⟩ : Str) ++ Str.join ⟨#[]⟩ ((y :: r).map fun d => txt [d]) = _
      rw [ih]
      have e : txt [d] ++ (⟨#[]⟩ : Str) = txt [d] := by
        show (⟨_⟩ : Str) = ⟨_⟩
        congr 1
      rw [e, txt_append]
      rfl
theorem joinOk_txt (ds : List Nat) (h : ds.length ≤ 64) : JoinOk ⟨#[]⟩ (ds.map fun d => txt [d]) = true := by
  unfold JoinOk
  have key : ∀ (l : List Nat) (n : Nat), (l.map fun d => txt [d]).foldl (fun x1 x2 => x1 + x2.length + (⟨#[]⟩ : Str).length) n = n + l.length := by
    intro l
    induction l with
    | nil => intro n; rfl
    | cons d r ih =>
      intro n
      rw [List.map_cons, List.foldl_cons, ih, List.length_cons]
      show n + 1 + 0 + r.length = _
      omega
  rw [List.foldl_toArray, key, Nat.zero_add]
  unfold Builtin.Str.tooLong
  simp
  rw [sizeLine_eq]; omega

theorem item_dig (a b c i : Nat) (hi : i < 3) : Txt.item (txt [a, b, c]) (i : Int) = txt [[a, b, c].getD i 0] := by
  rcases (by omega : i = 0 ∨ i = 1 ∨ i = 2) with rfl | rfl | rfl <;> rfl
theorem slice_lo (a b c i : Nat) (hi : i < 3) : Txt.slice (txt [a, b, c]) none (some (i : Int)) = txt ([a, b, c].take i) := by
  rcases (by omega : i = 0 ∨ i = 1 ∨ i = 2) with rfl | rfl | rfl
  · exact slice_lo0 a b c
  · exact slice_lo1 a b c
  · exact slice_lo2 a b c
theorem slice_hi (a b c i : Nat) (hi : i < 3) : Txt.slice (txt [a, b, c]) (some ((i : Int) + 1)) none = txt ([a, b, c].drop (i + 1)) := by
  rcases (by omega : i = 0 ∨ i = 1 ∨ i = 2) with rfl | rfl | rfl
  · exact slice_hi1 a b c
  · exact slice_hi2 a b c
  · exact slice_hi3 a b c
theorem put_dig (a b c i j : Nat) (hi : i < 3) : txt ([a, b, c].take i) ++ txt [j] ++ txt ([a, b, c].drop (i + 1)) = txt ([a, b, c].set i j) := by
  rcases (by omega : i = 0 ∨ i = 1 ∨ i = 2) with rfl | rfl | rfl <;> (rw [txt_append, txt_append]; rfl)
theorem flat_len {α : Type} {f : Nat → List α} (h : ∀ k, (f k).length ≤ 4) : ∀ i, ((List.range i).flatMap f).length ≤ 4 * i
  | 0 => Nat.le_refl _
  | i + 1 => by
    rw [List.range_succ, List.flatMap_append, List.length_append]
    have h1 := flat_len h i
    have h2 := h i
    simp only [List.flatMap_cons, List.flatMap_nil, List.append_nil]
    omega
theorem texts_snoc : ∀ {vs : List Value} {ts : List Str} {x : Str} {t : Tok}, StrsAre vs ts → StrsAre (vs ++ [.str x t]) (ts ++ [x])
  | _, _, x, t, .nil => .cons x t .nil
  | _, _, x, t, .cons y u h => .cons y u (texts_snoc h)
theorem isort_perm : ∀ l, (isort l).Perm l
  | [] => .nil
  | x :: r => by
    have h : ∀ (x : Nat) (l : List Nat), (ins x l).Perm (x :: l) := by
      intro x l
      induction l with
      | nil => exact .refl _
      | cons y r ih =>
        unfold ins
        split
        · exact .refl _
        · exact (ih.cons y).trans (.swap x y r)
    exact (h x (isort r)).trans ((isort_perm r).cons x)
theorem isort_sorted : ∀ l, (isort l).Pairwise (· ≤ ·)
  | [] => .nil
  | x :: r => by
    have h : ∀ (x : Nat) (l : List Nat), l.Pairwise (· ≤ ·) → (ins x l).Pairwise (· ≤ ·) := by
      intro x l
      induction l with
      | nil => intro _; exact List.pairwise_singleton _ _
      | cons y r ih =>
        intro hp
        unfold ins
        have hp' := List.pairwise_cons.mp hp
        split
        · rename_i hxy
          exact List.pairwise_cons.mpr ⟨fun z hz => by
            rcases List.mem_cons.mp hz with rfl | hz
            · exact hxy
            · exact Nat.le_trans hxy (hp'.1 z hz), hp⟩
        · rename_i hxy
          refine List.pairwise_cons.mpr ⟨fun z hz => ?_, ih hp'.2⟩
          have hpm : (ins x r).Perm (x :: r) := by
            have := isort_perm
            clear this ih hp hp' hz
            induction r with
            | nil => exact .refl _
            | cons u r ih =>
              unfold ins
              split
              · exact .refl _
              · exact (ih.cons u).trans (.swap x u r)
          rcases List.mem_cons.mp (hpm.mem_iff.mp hz) with rfl | hz
          · omega
          · exact hp'.1 z hz
    exact h x (isort r) (isort_sorted r)

def dig (x : Str) : Nat := x.cps.toList.headD 48 - 48
theorem dig_txt (d : Nat) : dig (txt [d]) = d := by
  show (48 + d) - 48 = d
  omega
theorem perm_digits {ss : List Str} {ds : List Nat} (hp : ss.Perm (ds.map fun d => txt [d])) : ss = (ss.map dig).map fun d => txt [d] := by
  rw [List.map_map]
  conv => lhs; rw [← List.map_id ss]
  refine List.map_congr_left fun x hx => ?_
  obtain ⟨d, _, rfl⟩ := List.mem_map.mp (hp.mem_iff.mp hx)
  show txt [d] = txt [dig (txt [d])]
  rw [dig_txt]
theorem sorted_digits {ss : List Str} {ds : List Nat} (hp : ss.Perm (ds.map fun d => txt [d])) (hs : sortedS ss = true) : ss = (isort ds).map fun d => txt [d] := by
  have e := perm_digits hp
  have hp2 : (ss.map dig).Perm ds := by
    have := hp.map dig
    rwa [List.map_map, show (dig ∘ fun d => txt [d]) = id from funext fun d => dig_txt d, List.map_id] at this
  have key : ∀ (l : List Nat) (p : Nat), risingS (txt [p]) (l.map fun d => txt [d]) = true → (p :: l).Pairwise (· ≤ ·) := by
    intro l
    induction l with
    | nil => intro p _; exact List.pairwise_singleton _ _
    | cons y r ih =>
      intro p h
      simp only [List.map_cons, risingS, Bool.and_eq_true, Bool.not_eq_true'] at h
      have h1 := h.1
      rw [show (txt [y]).cps.toList = [48 + y] from rfl, show (txt [p]).cps.toList = [48 + p] from rfl, ltCps_eq] at h1
      have h2 : ¬ (y < p) := fun hlt => by
        have : ([48 + y] : List Nat) < [48 + p] := by
          apply List.Lex.rel
          omega
        simp [this] at h1
      have h3 := ih y h.2
      refine List.pairwise_cons.mpr ⟨fun z hz => ?_, h3⟩
      rcases List.mem_cons.mp hz with rfl | hz
      · omega
      · have := (List.pairwise_cons.mp h3).1 z hz
        omega
  have hs2 : (ss.map dig).Pairwise (· ≤ ·) := by
    rw [e] at hs
    revert hs
    generalize ss.map dig = l
    intro hs
    cases l with
    | nil => exact .nil
    | cons x r => exact key r x hs
  rw [e, List.Perm.eq_of_pairwise (le := (· ≤ ·)) (fun a b _ _ h1 h2 => Nat.le_antisymm h1 h2) hs2 (isort_sorted ds) (hp2.trans (isort_perm ds).symm)]

section
variable {w : World} {A : Around} {E : Value → Shared → Prop} {s : Shared} {Q : Value → Shared → Prop}
theorem texts_of_items : ∀ (ds : List Nat) (vs : List Value), vs.length = ds.length → (∀ j v, vs[j]? = some v → ∃ u, v = Value.str (txt [ds.getD j 0]) u) → StrsAre vs (ds.map fun d => txt [d])
  | [], [], _, _ => .nil
  | d :: r, v :: vs, hl, h => by
    obtain ⟨u, rfl⟩ := h 0 v rfl
    exact .cons _ u (texts_of_items r vs (by simpa using hl) fun j v hv => by simpa using h (j + 1) v (by simpa using hv))
  | [], _ :: _, hl, _ => by simp at hl
  | _ :: _, [], hl, _ => by simp at hl

/-- sorted(text) of a text of digits -/
theorem sorted_text {ds : List Nat} {t : Tok} (hh : A.handled = none) (h64 : ds.length < 64)
    (h : ∀ h' tk D vs' n, (∀ b o, s.heap.get? b = some o → h'.get? b = some o) → s.heap.get? D = none → h'.get? D = some (seqObj "list" (List.toArray vs') n) → StrsAre vs' ((isort ds).map fun d => txt [d]) → Q (.ref D) { s with heap := h', toks := tk }) :
    wpAny (model PP w) A (call (.builtin "sorted") [.str (txt ds) t]) Q E s := by
  refine Calls.call_function_entry kind_sorted plain_sorted entry_sorted (args_sorted1 _) ?_
  unfold Builtin.«sorted»
  refine wpAny_bind (m := checkCount "sorted" 1 1 _) (wpAny_pure ?_)
  have hsz : (txt ds).cps.size = ds.length := txt_len ds
  refine wpAny_bind (show wpAny (model PP w) A.in1 (collect (.str (txt ds) t)) _ _ _ from ?_)
  refine (wpAny_collect_str (A := A.in1) hh (txt ds) t (hn := by rw [hsz, sizeLine_eq]; omega) fun s₁ acc k₁ g₁ d₁ o₁ hacc => ?_)
  obtain ⟨H, g, d, tk, os⟩ := s₁
  dsimp only at k₁ g₁ d₁ o₁
  subst g₁ d₁ o₁
  have hS : StrsAre acc.toList (ds.map fun d => txt [d]) := texts_of_items ds acc.toList (by simpa [hsz] using hacc.1) fun j v hv => by
    obtain ⟨c, u, hc, rfl⟩ := hacc.2 j v (by simpa using hv)
    refine ⟨u, ?_⟩
    have : (ds.map (48 + ·))[j]? = some c := by
      have : ((ds.map (48 + ·)).toArray)[j]? = some c := hc
      simpa using this
    rw [List.getElem?_map] at this
    obtain ⟨x, hx, rfl⟩ := Option.map_eq_some_iff.mp this
    have e : ds.getD j 0 = x := by rw [List.getD_eq_getElem?_getD, hx]; rfl
    rw [e]; rfl
  have hlen : acc.toList.length < 64 := by have := hacc.1; simp only [hsz] at this; simp only [Array.length_toList]; omega
  refine wpAny_bind (wpAny_newList ?_)
  have hoL : (H.push (seqObj "list" acc.toList.toArray 0)).get? H.objs.size = some (seqObj "list" acc.toList.toArray 0) := Heap.get?_push_size _ rfl
  refine wpAny_bind (wpAny_holding (wpAny_call_entry slot_list_sort ⟨_, hoL, rfl⟩ entry_list_sort (list_sort_treeK strKind_oneLt hoL hS.keysOf (fun v₁ v₂ rest e => keyKind_strs (by rw [← e]; exact hS)) hlen fun st' a1 a2 => ⟨_, rfl, ?_⟩) (args_list_sort _)))
  obtain ⟨ss', b1, b2, b3⟩ := sorted_out_str hS a1 a2
  obtain ⟨e, he⟩ := sortedHeap_at (vs := acc.toList) (out := (arrOf st').map (·.2)) hoL
  refine wpAny_pure ⟨_, rfl, ?_⟩
  have hH : ∀ b o, s.heap.get? b = some o → b < H.objs.size := fun b o q => Heap.lt_size (k₁ b o q)
  refine h _ _ H.objs.size ((arrOf st').map (·.2)).toList e (fun b o q => ?_) ?_ (by rw [Array.toArray_toList]; exact he) (by rw [← sorted_digits b2 b3]; exact b1)
  · rw [sortedHeap_old (Nat.ne_of_lt (hH b o q)) (by rw [size_push']; exact Nat.lt_succ_of_lt (hH b o q)), Heap.get?_push_ne _ _ _ (Nat.ne_of_lt (hH b o q))]
    exact k₁ b o q
  · cases q : s.heap.get? H.objs.size with
    | none => rfl
    | some o => exact absurd (hH _ o q) (Nat.lt_irrefl _)

theorem strValues_of : ∀ {vs : List Value} {ss : List Str}, StrsAre vs ss → ∃ l : List (Str × Tok), vs = strValues l ∧ l.map (·.1) = ss
  | _, _, .nil => ⟨[], rfl, rfl⟩
  | _, _, .cons x t h => by
    obtain ⟨l, rfl, rfl⟩ := strValues_of h
    exact ⟨(x, t) :: l, rfl, rfl⟩
/-- ''.join of a list of digits -/
theorem join_text {ds : List Nat} {t : Tok} {D : Addr} {vs : List Value} {n : Nat} (h64 : ds.length ≤ 64) (hD : s.heap.get? D = some (seqObj "list" vs.toArray n)) (hS : StrsAre vs (ds.map fun d => txt [d]))
    (h : ∀ t' k, Q (.str (txt ds) t') { s with toks := k }) : wpAny (model PP w) A (call (.builtin "str.join") [.str (Str.ofString "") t, .ref D]) Q E s := by
  rw [show Str.ofString "" = ⟨#[]⟩ from by decide +kernel]
  obtain ⟨l, rfl, hl⟩ := strValues_of hS
  refine SC.join ⟨_, hD, rfl, n, rfl⟩ hl (joinOk_txt ds h64) fun t' k => ?_
  have e : Txt.join ⟨#[]⟩ (ds.map fun d => txt [d]) = txt ds := glue_txt ds
  rw [e]
  exact h t' k
theorem add_put {a b c i q : Nat} {t1 t2 : Tok} (hi : i < 3) (h : ∀ t' k, Q (.str (txt ([a, b, c].set i q)) t') { s with toks := k }) :
    wpAny (model PP w) A (binaryOp .Add (.str (Txt.slice (txt [a, b, c]) none (some (i : Int)) ++ ⟨#[48 + q]⟩) t1) (.str (Txt.slice (txt [a, b, c]) (some ((i : Int) + 1)) none) t2)) Q E s := by
  rw [show (⟨#[48 + q]⟩ : Str) = txt [q] from rfl, slice_lo a b c i hi, slice_hi a b c i hi]
  refine SBL.add (fun t' k _ => ?_) (hsz := ?_)
  · rw [put_dig a b c i q hi]
    exact h t' k
  · rw [Str.length_append, txt_len, txt_len, txt_len, sizeLine_eq, List.length_take, List.length_drop]
    show min i 3 + 1 + (3 - (i + 1)) ≤ _
    omega
end
end Mine
end
section
open PySem PySem.W PySem.Calls PyProof.Rows
set_option maxRecDepth 100000
set_option maxHeartbeats 4000000
namespace Mine
section
variable {prog : Program} {w : World} {A : Around} {E : Value → Shared → Prop} {s : Shared} {h₀ : Heap} {L : Addr} {m : Str → Option Value} {N : Led} {R : Result → Shared → Prop}

theorem codeAny_compStart_any {e : PySem.Expr} {depth : Nat} {it acc : Value} {cenv : Env} {g : Comprehension} (hf : (Code.compStart e depth it acc cenv).isFrame = false) (hq : (Code.compLoop e depth it acc cenv).quiet = true)
    (hun : A.under (Code.compStart e depth it acc cenv) = A) (hg : (clausesOf e)[depth]? = some g) (ha : g.is_async = 0)
    (hself : ∀ Q E, Q it s → wpAny (model prog w) A (pyIter it) Q E s)
    (h : codeAny (model prog w) A (.compLoop e depth it acc cenv) R s) :
    codeAny (model prog w) A (.compStart e depth it acc cenv) R s := by
  refine codeAny_of_tree ?_
  rw [hun]
  have isT : (model prog w).den (.compStart e depth it acc cenv) = (compStart e depth it acc cenv).onRaise (fun x => do noteFrame x cenv; standAt theWindowsPlace) := by
    show (if (Code.compStart e depth it acc cenv).isFrame = true then _ else _) = _
    rw [hf]; rfl
  rw [isT]
  refine wpAny_notedAt ?_
  unfold compStart
  rw [hg]
  have e0 : (Option.elim (some g) false fun x => x.is_async != 0) = false := by simp [ha]
  rw [e0]
  simp only [Bool.false_eq_true, if_false]
  refine wpAny_bind (wpAny_askSetting (wpAny_ite ?_))
  split
  · first
      | exact wpAny_bind (wpAny_pure (wpAny_pure (And.intro hq h)))
      | exact wpAny_pure (And.intro hq h)
  · refine wpAny_bind (wpAny_rule ?_)
    refine wpAny_bind (wpAny_standAt ?_)
    refine wpAny_bind (hself _ _ ?_)
    exact wpAny_pure (And.intro hq h)

/-- a comprehension's own frame is laid: one more entry -/
theorem comp_frame {scope : Scope} {env : Env} {cl : List (Str × Addr)} {Q : Env → Shared → Prop} (hcell : ∀ y ∈ scope.names, y.2 ≠ .cell) (hkind : scope.kind = .function)
    (F : Fr h₀ L s.heap m) (NN : News h₀ L s.heap N)
    (h : ∀ h₁ oC tk, Fr h₀ L h₁ m → News h₀ L h₁ ((s.heap.objs.size, oC) :: N) → (∀ N', CN s.heap.objs.size ((s.heap.objs.size, oC) :: N') (fun _ => none)) → (∀ b o, s.heap.get? b = some o → h₁.get? b = some o) →
      Q (newEnv scope s.heap.objs.size env.globals cl env.qual none .none (some env) builtinsNs) { s with heap := h₁, toks := tk }) :
    wpAny (model prog w) A (newFunctionEnv scope env.globals cl [] env.qual none .none (some env)) Q E s := by
  refine wpAny_newFunctionEnv hcell (by intro y hy; simp at hy) (fun h₁ hns hsb => ?_) hkind
  obtain ⟨oC, es, ep, q1, q2, q3, q4⟩ := hns
  have keep : ∀ b o, s.heap.get? b = some o → h₁.get? b = some o := fun b o q => hsb.extBut b o (Nat.ne_of_lt (Heap.lt_size q)) (Heap.get?_push_of_some _ q)
  refine h h₁ oC _ ⟨F.ns.at' fun o q => keep _ o q, fun b o q => keep b o (F.keep b o q), F.above⟩ (fun q hq => ?_) (fun N' => ⟨oC, es, ep, .head _, q2, q3, fun n => (q4 n).trans (by simp)⟩) keep
  rcases List.mem_cons.mp hq with rfl | hq
  · refine ⟨q1, fun z => ?_, ?_⟩
    · obtain ⟨o, _, _, ho, _⟩ := F.ns
      exact absurd (Heap.lt_size ho) (by rw [← show s.heap.objs.size = L from z]; exact Nat.lt_irrefl _)
    · cases q : h₀.get? s.heap.objs.size with
      | none => rfl
      | some o => exact absurd (Heap.lt_size (F.keep _ _ q)) (Nat.lt_irrefl _)
  · exact ⟨keep _ _ (NN q hq).1, (NN q hq).2⟩
end
end Mine
end
section
open PySem PySem.W PySem.Calls PyProof.Rows
set_option maxRecDepth 100000
set_option maxHeartbeats 4000000
namespace Mine
section
variable {M : Model} {A : Around} {E : Value → Shared → Prop} {s : Shared} {K : Frag} {h₀ : Heap} {L C : Addr} {m mg mb : Str → Option Value} {env : Env} {scope : Scope} {cl : List (Str × Addr)} {p : Program} {loose : List Str} {Q : Value → Shared → Prop}
theorem nameK_B {x : Str} {pos : Pos} {v : Value} (F : Fr h₀ L s.heap m) (X : K.In h₀) (T : TopRead p loose mg mb h₀) (e : nsIn K mainGlobals x = some none) (hv : bootBuiltins x = some v) (hn : x ≠ "__name__") (h : Q v s)
    (hg : env.globals = mainGlobals := by rfl) (hb : env.builtins = builtinsNs := by rfl)
    (hk : (compEnvC scope cl C env).scope.kind = .function := by rfl) (hx : (compEnvC scope cl C env).kindOf x = some .globalImplicit := by rfl) (hd : (x == ("__debug__" : Str)) = false := by decide) :
    wpAny M A (eval (.Name x pos) (compEnvC scope cl C env)) Q E s :=
  Name_function_global hk hx (loadGlobal_builtin (env := compEnvC scope cl C env) (show s.heap.Ns env.globals mg from hg ▸ T.g.keeps F.keep) (mg_none_of X T.g e) (show s.heap.Ns env.builtins mb from hb ▸ T.b.keeps F.keep) ((T.builtins x hn).trans hv) h) hd
theorem nameK_K {x : Str} {pos : Pos} {v : Value} (F : Fr h₀ L s.heap m) (X : K.In h₀) (T : TopRead p loose mg mb h₀) (e : nsIn K mainGlobals x = some (some v)) (h : Q v s)
    (hg : env.globals = mainGlobals := by rfl)
    (hk : (compEnvC scope cl C env).scope.kind = .function := by rfl) (hx : (compEnvC scope cl C env).kindOf x = some .globalImplicit := by rfl) (hd : (x == ("__debug__" : Str)) = false := by decide) :
    wpAny M A (eval (.Name x pos) (compEnvC scope cl C env)) Q E s :=
  Name_function_global hk hx (loadGlobal_global (env := compEnvC scope cl C env) (show s.heap.Ns env.globals mg from hg ▸ T.g.keeps F.keep) (mg_of X T.g e) h) hd
theorem ldV {N : Led} {mc : Str → Option Value} {x : Str} {pos : Pos} {v : Value} (NN : News h₀ L s.heap N) (c : CN C N mc) (hv : mc x = some v) (h : Q v s)
    (hk : (compEnvC scope cl C env).scope.kind = .function := by rfl) (hl : (compEnvC scope cl C env).kindOf x = some .local := by rfl) (hd : (x == ("__debug__" : Str)) = false := by decide) :
    wpAny M A (eval (.Name x pos) (compEnvC scope cl C env)) Q E s := ldVarK (c.ns NN) hv h hk hl hd
theorem ldC {N : Led} {x : Str} {pos : Pos} {c : Addr} {o : Obj} {v : Value} (NN : News h₀ L s.heap N) (hc : cl.lookup x = some c) (hm : (c, o) ∈ N) (hv : o.data = .cell (some v)) (h : Q v s)
    (hk : (compEnvC scope cl C env).scope.kind = .function := by rfl) (hl : (compEnvC scope cl C env).kindOf x = some .cell := by rfl) (hd : (x == ("__debug__" : Str)) = false := by decide) :
    wpAny M A (eval (.Name x pos) (compEnvC scope cl C env)) Q E s := ldCellK hc ⟨o, NN.get hm, hv⟩ h hk hl hd
end

theorem compTurn_two0 (elt t1 i1 t2 i2 : PySem.Expr) (scope : Scope) (pos : Pos) (it acc : Value) (env : Env) (hs : ∀ x, foldedSetIterable i2 env x = pure x) :
    compTurn (.ListComp elt [⟨t1, i1, [], 0⟩, ⟨t2, i2, [], 0⟩] scope pos) 0 it acc env = (standAt i1.pos >>= fun _ => pyNext it >>= fun r => match r with
      | none => pure (.done .next)
      | some v => letOwnedTupleGo t1 it v >>= fun _ => assign t1 env v >>= fun _ =>
        (eval i2 env >>= fun x => standAt i2.pos >>= fun _ => holding [x] (pyIter x) >>= fun it' => runOwn (.compStart (.ListComp elt [⟨t1, i1, [], 0⟩, ⟨t2, i2, [], 0⟩] scope pos) 1 it' acc env) env >>= fun _ => pure ()) >>= fun _ =>
          again (.compLoop (.ListComp elt [⟨t1, i1, [], 0⟩, ⟨t2, i2, [], 0⟩] scope pos) 0 it acc env)) := by
  have e : compTurn (.ListComp elt [⟨t1, i1, [], 0⟩, ⟨t2, i2, [], 0⟩] scope pos) 0 it acc env = (standAt i1.pos >>= fun _ => pyNext it >>= fun r => match r with
      | none => pure (.done .next)
      | some v => letOwnedTupleGo t1 it v >>= fun _ => assign t1 env v >>= fun _ =>
        eval i2 env >>= fun x => standAt i2.pos >>= fun _ => foldedSetIterable i2 env x >>= fun x => holding [x] (pyIter x) >>= fun it' => runOwn (.compStart (.ListComp elt [⟨t1, i1, [], 0⟩, ⟨t2, i2, [], 0⟩] scope pos) 1 it' acc env) env >>= fun _ =>
          again (.compLoop (.ListComp elt [⟨t1, i1, [], 0⟩, ⟨t2, i2, [], 0⟩] scope pos) 0 it acc env)) := by rfl
  rw [e]
  simp only [hs, pure_bind, bind_assoc]
theorem compTurn_two1 (elt t1 i1 t2 i2 : PySem.Expr) (scope : Scope) (pos : Pos) (it acc : Value) (env : Env) :
    compTurn (.ListComp elt [⟨t1, i1, [], 0⟩, ⟨t2, i2, [], 0⟩] scope pos) 1 it acc env = (standAt i2.pos >>= fun _ => pyNext it >>= fun r => match r with
      | none => pure (.done .next)
      | some v => letOwnedTupleGo t2 it v >>= fun _ => assign t2 env v >>= fun _ =>
        (eval elt env >>= fun x => call (.builtin "list.append") [acc, x] >>= fun _ => pure ()) >>= fun _ =>
          again (.compLoop (.ListComp elt [⟨t1, i1, [], 0⟩, ⟨t2, i2, [], 0⟩] scope pos) 1 it acc env)) := by rfl
end Mine
namespace Mine
/-- a list of texts that grows, the rest standing still -/
structure MJ (B : Led) (D C I : Addr) (ts : List Str) (N : Led) : Prop where
  base : ∀ q ∈ B, q ∈ N
  apart : ∀ q ∈ B, q.1 ≠ I ∧ q.1 ≠ C ∧ q.1 ≠ D
  acc : ∃ vs n, (D, seqObj "list" (List.toArray vs) n) ∈ N ∧ Texts vs ts
  dI : D ≠ I
  dC : D ≠ C
theorem MJ.step {B : Led} {D C I : Addr} {ts : List Str} {N N' : Led} (J : MJ B D C I ts N) (hs : ∀ a o, (a, o) ∈ N → a ≠ I → a ≠ C → (a, o) ∈ N') : MJ B D C I ts N' :=
  ⟨fun q hq => hs _ _ (J.base q hq) (J.apart q hq).1 (J.apart q hq).2.1, J.apart, let ⟨vs, n, h1, h2⟩ := J.acc; ⟨vs, n, hs _ _ h1 J.dI J.dC, h2⟩, J.dI, J.dC⟩
end Mine
namespace Mine
section
variable {w : World} {A : Around} {E E1 E2 E3 : Value → Shared → Prop} {s : Shared} {h₀ : Heap} {L : Addr} {m : Str → Option Value} {N : Led}
theorem comp_list {e : PySem.Expr} {g : Comprehension} {scope : Scope} {env : Env} {cl : List (Str × Addr)} {RR : Value → Addr → Result → Shared → Prop} {I : Addr}
    (hf : ∀ acc cenv, (Code.compStart e 0 (.ref I) acc cenv).isFrame = false) (hq : ∀ acc cenv, (Code.compLoop e 0 (.ref I) acc cenv).quiet = true)
    (hun : ∀ acc cenv, A.under (Code.compStart e 0 (.ref I) acc cenv) = A) (hg : (clausesOf e)[0]? = some g) (ha : g.is_async = 0)
    (hcell : ∀ y ∈ scope.names, y.2 ≠ .cell) (hkind : scope.kind = .function) (F : Fr h₀ L s.heap m) (NN : News h₀ L s.heap N) {oI : Obj} (hI : (I, oI) ∈ N)
    (hself : ∀ s' Q E, s'.heap.get? I = some oI → Q (.ref I) s' → wpAny (model PP w) A (pyIter (.ref I)) Q E s')
    (h : ∀ D h₁ oC tk, (∀ q ∈ N, q.1 < D) → Fr h₀ L h₁ m → News h₀ L h₁ ((D + 1, oC) :: (D, seqObj "list" #[] 0) :: N) → (∀ N', CN (D + 1) ((D + 1, oC) :: N') (fun _ => none)) →
      codeAny (model PP w) A (.compLoop e 0 (.ref I) (.ref D) (compEnvC scope cl (D + 1) env)) (RR (.ref D) (D + 1)) { s with heap := h₁, toks := tk }) :
    wpAny (model PP w) A (newList []) (fun acc s₃ => wpAny (model PP w) A (newFunctionEnv scope env.globals cl [] env.qual none .none (some env)) (fun cenv s₄ =>
      codeAny (model PP w) A (.compStart e 0 (.ref I) acc { cenv with scope := relabel scope env }) (RR acc cenv.locals) s₄) E2 s₃) E3 s := by
  refine wpAny_newObj_type ?_
  have hlt : ∀ q ∈ N, q.1 < s.heap.objs.size := fun q hq => Heap.lt_size (NN q hq).1
  have N₄ := NN.push F { cls := .type "list", data := .seq ([] : List Value).toArray }
  have F₄ := F.push { cls := .type "list", data := .seq ([] : List Value).toArray }
  refine comp_frame hcell hkind F₄ N₄ fun h₅ oC tk₅ F₅ N₅ c₅ keep₅ => ?_
  have e4 : (s.heap.push { cls := .type "list", data := .seq ([] : List Value).toArray }).objs.size = s.heap.objs.size + 1 := Heap.size_push ..
  dsimp only at N₅ c₅ ⊢
  rw [e4] at N₅ c₅
  rw [e4]
  refine codeAny_compStart_any (hf _ _) (hq _ _) (hun _ _) hg ha (fun Q E h => hself _ Q E (N₅.get (.tail _ (.tail _ hI))) h) ?_
  exact h s.heap.objs.size h₅ oC tk₅ hlt F₅ N₅ c₅
theorem comp_list2 {e : PySem.Expr} {g : Comprehension} {scope : Scope} {env : Env} {cl : List (Str × Addr)} {RR : Value → Addr → Result → Shared → Prop} {o1 o2 : Obj} {tk : Nat}
    (hf : ∀ I acc cenv, (Code.compStart e 0 (.ref I) acc cenv).isFrame = false) (hq : ∀ I acc cenv, (Code.compLoop e 0 (.ref I) acc cenv).quiet = true)
    (hun : ∀ I acc cenv, A.under (Code.compStart e 0 (.ref I) acc cenv) = A) (hg : (clausesOf e)[0]? = some g) (ha : g.is_async = 0)
    (hcell : ∀ y ∈ scope.names, y.2 ≠ .cell) (hkind : scope.kind = .function) (F : Fr h₀ L s.heap m) (NN : News h₀ L s.heap N)
    (hself : ∀ I s' Q E, s'.heap.get? I = some o2 → Q (.ref I) s' → wpAny (model PP w) A (pyIter (.ref I)) Q E s')
    (h : ∀ I D h₁ oC tk, (∀ q ∈ N, q.1 < I) → I < D → Fr h₀ L h₁ m → News h₀ L h₁ ((D + 1, oC) :: (D, seqObj "list" #[] 0) :: (I, o2) :: N) → (∀ N', CN (D + 1) ((D + 1, oC) :: N') (fun _ => none)) →
      codeAny (model PP w) A (.compLoop e 0 (.ref I) (.ref D) (compEnvC scope cl (D + 1) env)) (RR (.ref D) (D + 1)) { s with heap := h₁, toks := tk })
    (hfree1 : o1.isFreed = false := by rfl) (hfree2 : o2.isFreed = false := by rfl) :
    wpAny (model PP w) A (newList []) (fun acc s₃ => wpAny (model PP w) A (newFunctionEnv scope env.globals cl [] env.qual none .none (some env)) (fun cenv s₄ =>
      codeAny (model PP w) A (.compStart e 0 (.ref (s.heap.push o1).objs.size) acc { cenv with scope := relabel scope env }) (RR acc cenv.locals) s₄) E2 s₃) E3 { s with heap := (s.heap.push o1).push o2, toks := tk } := by
  have N₂ := (NN.push F o1 hfree1).push (F.push o1) o2 hfree2
  have hlt : ∀ q ∈ N, q.1 < (s.heap.push o1).objs.size := fun q hq => by rw [Heap.size_push]; exact Nat.lt_succ_of_lt (Heap.lt_size (NN q hq).1)
  refine comp_list (I := (s.heap.push o1).objs.size) (s := { s with heap := (s.heap.push o1).push o2, toks := tk }) (hf _) (hq _) (hun _) hg ha hcell hkind ((F.push o1).push o2) N₂ (.head _) (hself _) fun D h₁ oC tk lt F₁ N₁ c₁ => ?_
  refine h _ D h₁ oC tk hlt (lt _ (.head _)) F₁ (fun q hq => N₁ q ?_) c₁
  rcases List.mem_cons.mp hq with rfl | hq
  · exact .head _
  rcases List.mem_cons.mp hq with rfl | hq
  · exact .tail _ (.head _)
  rcases List.mem_cons.mp hq with rfl | hq
  · exact .tail _ (.tail _ (.head _))
  · exact .tail _ (.tail _ (.tail _ (.tail _ hq)))
end
end Mine
end
section
open PySem PySem.W PySem.Calls PyProof.Rows
set_option maxRecDepth 100000
set_option maxHeartbeats 4000000
namespace Mine
local macro_rules | `(tactic| walk_at "mine 0") => `(tactic| fail "no line")
local macro_rules | `(tactic| walk_at "mine 1") => `(tactic| fail "no line")
local macro_rules | `(tactic| walk_at "mine 2") => `(tactic| fail "no line")
local macro_rules | `(tactic| walk_at "mine 3") => `(tactic| fail "no line")
local macro_rules | `(tactic| walk_at "mine 4") => `(tactic| fail "no line")
local macro_rules | `(tactic| walk_at "mine 5") => `(tactic| fail "no line")
local macro_rules | `(tactic| walk_at "mine 6") => `(tactic| fail "no line")
local macro_rules | `(tactic| walk_at "mine 7") => `(tactic| fail "no line")
local macro_rules | `(tactic| walk_at "mine 8") => `(tactic| fail "no line")
local macro_rules | `(tactic| walk_at "mine 9") => `(tactic| fail "no line")
local macro_rules | `(tactic| walk_at "mine 10") => `(tactic| fail "no line")
local macro_rules | `(tactic| walk_at "mine 11") => `(tactic| fail "no line")
local macro_rules | `(tactic| walk_at "mine 12") => `(tactic| fail "no line")
local macro_rules | `(tactic| walk_at "mine 13") => `(tactic| fail "no line")
local macro_rules | `(tactic| walk_at "mine 14") => `(tactic| fail "no line")
local macro_rules | `(tactic| k_mem) => `(tactic| assumption)
local macro_rules | `(tactic| walk_at "eval Name") => `(tactic| k_dflt (first
  | (refine' ldV ?N ?c ?v ?_ ?k1 ?k2 ?k3; (case k1 => rfl); (case k2 => rfl); (case k3 => decide); (case N => k_asm); (case c => k_asm); (case v => (first | with_reducible assumption | exact rfl)))
  | (refine' ldC ?N ?hc ?m ?v ?_ ?k1 ?k2 ?k3; (case k1 => rfl); (case k2 => rfl); (case k3 => decide); (case N => k_asm); (case hc => rfl); (case m => assumption); (case v => assumption))
  | (refine' nameK_B ?F ?X ?T ?k ?v ?n ?_ ?k0 ?k00 ?k1 ?k2 ?k3; (case k0 => rfl); (case k00 => rfl); (case k1 => rfl); (case k2 => rfl); (case k3 => decide); (case F => k_asm); (case X => k_asm); (case T => k_asm); (case k => k_is); (case v => boot_by_name); (case n => decide))))
theorem moves_walk {w : World} {h₀ : Heap} {mean mg mb} (X : (hd.heap_39 w.params).In h₀) (T : TopX w mean mg mb h₀) {G : Gd} : MovesSpec w h₀ G := by
  intro p A L m N s tx Q E R F NN K W hp hQ
  obtain ⟨hdl, dp, fr, gd, un⟩ := A
  obtain rfl : hdl = none := R.hd
  refine wpAny_call ?_
  k_dflt (refine' callFC (binds := [(Str.ofString "links", .ref G.ln), (Str.ofString "place", .str (txt p) tx)]) F X NN T.nolimit ?ho ?hcd R.depth ?bind ?loc ?nd ?_ ?c1 ?c2 ?c3; (case ho => k_is); (case hcd => k_is); (case bind => exact BindsTo.of_eq rfl); (case loc => exact rfl); (case nd => decide +kernel); (case c1 => rfl); (case c2 => rfl); (case c3 => rfl))
  intro L' h₁ tk oL cells hL F' N' Y' lt'
  k_fold
  have hY' := CellsAre.two Y'
  obtain ⟨o', o2', hE', d1', d2'⟩ := hY'
  subst hE'
  clear Y'
  (try simp only [List.cons_append, List.nil_append] at N')
  iterate 2 walk1
  rw [eval_ListComp]
  refine wpAny_comprehension_free (use := none) (cl := ?cl) rfl (fun _ => rfl) ?hcl rfl (by decide) ?_
  case hcl => with_unfolding_all rfl
  show wpAny _ _ (eval _ _) _ _ _
  iterate 6 walk1
  refine call_range_1 ?_
  refine wpAny_pyIter_range (Heap.get?_push_size _ rfl) (by decide) ?_
  obtain ⟨a, b, c, rfl, hab, hbc, hc4⟩ := id hp
  let ff : Nat → List (List Nat) := fun k => (G.lw ([a, b, c].getD k 0)).map fun j => isort ([a, b, c].set k j)
  refine comp_list2 (fun _ _ _ => rfl) (fun _ _ _ => rfl) (fun _ _ _ => rfl) rfl rfl (by decide) rfl F' N' (fun I s' Q E q h => wpAny_pyIter_rangeiter q h) fun I D h₅ oC tk₅ ltI ltD F₅ N₅ c₅ => ?_
  refine comp_led (N := (D + 1, oC) :: (D, seqObj "list" #[] 0) :: (I, { cls := .type "range_iterator", data := .fields #[rawInt 0, rawInt (Builtin.Range.rangeSize 0 3 1), rawInt 1] }) :: (L' + 1 + 1, o') :: (L' + 1, o2') :: (L, oL) :: N) (T := .type "range_iterator") (Walks.range (prog := PP) (w := w) rfl I 0 1 3) rfl rfl rfl (compTurn_two0 _ _ _ _ _ _ _ _ _ _ (fun _ => rfl))
    (fun i h st => ⟨_, st, rfl⟩) (fun i mc N' => MJ ((L' + 1 + 1, o') :: (L' + 1, o2') :: (L, oL) :: N) D (D + 1) I (((List.range i).flatMap ff).map txt) N')
    (fun i m m' N N' J _ hs _ _ _ => J.step hs) rfl rfl (Nat.ne_of_lt (Nat.lt_succ_of_lt ltD)) (fun q => absurd (List.mem_singleton.mp q) (Nat.ne_of_gt (Nat.lt_succ_of_lt ltD))) F₅ N₅ ?hfp (c₅ _) ?hst ?hj ?turn ?done
  case hfp => exact fun b hb => by rw [List.mem_singleton.mp hb]; exact ⟨_, .tail _ (.tail _ (.head _))⟩
  case hst => exact N₅.get (.tail _ (.tail _ (.head _)))
  case hj => exact ⟨fun q hq => .tail _ (.tail _ (.tail _ hq)), fun q hq => ⟨Nat.ne_of_lt (ltI q hq), Nat.ne_of_lt (Nat.lt_trans (ltI q hq) (Nat.lt_succ_of_lt ltD)), Nat.ne_of_lt (Nat.lt_trans (ltI q hq) ltD)⟩, ⟨[], 0, .tail _ (.head _), .nil⟩, Nat.ne_of_gt ltD, Nat.ne_of_lt (Nat.lt_succ_self _)⟩
  case turn =>
    intro i v s₁ m₁ N₁ hi hP J F₁ NN₁ cn fpt old cI rs
    obtain ⟨t, rfl⟩ := hP
    obtain ⟨h₆, tk₆, rfl⟩ := rs
    have b1 := J.base _ (.head _)
    have b2 := J.base _ (.tail _ (.head _))
    have d1 : o'.data = .cell (some (.str (txt [a, b, c]) tx)) := d1'
    have d2 : o2'.data = .cell (some (.ref G.ln)) := d2'
    obtain ⟨oln, kvs, K1, K2, K3⟩ := id K
    have b3 := J.base _ (.tail _ (.tail _ (.tail _ K1)))
    refine wpAny_bind ?_
    have hv : ((0:Int) + (i:Int) * 1) = i := by omega
    rw [hv] at cn
    have hdig : [a, b, c].getD i 0 ≤ 4 := by
      rcases (by omega : i = 0 ∨ i = 1 ∨ i = 2) with rfl | rfl | rfl
      · show a ≤ 4; omega
      · show b ≤ 4; omega
      · show c ≤ 4; omega
    obtain ⟨wv, W1, wt, rfl⟩ := K3 _ hdig
    iterate 6 walk1

    · rename (_ ∨ _) => hbad
      rw [show (txt [a, b, c]).length = 3 from txt_len _] at hbad
      exfalso
      omega
    rw [item_dig a b c i hi]
    refine kda_item (knd := strKind _ _) NN₁ b3 K2 (strKind_is _ _ _ _) W1 ?_
    refine wpAny_bind (wpAny_standAt ?_)
    refine wpAny_bind (wpAny_holding ?_)
    refine wpAny_pyIter_ascii ?asc ?_
    case asc =>
      refine Array.all_eq_true_iff_forall_mem.mpr fun x hx => ?_
      have hx' : x ∈ ((G.lw ([a, b, c].getD i 0)).map (48 + ·)).toArray := hx
      rw [List.mem_toArray] at hx'
      obtain ⟨j, hj, rfl⟩ := List.mem_map.mp hx'
      have := W.low _ hdig j hj
      simp only [decide_eq_true_eq]
      omega
    refine wpAny_bind (wpAny_runOwn ?_)
    obtain ⟨oI, hoI⟩ := fpt I (.head _)
    have lt₁ : ∀ q ∈ N₁, q.1 < h₆.objs.size := fun q hq => Heap.lt_size (NN₁ q hq).1
    have F₆ := F₁.push { cls := .type "str_ascii_iterator", data := .fields #[.str (txt (G.lw ([a, b, c].getD i 0))) wt, .int 0 0] }
    have N₆ := NN₁.push F₁ { cls := .type "str_ascii_iterator", data := .fields #[.str (txt (G.lw ([a, b, c].getD i 0))) wt, .int 0 0] }
    have NNa : News h₀ L' h₆ N₁ := NN₁
    have hCm : (D + 1) ≠ h₆.objs.size := let ⟨o, ho, _⟩ := cn.there; Nat.ne_of_lt (lt₁ _ ho)
    refine codeAny_compStart_any (g := _) rfl rfl rfl rfl rfl (fun Q E h => wpAny_pyIter_striter_ascii (i := 0) ⟨_, Heap.get?_push_size _ rfl, rfl, rfl⟩ h) ?_
    refine comp_led (mc := fun y => if y = Str.ofString "k" then some (.int i t) else m₁ y) (N := (h₆.objs.size, { cls := .type "str_ascii_iterator", data := .fields #[.str (txt (G.lw ([a, b, c].getD i 0))) wt, .int 0 0] }) :: N₁) (T := .type "str_ascii_iterator") (Walks.strAscii (prog := PP) (w := w) rfl h₆.objs.size (txt (G.lw ([a, b, c].getD i 0))) wt) rfl rfl rfl (compTurn_two1 _ _ _ _ _ _ _ _ _ _)
      (fun j h st => let ⟨o, ho, hc, _⟩ := st; ⟨o, ho, hc⟩) (fun j mc N' => MJ ((I, oI) :: (L' + 1 + 1, o') :: (L' + 1, o2') :: (L, oL) :: N) D (D + 1) h₆.objs.size (((List.range i).flatMap ff ++ ((G.lw ([a, b, c].getD i 0)).take j).map fun j => isort ([a, b, c].set i j)).map txt) N' ∧ mc (Str.ofString "k") = some (.int i t))
      (fun j m m' N N' J _ hs _ _ he => ⟨J.1.step hs, (he _ (by decide)).trans J.2⟩) rfl rfl (Ne.symm hCm) (fun q => hCm (List.mem_singleton.mp q)) F₆ N₆ ?hfp2 ?hc2 ?hst2 ?hj2 ?turn2 ?done2
    case hfp2 => exact fun b hb => by rw [List.mem_singleton.mp hb]; exact ⟨_, .head _⟩
    case hc2 => exact cn.mono fun o q => .tail _ q
    case hst2 => exact ⟨_, Heap.get?_push_size _ rfl, rfl, rfl⟩
    case hj2 =>
      refine ⟨⟨fun q hq => ?_, fun q hq => ?_, ?_, ?_, J.dC⟩, rfl⟩
      · rcases List.mem_cons.mp hq with rfl | hq
        · exact .tail _ hoI
        · exact .tail _ (J.base q hq)
      · rcases List.mem_cons.mp hq with rfl | hq
        · exact ⟨Nat.ne_of_lt (lt₁ _ hoI), Nat.ne_of_lt (Nat.lt_succ_of_lt ltD), Nat.ne_of_lt ltD⟩
        · exact ⟨Nat.ne_of_lt (lt₁ _ (J.base q hq)), (J.apart q hq).2⟩
      · obtain ⟨vs, n, h1, h2⟩ := J.acc
        exact ⟨vs, n, .tail _ h1, by rw [List.take_zero, List.map_nil, List.append_nil]; exact h2⟩
      · obtain ⟨vs, n, h1, h2⟩ := J.acc
        exact Nat.ne_of_lt (lt₁ _ h1)
    case turn2 =>
      clear F₆ N₆ cn F₁ NN₁
      intro j v s₂ m₂ N₂ hj hP2 J2 F₂ NN₂ cn₂ fpt₂ old₂ cI₂ rs₂
      obtain ⟨ch, u, hch, rfl⟩ := hP2
      obtain ⟨h₈, tk₈, rfl⟩ := rs₂
      obtain ⟨J2, hk2⟩ := J2
      have b1 := J2.base _ (.tail _ (.head _))
      have b2 := J2.base _ (.tail _ (.tail _ (.head _)))
      have hq : ∃ q, (G.lw ([a, b, c].getD i 0))[j]? = some q ∧ ch = 48 + q := by
        have : ((G.lw ([a, b, c].getD i 0)).map (48 + ·)).toArray[j]? = some ch := hch
        rw [List.getElem?_toArray, List.getElem?_map] at this
        obtain ⟨q, h1, h2⟩ := Option.map_eq_some_iff.mp this
        exact ⟨q, h1, h2.symm⟩
      obtain ⟨q, hq, rfl⟩ := hq
      refine wpAny_bind ?_
      iterate 33 walk1
      refine add_put hi fun t9 k9 => ?_
      iterate 1 walk1
      rename Fr _ L' _ _ => Fz
      rename News _ L' _ _ => Nz
      refine sorted_text (ds := [a, b, c].set i q) rfl (by rw [List.length_set]; show 3 < 64; omega) fun h₉ tk₉ S vs₉ n₉ kp₉ Sf hS ts => ?_
      have F₉ := Fz.kept kp₉
      have N₉ : News h₀ L' h₉ N₂ := fun q hq => ⟨kp₉ _ _ (Nz q hq).1, (Nz q hq).2⟩
      clear Fz Nz
      iterate 1 walk1
      refine join_text (ds := isort ([a, b, c].set i q)) (by rw [(isort_perm _).length_eq, List.length_set]; show 3 ≤ 64; omega) hS ts fun t9 k10 => ?_
      show wpAny _ _ (call (.builtin "list.append") [.ref D, _] >>= fun _ => pure ()) _ _ _
      obtain ⟨vs, nn, hD, hT⟩ := J2.acc
      have hlen : vs.length ≤ 4 * i + 4 := by
        rw [hT.length, List.length_map, List.length_append, List.length_map]
        have h1 := flat_len (f := ff) (fun k => by
          show ((G.lw ([a, b, c].getD k 0)).map _).length ≤ 4
          rw [List.length_map]
          refine W.len _ ?_
          rcases k with _ | _ | _ | k
          · show a ≤ 4; omega
          · show b ≤ 4; omega
          · show c ≤ 4; omega
          · show 0 ≤ 4; omega) i
        have h2 := W.len _ hdig
        have h3 := List.length_take_le j (G.lw ([a, b, c].getD i 0))
        have h4 : ((G.lw ([a, b, c].getD i 0)).take j).length ≤ (G.lw ([a, b, c].getD i 0)).length := by rw [List.length_take]; omega
        omega
      refine wpAny_bind (wpAny_list_append_plain (hsz := by rw [List.size_toArray, sizeLine_eq]; omega) ⟨nn, N₉.get hD⟩ fun h₁₀ hl₁₀ hs₁₀ => ?_)
      obtain ⟨n₁₀, hl₁₀⟩ := hl₁₀
      have hl₁₁ : h₁₀.get? D = some (seqObj "list" (vs ++ [Value.str (txt (isort ([a, b, c].set i q))) t9]).toArray n₁₀) := by
        rw [hl₁₀]
        simp
      have hDL := (N₉ _ hD).2
      refine wpAny_pure ⟨⟨_, _, rfl⟩, _, putAt D (seqObj "list" (vs ++ [Value.str (txt (isort ([a, b, c].set i q))) t9]).toArray n₁₀) N₂, F₉.change hs₁₀ hDL.1 hDL.2, fun x hx => ?_, cn₂.mono fun o ho => mem_put ho (Nat.succ_ne_self D), fun b hb o ho => mem_put ho (fun e => J2.dI (by rw [← e]; exact (List.mem_singleton.mp hb))), ⟨⟨fun x hx => mem_put (J2.base x hx) (J2.apart x hx).2.2, J2.apart, ⟨_, n₁₀, .head _, ?_⟩, J2.dI, J2.dC⟩, hk2⟩⟩
      · rcases List.mem_cons.mp hx with rfl | hx
        · exact ⟨hl₁₁, hDL⟩
        · obtain ⟨h1, h2⟩ := List.mem_filter.mp hx
          have hne : x.1 ≠ D := by simpa using h2
          exact ⟨(hs₁₀.2 _ hne).trans (N₉ x h1).1, (N₉ x h1).2⟩
      · rw [List.take_add_one, hq]
        simp only [Option.toList, List.map_append, List.map_cons, List.map_nil]
        rw [← List.append_assoc]
        simp only [List.map_append, List.map_cons, List.map_nil] at hT
        exact texts_snoc hT
    case done2 =>
      clear F₆ N₆ F₁ NN₁
      intro s₂ m₂ N₂ J2 F₂ NN₂ cn₂ rs₂
      obtain ⟨h₈, tk₈, rfl⟩ := rs₂
      obtain ⟨J2, hk2⟩ := J2
      refine wpAny_pure ⟨⟨_, _, rfl⟩, m₂, N₂, F₂, NN₂, cn₂, fun b hb o ho => ?_, ⟨fun q hq => J2.base q (.tail _ hq), J.apart, ?_, J.dI, J.dC⟩⟩
      · rw [List.mem_singleton.mp hb] at ho ⊢
        rw [← News.same NNa hoI ho]
        exact J2.base _ (.head _)
      · obtain ⟨vs, n, h1, h2⟩ := J2.acc
        refine ⟨vs, n, h1, ?_⟩
        rw [List.range_succ, List.flatMap_append, List.flatMap_cons, List.flatMap_nil, List.append_nil]
        rw [show (txt (G.lw ([a, b, c].getD i 0))).cps.size = (G.lw ([a, b, c].getD i 0)).length from txt_len _, List.take_length] at h2
        exact h2
  case done =>
    intro s₁ m₁ N₁ J F₁ NN₁ cn rs
    obtain ⟨h₆, tk₆, rfl⟩ := rs
    refine ⟨m₁, cn.ns NN₁, fun h₇ hs₇ => ?_⟩
    show Q (.ref D) _
    obtain ⟨vs, n, hD, hT⟩ := J.acc
    have C0 : h₀.get? (D + 1) = none := let ⟨o, ho, _⟩ := cn.there; (NN₁ _ ho).2.2
    have up : ∀ q, q ∈ N₁ → q.1 ≠ D + 1 → h₇.get? q.1 = some q.2 := fun q hq hne => (hs₇.2 _ hne).trans (NN₁ q hq).1
    have hLn := J.apart _ (.tail _ (.tail _ (.head _)))
    refine hQ h₇ _ D vs n (fun q hq => Nat.lt_trans (ltI _ (.tail _ (.tail _ (.tail _ hq)))) ltD) ?_ (fun q hq => ?_) hT
    · obtain ⟨o, es, ep, ho, hdt, r⟩ := F.ns
      rw [hL] at ho; cases ho
      exact ⟨⟨_, es, ep, up _ (J.base _ (.tail _ (.tail _ (.head _)))) hLn.2.1, hdt, r⟩, fun b o q => (hs₇.2 b (fun e => by rw [e, C0] at q; cases q)).trans (F₁.keep b o q), F.above⟩
    · rcases List.mem_cons.mp hq with rfl | hq
      · exact ⟨up _ hD (Nat.ne_of_lt (Nat.lt_succ_self _)), Ne.symm hLn.2.2, (NN₁ _ hD).2.2⟩
      · have hq' := List.Mem.tail (L' + 1 + 1, o') (List.Mem.tail (L' + 1, o2') (List.Mem.tail (L, oL) hq))
        exact ⟨up _ (J.base _ hq') (J.apart _ hq').2.1, (NN q hq).2⟩
end Mine
end
section
open PySem PySem.W PySem.Calls PyProof.Rows
set_option maxRecDepth 100000
set_option maxHeartbeats 4000000
namespace Mine
section
variable {w : World} {A : Around} {E : Value → Shared → Prop} {s : Shared} {h₀ : Heap} {env : Env} {m : Str → Option Value} {N : Led} {x : Str} {px : Pos} {body : List Stmt} {R : Result → Shared → Prop}
/-- a loop over a range by ones -/
theorem loop_range {r : Addr} {lo hi : Int} {n : Nat} {t1 t2 t3 : Tok} (hh : A.handled = none) (hR : IsRange s.heap r lo hi 1 t1 t2 t3) (hsmall : Builtin.Range.small lo hi 1 = true) (hn : Builtin.Range.rangeSize lo hi 1 = n)
    (J : Addr → Nat → (Str → Option Value) → Led → Prop)
    (hJ : ∀ I i m N N', J I i m N → (∀ a o, (a, o) ∈ N → a ≠ I → (a, o) ∈ N') → J I i m N')
    (hx : env.kindOf x = some .local) (hk : env.scope.kind = .function)
    (F : Fr h₀ env.locals s.heap m) (NN : News h₀ env.locals s.heap N)
    (hj : ∀ I oI, (∀ p ∈ N, p.1 < I) → J I 0 m ((I, oI) :: N))
    (turn : ∀ (I : Addr) (i : Nat) (t : Tok) (s₁ : Shared) (m₁ : Str → Option Value) (N₁ : Led), i < n → J I i m₁ N₁ → Fr h₀ env.locals s₁.heap (fun y => if y = x then some (.int (lo + i) t) else m₁ y) → News h₀ env.locals s₁.heap N₁ → (∃ o, (I, o) ∈ N₁) → Rest s s₁ →
      wpAny (model PP w) A (execs body env) (fun f s₃ => match f with
        | .next | .cont => Rest s s₃ ∧ ∃ m₃ N₃, Fr h₀ env.locals s₃.heap m₃ ∧ News h₀ env.locals s₃.heap N₃ ∧ (∀ o, (I, o) ∈ N₁ → (I, o) ∈ N₃) ∧ J I (i + 1) m₃ N₃
        | .brk => R (.ok .next) s₃
        | .ret v => R (.ok (.ret v)) s₃) (fun _ _ => False) s₁)
    (done : ∀ I s₁ m₁ N₁, J I n m₁ N₁ → Fr h₀ env.locals s₁.heap m₁ → News h₀ env.locals s₁.heap N₁ → Rest s s₁ → R (.ok .next) s₁) :
    wpAny (model PP w) A (pyIter (.ref r)) (fun it s₂ => codeAny (model PP w) A (.forLoop (.Name x px) it body [] env) R s₂) E s := by
  refine wpAny_pyIter_range hR hsmall ?_
  rw [hn]
  have hlt : ∀ p ∈ N, p.1 < s.heap.objs.size := fun p hp => Heap.lt_size (NN p hp).1
  have N₁ := NN.push F { cls := .type "range_iterator", data := .fields #[rawInt lo, rawInt n, rawInt 1] }
  refine loop_led (T := .type "range_iterator") (Walks.range (prog := PP) (w := w) hh s.heap.objs.size lo 1 n) (fun i h st => ⟨_, st, rfl⟩) (J s.heap.objs.size) (fun i m N N' J _ h _ => hJ _ i m N N' J h) hx hk (F.push _) N₁ (fun b hb => ?_)
    ?_ (hj _ _ hlt) (fun i v s₁ m₁ N₁ hi hP hJ₁ F₁ NN₁ hfp₁ hold₁ hc₁ rs => ?_) fun s₁ m₁ N₁ hJ₁ F₁ NN₁ rs => done _ s₁ m₁ N₁ hJ₁ F₁ NN₁ ((Rest.mk' s _ _).trans rs)
  · rw [List.mem_singleton.mp hb]
    exact ⟨_, .head _⟩
  · have e1 : lo + ((0 : Nat) : Int) * 1 = lo := by omega
    have e2 : ((n : Int) - ((0 : Nat) : Int)) = n := by omega
    show IsRangeIter _ _ (lo + ((0 : Nat) : Int) * 1) ((n : Int) - ((0 : Nat) : Int)) 1
    rw [e1, e2]
    exact Heap.get?_push_size _ rfl
  · obtain ⟨t, rfl⟩ := hP
    rw [Int.mul_one] at F₁
    refine wpAny_mono (turn _ i t s₁ m₁ N₁ hi hJ₁ F₁ NN₁ (hfp₁ _ (.head _)) ((Rest.mk' s _ _).trans rs)) (fun f s₃ h₃ => ?_) fun _ _ f => f.elim
    have next : (Rest s s₃ ∧ ∃ m₃ N₃, Fr h₀ env.locals s₃.heap m₃ ∧ News h₀ env.locals s₃.heap N₃ ∧ (∀ o, (s.heap.objs.size, o) ∈ N₁ → (s.heap.objs.size, o) ∈ N₃) ∧ J s.heap.objs.size (i + 1) m₃ N₃) →
        (Rest { s with heap := s.heap.push { cls := .type "range_iterator", data := .fields #[rawInt lo, rawInt n, rawInt 1] } } s₃ ∧ ∃ m₃ N₃, Fr h₀ env.locals s₃.heap m₃ ∧ News h₀ env.locals s₃.heap N₃ ∧ (∀ b ∈ [s.heap.objs.size], ∀ o, (b, o) ∈ N₁ → (b, o) ∈ N₃) ∧ J s.heap.objs.size (i + 1) m₃ N₃) := by
      rintro ⟨⟨h, tk, rfl⟩, m₃, N₃, F₃, NN₃, hf, hJ₃⟩
      exact ⟨⟨h, tk, rfl⟩, m₃, N₃, F₃, NN₃, fun b hb o ho => by rw [List.mem_singleton.mp hb] at ho ⊢; exact hf o ho, hJ₃⟩
    cases f with
    | next => exact next h₃
    | cont => exact next h₃
    | brk => exact h₃
    | ret v => exact h₃

/-- a cell is written -/
theorem st_cell {name : Str} {scope : Scope} {L a c : Addr} {cd v : Value} {oc : Obj} {v₀ : Option Value} {Q : Unit → Shared → Prop} (F : Fr h₀ L s.heap m) (NN : News h₀ L s.heap N) (hc : (cellsFrom (L + 1) scope.names []).lookup x = some c) (hm : (c, oc) ∈ N) (hd : oc.data = .cell v₀)
    (h : ∀ h' o', Fr h₀ L h' m → News h₀ L h' (putAt c o' N) → o'.data = .cell (some v) → Q () { s with heap := h' })
    (hk : scope.kind = .function := by rfl) (hl : (envOfC name scope L a cd).kindOf x = some .cell := by rfl) :
    wpAny (model PP w) A (storeName (envOfC name scope L a cd) x v) Q E s := by
  have hmem := NN (c, oc) hm
  refine wpAny_storeName_cell hk hl hc ⟨oc, hmem.1, hd⟩ fun h' hv hs => ?_
  obtain ⟨o', ho', hd'⟩ := hv
  refine h h' o' (F.change hs hmem.2.1 hmem.2.2) (fun q hq => ?_) hd'
  rcases List.mem_cons.mp hq with rfl | hq
  · exact ⟨ho', hmem.2⟩
  · obtain ⟨h1, h2⟩ := List.mem_filter.mp hq
    have hne : q.1 ≠ c := by simpa using h2
    exact ⟨(hs.2 _ hne).trans (NN q h1).1, (NN q h1).2⟩
end
end Mine
namespace Mine
section
variable {M : Model} {A : Around} {E : Value → Shared → Prop} {s : Shared}
theorem tests_one {c : PySem.Expr} {cenv : Env} {Q : Bool → Shared → Prop} (h : wpAny M A (isTrue c cenv (eval c cenv)) Q E s) :
    wpAny M A (forIn [c] true fun c r => if r = true then do let ok ← isTrue c cenv (eval c cenv); pure (ForInStep.yield ok) else pure (ForInStep.yield r)) Q E s := by
  rw [List.forIn_cons]
  rw [if_pos rfl]
  refine wpAny_bind (wpAny_bind (wpAny_mono h (fun ok s' hq => ?_) fun _ _ e => e))
  refine wpAny_pure ?_
  dsimp only
  rw [List.forIn_nil]
  exact wpAny_pure hq
theorem tests_nil {cenv : Env} {Q : Bool → Shared → Prop} (h : Q true s) :
    wpAny M A (forIn ([] : List PySem.Expr) true fun c r => if r = true then do let ok ← isTrue c cenv (eval c cenv); pure (ForInStep.yield ok) else pure (ForInStep.yield r)) Q E s := by
  rw [List.forIn_nil]
  exact wpAny_pure h
theorem walks_range {prog : Program} {w : World} {A : Around} (hh : A.handled = none) (I : Addr) (n : Nat) :
    Walks prog w A I [I] [I] n (fun i v => i < n ∧ ∃ t, v = .int (i : Int) t) (fun i h => IsRangeIter h I (0 + (i : Nat) * 1) ((n : Int) - (i : Nat)) 1) :=
  let W := Walks.range (prog := prog) (w := w) hh I 0 1 n
  { sub := W.sub, frame := W.frame, done := W.done, self := W.self
    item := fun i s Q E hi st hQ => W.item i s Q E hi st fun v h' tk hP => hQ v h' tk ⟨hi, let ⟨t, e⟩ := hP; ⟨t, by rw [e, Int.mul_one, Int.zero_add]⟩⟩ }
end
end Mine

namespace Mine
def idx : Value → Nat
  | .int j _ => j.toNat
  | _ => 0
theorem idx_range {vs : List Value} {n : Nat} (hl : vs.length = n) (hP : ∀ j v, vs[j]? = some v → j < n ∧ ∃ t, v = .int (j : Int) t) : vs.map idx = List.range n := by
  apply List.ext_getElem?
  intro j
  rw [List.getElem?_map]
  by_cases hj : j < n
  · rw [List.getElem?_range hj]
    have hj' : j < vs.length := by omega
    rw [List.getElem?_eq_getElem hj']
    obtain ⟨_, t, e⟩ := hP j _ (List.getElem?_eq_getElem hj')
    rw [e]; rfl
  · rw [List.getElem?_eq_none (by omega), List.getElem?_eq_none (by rw [List.length_range]; omega)]; rfl
theorem filter_idx {p : Value → Bool} {f : Nat → Bool} : ∀ {vs : List Value}, (∀ v ∈ vs, p v = f (idx v)) → (vs.filter p).map idx = (vs.map idx).filter f
  | [], _ => rfl
  | v :: vs, h => by
    have ih := filter_idx (vs := vs) fun u hu => h u (.tail _ hu)
    rw [List.map_cons, List.filter_cons, List.filter_cons, h v (.head _)]
    split
    · rw [List.map_cons, ih]
    · exact ih
theorem paired_texts {p : Value → Bool} {f : Nat → Bool} {vs : List Value} {ys : List Value} {n : Nat} (hl : vs.length = n) (hP : ∀ j v, vs[j]? = some v → j < n ∧ ∃ t, v = .int (j : Int) t)
    (hp : ∀ (j : Nat) t, p (.int j t) = f j) (hF : Paired (fun v y => ∃ (j : Nat) (u u' : Tok), v = .int (j : Int) u ∧ y = .str (txt [j]) u') (vs.filter p) ys) : StrsAre ys (((List.range n).filter f).map fun j => txt [j]) := by
  have h1 : (vs.filter p).map idx = (List.range n).filter f := by
    rw [filter_idx (f := f) fun v hv => ?_, idx_range hl hP]
    obtain ⟨j, hj⟩ := List.getElem?_of_mem hv
    obtain ⟨_, t, rfl⟩ := hP j v hj
    exact hp j t
  rw [← h1]
  generalize vs.filter p = us at hF
  induction hF with
  | nil => exact .nil
  | cons h _ ih =>
    obtain ⟨j, u, u', rfl, rfl⟩ := h
    exact .cons _ u' ih
theorem bit_cast (b j : Nat) : ((((b : Int).fdiv (2 ^ ((j : Int)).toNat)).fmod 2) == 1) = (b / 2 ^ j % 2 == 1) := by
  rw [Int.toNat_natCast, Int.fdiv_eq_ediv_of_nonneg _ (Int.le_of_lt (Int.pow_pos (by decide))), Int.fmod_eq_emod_of_nonneg _ (by decide)]
  have e : ((b : Int) / 2 ^ j % 2) = ((b / 2 ^ j % 2 : Nat) : Int) := by norm_cast
  rw [e]
  by_cases h : b / 2 ^ j % 2 = 1
  · rw [h]; rfl
  · have h' : ((b / 2 ^ j % 2 : Nat) : Int) ≠ 1 := by exact_mod_cast h
    rw [beq_eq_false_iff_ne.mpr h, beq_eq_false_iff_ne.mpr h']
end Mine
namespace Mine
theorem keep_two {h h' : Heap} {o1 o2 : Obj} (keep : ∀ b o, b ∉ [(h.push o1).objs.size] → ((h.push o1).push o2).get? b = some o → h'.get? b = some o) : ∀ b o, h.get? b = some o → h'.get? b = some o :=
  fun b o e => keep b o (fun e' => absurd (List.mem_singleton.mp e') (Nat.ne_of_lt (by rw [Heap.size_push]; exact Nat.lt_succ_of_lt (Heap.lt_size e)))) (Heap.get?_push_of_some _ (Heap.get?_push_of_some _ e))
end Mine
namespace Mine
theorem digit_text {j : Nat} (hj : j ≤ 4) : Str.ofString (toString (j : Int)) = txt [j] := by
  rcases (by omega : j = 0 ∨ j = 1 ∨ j = 2 ∨ j = 3 ∨ j = 4) with rfl | rfl | rfl | rfl | rfl <;> decide +kernel
theorem str_digit {w : World} {A : Around} {E : Value → Shared → Prop} {s : Shared} {Q : Value → Shared → Prop} {j : Nat} {t : Tok} (hj : j ≤ 4) (h : ∀ t' k, Q (.str (txt [j]) t') { s with toks := k }) : wpAny (model PP w) A (call (.type "str") [.int (j : Int) t]) Q E s := by
  refine P.str_of_int (shown (N := 2 ^ 1920) (by omega) (by omega) (Int.le_refl _)) ?_
  have := h s.toks (s.toks + 1)
  rw [← digit_text hj] at this
  exact this
end Mine
namespace Mine
theorem str_digit1 {w : World} {A : Around} {E : Value → Shared → Prop} {s : Shared} {Q : Value → Shared → Prop} {j : Nat} {t : Tok} (hj : j ≤ 3) (h : ∀ t' k, Q (.str (txt [j + 1]) t') { s with toks := k }) : wpAny (model PP w) A (call (.type "str") [.int (1 + (j : Int)) t]) Q E s := by
  rw [show (1 + (j : Int)) = ((j + 1 : Nat) : Int) from by omega]
  exact str_digit (by omega) h
theorem valueAt_stored_ne {kvs : List (Str × Value)} {x y : Str} {v : Value} (h : y ≠ x) : valueAt (stored kvs x v) y = valueAt kvs y := by
  unfold valueAt stored
  split
  · rename_i hany
    clear hany
    induction kvs with
    | nil => rfl
    | cons z r ih =>
      rw [List.map_cons]
      simp only [List.find?_cons]
      by_cases hz : z.1 = x
      · rw [if_pos hz]
        have h1 : decide ((x, v).1 = y) = false := by simpa using fun e : x = y => h e.symm
        have h2 : decide (z.1 = y) = false := by simpa [hz] using fun e : x = y => h e.symm
        simp only [hz, h1, h2]
        exact ih
      · rw [if_neg hz]
        by_cases hy : z.1 = y
        · simp [hy]
        · simp only [decide_eq_false hy]
          exact ih
  · rw [List.find?_append]
    have h1 : List.find? (fun kv => decide (kv.1 = y)) [(x, v)] = none := by
      rw [List.find?_cons, show decide ((x, v).1 = y) = false from decide_eq_false fun e => h e.symm, List.find?_nil]
    rw [h1, Option.or_none]
theorem stored_len {kvs : List (Str × Value)} {x : Str} {v : Value} : (stored kvs x v).length ≤ kvs.length + 1 := by
  unfold stored
  split
  · rw [List.length_map]; omega
  · rw [List.length_append]; exact Nat.le_refl _
end Mine
namespace Mine
theorem keep_one {h h' : Heap} {o1 : Obj} (keep : ∀ b o, b ∉ [h.objs.size] → (h.push o1).get? b = some o → h'.get? b = some o) : ∀ b o, h.get? b = some o → h'.get? b = some o :=
  fun b o e => keep b o (fun e' => absurd (List.mem_singleton.mp e') (Nat.ne_of_lt (Heap.lt_size e))) (Heap.get?_push_of_some _ e)
theorem ascii_digits {ds : List Nat} (h : ∀ d ∈ ds, d ≤ 4) : (txt ds).cps.all (· < 128) = true := by
  refine Array.all_eq_true_iff_forall_mem.mpr fun x hx => ?_
  have hx' : x ∈ (ds.map (48 + ·)).toArray := hx
  rw [List.mem_toArray] at hx'
  obtain ⟨j, hj, rfl⟩ := List.mem_map.mp hx'
  have := h j hj
  simp only [decide_eq_true_eq]
  omega
theorem sign_txt {ds : List Nat} {i : Nat} {v : Value} (h : SignAt (txt ds) i v) : ∃ d u, ds[i]? = some d ∧ v = .str (txt [d]) u := by
  obtain ⟨c, u, hc, rfl⟩ := h
  have : (ds.map (48 + ·)).toArray[i]? = some c := hc
  rw [List.getElem?_toArray, List.getElem?_map] at this
  obtain ⟨q, h1, rfl⟩ := Option.map_eq_some_iff.mp this
  exact ⟨q, u, h1, rfl⟩
theorem size_txt (ds : List Nat) : (txt ds).cps.size = ds.length := txt_len ds
/-- the numbers behind, read off a comprehension -/
theorem paired_nums {g : Nat → Nat} {ds : List Nat} : ∀ {vs ys : List Value}, vs.length = ds.length → (∀ j v, vs[j]? = some v → SignAt (txt ds) j v) → Paired (fun v y => ∃ d u u', v = .str (txt [d]) u ∧ y = .int ((g d : Nat) : Int) u') vs ys → IntsAre ys (ds.map fun d => ((g d : Nat) : Int)) := by
  intro vs ys hl hP hF
  have key : ∀ (ds : List Nat) (vs ys : List Value), vs.length = ds.length → (∀ (j : Nat) (v : Value), vs[j]? = some v → ∃ (d : Nat) (u : Tok), ds[j]? = some d ∧ v = Value.str (txt [d]) u) → Paired (fun v y => ∃ d u u', v = .str (txt [d]) u ∧ y = .int ((g d : Nat) : Int) u') vs ys → IntsAre ys (ds.map fun d => ((g d : Nat) : Int)) := by
    intro ds vs ys hl hP hF
    induction hF generalizing ds with
    | nil =>
      cases ds with
      | nil => exact .nil
      | cons d r => simp at hl
    | cons h _ ih =>
      cases ds with
      | nil => simp at hl
      | cons d r =>
        obtain ⟨d', u, u', rfl, rfl⟩ := h
        obtain ⟨d'', u'', h1, h2⟩ := hP 0 _ rfl
        injection h2 with h3 _
        have h4 := txt_inj h3
        simp at h1 h4
        subst h1 h4
        exact .cons _ u' (ih r (by simpa using hl) fun j v hv => by simpa using hP (j + 1) v (by simpa using hv))
  exact key ds vs ys hl (fun j v hv => sign_txt (hP j v hv)) hF
theorem paired_same {p : Value → Bool} {f : Nat → Bool} {vs : List Value} {ys : List Value} {n : Nat} (hl : vs.length = n) (hP : ∀ j v, vs[j]? = some v → j < n ∧ ∃ t, v = .int (j : Int) t)
    (hp : ∀ (j : Nat) t, p (.int j t) = f j) (hF : Paired (fun v y => ∃ (j : Nat) (u u' : Tok), v = .int (j : Int) u ∧ y = .int (j : Int) u') (vs.filter p) ys) : IntsAre ys (((List.range n).filter f).map fun j => ((j : Nat) : Int)) := by
  have h1 : (vs.filter p).map idx = (List.range n).filter f := by
    rw [filter_idx (f := f) fun v hv => ?_, idx_range hl hP]
    obtain ⟨j, hj⟩ := List.getElem?_of_mem hv
    obtain ⟨_, t, rfl⟩ := hP j v hj
    exact hp j t
  rw [← h1]
  generalize vs.filter p = us at hF
  induction hF with
  | nil => exact .nil
  | cons h _ ih =>
    obtain ⟨j, u, u', rfl, rfl⟩ := h
    exact .cons _ u' ih
/-- the least of the numbers not behind is the mex -/
theorem mex_min {l : List Nat} {M : Int} (hl : l.length ≤ 4) (h1 : M ∈ ((List.range 5).filter fun n => !l.contains n).map fun j => ((j : Nat) : Int)) (h2 : ∀ a, a ∈ ((List.range 5).filter fun n => !l.contains n).map (fun j => ((j : Nat) : Int)) → M ≤ a) : M = ((mex l : Nat) : Int) := by
  obtain ⟨k, hk, rfl⟩ := List.mem_map.mp h1
  obtain ⟨hk1, hk2⟩ := List.mem_filter.mp hk
  have hne : ((List.range 5).filter fun n => !l.contains n) ≠ [] := List.ne_nil_of_mem hk
  have hm : mex l ∈ ((List.range 5).filter fun n => !l.contains n) := headD_mem hne 0
  have h3 := h2 _ (List.mem_map.mpr ⟨_, hm, rfl⟩)
  have h4 : ¬ k < mex l := fun hlt => by
    have := (mex_spec hl).2 k hlt
    simp [this] at hk2
  have h5 : k ≤ mex l := by exact_mod_cast h3
  have : k = mex l := by omega
  rw [this]
end Mine
namespace Mine
section
variable {w : World} {A : Around} {E : Value → Shared → Prop} {s : Shared} {h₀ : Heap} {env : Env} {m : Str → Option Value} {N : Led} {x : Str} {px : Pos} {body : List Stmt} {R : Result → Shared → Prop}
/-- a loop over a text of digits -/
theorem loop_text {ds : List Nat} {t0 : Tok} (hh : A.handled = none) (hds : ∀ d ∈ ds, d ≤ 4)
    (J : Addr → Nat → (Str → Option Value) → Led → Prop)
    (hJ : ∀ I i m N N', J I i m N → (∀ a o, (a, o) ∈ N → a ≠ I → (a, o) ∈ N') → J I i m N')
    (hx : env.kindOf x = some .local) (hk : env.scope.kind = .function)
    (F : Fr h₀ env.locals s.heap m) (NN : News h₀ env.locals s.heap N)
    (hj : ∀ I oI, (∀ p ∈ N, p.1 < I) → J I 0 m ((I, oI) :: N))
    (turn : ∀ (I : Addr) (i d : Nat) (t : Tok) (s₁ : Shared) (m₁ : Str → Option Value) (N₁ : Led), ds[i]? = some d → J I i m₁ N₁ → Fr h₀ env.locals s₁.heap (fun y => if y = x then some (.str (txt [d]) t) else m₁ y) → News h₀ env.locals s₁.heap N₁ → (∃ o, (I, o) ∈ N₁) → Rest s s₁ →
      wpAny (model PP w) A (execs body env) (fun f s₃ => match f with
        | .next | .cont => Rest s s₃ ∧ ∃ m₃ N₃, Fr h₀ env.locals s₃.heap m₃ ∧ News h₀ env.locals s₃.heap N₃ ∧ (∀ o, (I, o) ∈ N₁ → (I, o) ∈ N₃) ∧ J I (i + 1) m₃ N₃
        | .brk => R (.ok .next) s₃
        | .ret v => R (.ok (.ret v)) s₃) (fun _ _ => False) s₁)
    (done : ∀ I s₁ m₁ N₁, J I ds.length m₁ N₁ → Fr h₀ env.locals s₁.heap m₁ → News h₀ env.locals s₁.heap N₁ → Rest s s₁ → R (.ok .next) s₁) :
    wpAny (model PP w) A (pyIter (.str (txt ds) t0)) (fun it s₂ => codeAny (model PP w) A (.forLoop (.Name x px) it body [] env) R s₂) E s := by
  refine wpAny_pyIter_ascii (ascii_digits hds) ?_
  have hlt : ∀ p ∈ N, p.1 < s.heap.objs.size := fun p hp => Heap.lt_size (NN p hp).1
  have N₁ := NN.push F { cls := .type "str_ascii_iterator", data := .fields #[.str (txt ds) t0, .int 0 0] }
  have W := Walks.strAscii (prog := PP) (w := w) hh s.heap.objs.size (txt ds) t0
  rw [size_txt] at W
  refine loop_led (T := .type "str_ascii_iterator") W (fun i h st => let ⟨o, ho, hc, _⟩ := st; ⟨o, ho, hc⟩) (J s.heap.objs.size) (fun i m N N' J _ h _ => hJ _ i m N N' J h) hx hk (F.push _) N₁ (fun b hb => ?_)
    ⟨_, Heap.get?_push_size _ rfl, rfl, rfl⟩ (hj _ _ hlt) (fun i v s₁ m₁ N₁ hi hP hJ₁ F₁ NN₁ hfp₁ hold₁ hc₁ rs => ?_) fun s₁ m₁ N₁ hJ₁ F₁ NN₁ rs => done _ s₁ m₁ N₁ hJ₁ F₁ NN₁ ((Rest.mk' s _ _).trans rs)
  · rw [List.mem_singleton.mp hb]
    exact ⟨_, .head _⟩
  · obtain ⟨d, t, hd, rfl⟩ := sign_txt hP
    refine wpAny_mono (turn _ i d t s₁ m₁ N₁ hd hJ₁ F₁ NN₁ (hfp₁ _ (.head _)) ((Rest.mk' s _ _).trans rs)) (fun f s₃ h₃ => ?_) fun _ _ f => f.elim
    have next : (Rest s s₃ ∧ ∃ m₃ N₃, Fr h₀ env.locals s₃.heap m₃ ∧ News h₀ env.locals s₃.heap N₃ ∧ (∀ o, (s.heap.objs.size, o) ∈ N₁ → (s.heap.objs.size, o) ∈ N₃) ∧ J s.heap.objs.size (i + 1) m₃ N₃) →
        (Rest { s with heap := s.heap.push { cls := .type "str_ascii_iterator", data := .fields #[.str (txt ds) t0, .int 0 0] } } s₃ ∧ ∃ m₃ N₃, Fr h₀ env.locals s₃.heap m₃ ∧ News h₀ env.locals s₃.heap N₃ ∧ (∀ b ∈ [s.heap.objs.size], ∀ o, (b, o) ∈ N₁ → (b, o) ∈ N₃) ∧ J s.heap.objs.size (i + 1) m₃ N₃) := by
      rintro ⟨⟨h, tk, rfl⟩, m₃, N₃, F₃, NN₃, hf, hJ₃⟩
      exact ⟨⟨h, tk, rfl⟩, m₃, N₃, F₃, NN₃, fun b hb o ho => by rw [List.mem_singleton.mp hb] at ho ⊢; exact hf o ho, hJ₃⟩
    cases f with
    | next => exact next h₃
    | cont => exact next h₃
    | brk => exact h₃
    | ret v => exact h₃
end
end Mine
namespace Mine
theorem any_cast (g : Nat → Nat) (j : Nat) : ∀ l : List Nat, ((l.map fun q => ((g q : Nat) : Int)).any (· == (j : Int))) = (l.map g).contains j
  | [] => rfl
  | q :: r => by
    rw [List.map_cons, List.map_cons, List.any_cons, List.contains_cons, any_cast g j r]
    congr 1
    by_cases h : g q = j
    · rw [h, beq_self_eq_true, beq_self_eq_true]
    · rw [beq_eq_false_iff_ne.mpr (fun e => h (by exact_mod_cast e)), beq_eq_false_iff_ne.mpr (fun e => h e.symm)]
theorem mex_ne {l : List Nat} (h : l.length ≤ 4) : 0 < (((List.range 5).filter fun j => !l.contains j).map fun j => ((j : Nat) : Int)).length := by
  obtain ⟨k, hk, hf⟩ := five_free h
  have : k ∈ (List.range 5).filter fun j => !l.contains j := List.mem_filter.mpr ⟨List.mem_range.mpr hk, by simpa using hf⟩
  rw [List.length_map]
  exact List.length_pos_of_mem this
end Mine
namespace Mine
def udig (x : Str) : List Nat := x.cps.toList.map (· - 48)
theorem udig_txt (ds : List Nat) : udig (txt ds) = ds := by
  unfold udig txt
  simp only [List.map_map]
  conv => rhs; rw [← List.map_id ds]
  refine List.map_congr_left fun d _ => ?_
  show 48 + d - 48 = d
  omega
end Mine
namespace Mine
section
variable {w : World} {A : Around} {E : Value → Shared → Prop} {s : Shared} {Q : Value → Shared → Prop} {value slice : PySem.Expr} {a b c : Nat} {t u : Tok}
theorem item0 (h : ∀ t' k, Q (.str (txt [a]) t') { s with toks := k })
    (hs : subscripted slice false (.str (txt [a, b, c]) t) (.int 0 u) = operate [.str (txt [a, b, c]) t, .int 0 u] (getItem (.str (txt [a, b, c]) t) (.int 0 u)) := by with_unfolding_all rfl)
    (ht : ∀ r, letTemporaryGo value (.str (txt [a, b, c]) t) r = pure () := by intro _; with_unfolding_all rfl) : wpAny (model PP w) A (subscriptTail value slice (.str (txt [a, b, c]) t) (.int 0 u)) Q E s := by
  refine item_str (by decide) (by rw [show (txt [a, b, c]).length = 3 from txt_len _]; decide) (by rw [show (txt [a, b, c]).length = 3 from txt_len _]; decide) (fun _ => ?_) hs ht
  exact h _ _
theorem item1 (h : ∀ t' k, Q (.str (txt [b]) t') { s with toks := k })
    (hs : subscripted slice false (.str (txt [a, b, c]) t) (.int 1 u) = operate [.str (txt [a, b, c]) t, .int 1 u] (getItem (.str (txt [a, b, c]) t) (.int 1 u)) := by with_unfolding_all rfl)
    (ht : ∀ r, letTemporaryGo value (.str (txt [a, b, c]) t) r = pure () := by intro _; with_unfolding_all rfl) : wpAny (model PP w) A (subscriptTail value slice (.str (txt [a, b, c]) t) (.int 1 u)) Q E s := by
  refine item_str (by decide) (by rw [show (txt [a, b, c]).length = 3 from txt_len _]; decide) (by rw [show (txt [a, b, c]).length = 3 from txt_len _]; decide) (fun _ => ?_) hs ht
  exact h _ _
theorem item2 (h : ∀ t' k, Q (.str (txt [c]) t') { s with toks := k })
    (hs : subscripted slice false (.str (txt [a, b, c]) t) (.int 2 u) = operate [.str (txt [a, b, c]) t, .int 2 u] (getItem (.str (txt [a, b, c]) t) (.int 2 u)) := by with_unfolding_all rfl)
    (ht : ∀ r, letTemporaryGo value (.str (txt [a, b, c]) t) r = pure () := by intro _; with_unfolding_all rfl) : wpAny (model PP w) A (subscriptTail value slice (.str (txt [a, b, c]) t) (.int 2 u)) Q E s := by
  refine item_str (by decide) (by rw [show (txt [a, b, c]).length = 3 from txt_len _]; decide) (by rw [show (txt [a, b, c]).length = 3 from txt_len _]; decide) (fun _ => ?_) hs ht
  exact h _ _
end
end Mine
namespace Mine
theorem bitXor_nat : ∀ x, x < 8 → ∀ y, y < 8 → Builtin.bitXor ((x : Nat) : Int) ((y : Nat) : Int) = ((x ^^^ y : Nat) : Int) ∧ x ^^^ y < 8 := by decide +kernel
theorem xor_test (g : Nat → Nat) (a b c : Nat) (ha : g a < 8) (hb : g b < 8) (hc : g c < 8) : (Builtin.bitXor (Builtin.bitXor ((g a : Nat) : Int) ((g b : Nat) : Int)) ((g c : Nat) : Int) == 0) = (nim g (udig (txt [a, b, c])) == 0) := by
  obtain ⟨h1, h2⟩ := bitXor_nat _ ha _ hb
  rw [h1, (bitXor_nat _ h2 _ hc).1, udig_txt, nim3, ← Nat.xor_assoc]
  generalize g a ^^^ g b ^^^ g c = x
  by_cases h : x = 0
  · rw [h]; rfl
  · rw [beq_eq_false_iff_ne.mpr h, beq_eq_false_iff_ne.mpr (by exact_mod_cast h)]
end Mine
namespace Mine
theorem paired_strs {p : Value → Bool} {f : List Nat → Bool} (hp : ∀ q t, p (.str (txt q) t) = f q) : ∀ {qs : List (List Nat)} {vs : List Value}, StrsAre vs (qs.map txt) → ∀ {ys : List Value}, Paired (fun v y => ∃ x u u', v = .str x u ∧ y = .str x u') (vs.filter p) ys → StrsAre ys ((qs.filter f).map txt)
  | [], _, .nil, _, hF => by
    cases hF
    exact .nil
  | q :: qs, _, .cons _ t h, ys, hF => by
    rw [List.filter_cons, hp q t] at hF
    rw [List.filter_cons]
    split
    · rename_i hf
      rw [if_pos hf] at hF
      cases hF with
      | cons h1 h2 =>
        obtain ⟨x, u, u', e, rfl⟩ := h1
        cases e
        exact .cons _ u' (paired_strs hp h h2)
    · rename_i hf
      rw [if_neg hf] at hF
      exact paired_strs hp h hF
theorem find_filter {α : Type} (f : α → Bool) : ∀ l : List α, (l.filter f).take 1 = (l.find? f).toList
  | [] => rfl
  | x :: r => by
    rw [List.filter_cons, List.find?_cons]
    cases h : f x with
    | true => rfl
    | false => exact find_filter f r
end Mine

namespace Mine
theorem mvs_len {lw : Nat → List Nat} (W : Lw lw) {p : List Nat} (hp : IsP p) : (mvs lw p).length ≤ 12 := by
  obtain ⟨a, b, c, rfl, h1, h2, h3⟩ := hp
  refine flat_len (i := 3) (fun k => ?_)
  rw [List.length_map]
  refine W.len _ ?_
  rcases k with _ | _ | _ | k
  · show a ≤ 4; omega
  · show b ≤ 4; omega
  · show c ≤ 4; omega
  · show 0 ≤ 4; omega
end Mine
namespace Mine
section
variable {w : World} {A : Around} {E : Value → Shared → Prop} {s : Shared} {Q : Value → Shared → Prop}
/-- ''.join of at most one text -/
theorem join_opt {o : Option (List Nat)} {t : Tok} {D : Addr} {vs : List Value} {n : Nat} (h64 : ∀ q, o = some q → q.length ≤ 64) (hD : s.heap.get? D = some (seqObj "list" vs.toArray n)) (hS : StrsAre vs (o.toList.map txt))
    (h : ∀ t' k, Q (.str (txt (o.getD [])) t') { s with toks := k }) : wpAny (model PP w) A (call (.builtin "str.join") [.str (Str.ofString "") t, .ref D]) Q E s := by
  rw [show Str.ofString "" = ⟨#[]⟩ from by decide +kernel]
  obtain ⟨l, rfl, hl⟩ := strValues_of hS
  have e : Txt.join ⟨#[]⟩ (o.toList.map txt) = txt (o.getD []) := by
    show Builtin.Str.glued _ _ = _
    rw [StrLaws.glued_eq_join]
    cases o <;> rfl
  refine SC.join ⟨_, hD, rfl, n, rfl⟩ hl ?_ fun t' k => ?_
  · cases o with
    | none => rfl
    | some q =>
      have hq := h64 q rfl
      unfold JoinOk Builtin.Str.tooLong
      rw [List.foldl_toArray]
      show (!decide (0 + (txt q).length + 0 > _)) = true
      rw [txt_len]
      simp
      rw [sizeLine_eq]; omega
  · rw [e]
    exact h t' k
end
end Mine
namespace Mine
theorem strs_take1 : ∀ {vs : List Value} {ts : List Str}, StrsAre vs ts → StrsAre (vs.take 1) (ts.take 1)
  | _, _, .nil => .nil
  | _, _, .cons x t h => .cons x t .nil
end Mine
namespace Mine
theorem ite_yes {c : Prop} [Decidable c] {P Q : Prop} (h : c) (hp : P) : if c then P else Q := by rw [if_pos h]; exact hp
theorem ite_no {c : Prop} [Decidable c] {P Q : Prop} (h : ¬ c) (hp : Q) : if c then P else Q := by rw [if_neg h]; exact hp
end Mine
end
section
open PySem PySem.W PySem.Calls PyProof.Rows
set_option maxRecDepth 100000
set_option maxHeartbeats 4000000
namespace Mine
local macro_rules | `(tactic| walk_at "mine 0") => `(tactic| fail "no line")
local macro_rules | `(tactic| walk_at "mine 1") => `(tactic| fail "no line")
local macro_rules | `(tactic| walk_at "mine 2") => `(tactic| fail "no line")
local macro_rules | `(tactic| walk_at "mine 3") => `(tactic| fail "no line")
local macro_rules | `(tactic| walk_at "mine 4") => `(tactic| fail "no line")
local macro_rules | `(tactic| walk_at "mine 5") => `(tactic| fail "no line")
local macro_rules | `(tactic| walk_at "mine 6") => `(tactic| fail "no line")
local macro_rules | `(tactic| walk_at "mine 7") => `(tactic| fail "no line")
local macro_rules | `(tactic| walk_at "mine 8") => `(tactic| fail "no line")
local macro_rules | `(tactic| walk_at "mine 9") => `(tactic| fail "no line")
local macro_rules | `(tactic| walk_at "mine 10") => `(tactic| fail "no line")
local macro_rules | `(tactic| walk_at "mine 11") => `(tactic| fail "no line")
local macro_rules | `(tactic| walk_at "mine 12") => `(tactic| fail "no line")
local macro_rules | `(tactic| walk_at "mine 13") => `(tactic| fail "no line")
local macro_rules | `(tactic| walk_at "mine 14") => `(tactic| fail "no line")
local macro_rules | `(tactic| walk_at "mine 15") => `(tactic| fail "no line")
local macro_rules | `(tactic| walk_at "mine 16") => `(tactic| fail "no line")
local macro_rules | `(tactic| walk_at "mine 17") => `(tactic| fail "no line")
local macro_rules | `(tactic| walk_at "mine 18") => `(tactic| fail "no line")

/-- the words of a draw -/
def wd (n : Nat) (k : Nat) : List Nat := (List.range k).filter fun j => n / 2 ^ (k * (k - 1) / 2) / 2 ^ j % 2 == 1
theorem wd_ok (n : Nat) : Lw (wd n) :=
  ⟨fun k _ j hj => List.mem_range.mp (List.mem_filter.mp hj).1, fun k hk => Nat.le_trans (List.length_filter_le _ _) (by rw [List.length_range]; exact hk)⟩

/-- what holds at the head of a turn of the links' loop -/
structure LJ (w : World) (n : Nat) (tx : Tok) (B : Led) (D I cb : Addr) (i : Nat) (m : Str → Option Value) (N : Led) : Prop where
  base : ∀ q ∈ B, q ∈ N
  apart : ∀ q ∈ B, q.1 ≠ I ∧ q.1 ≠ D ∧ q.1 ≠ cb
  dI : D ≠ I
  cI : cb ≠ I
  cD : cb ≠ D
  n1 : m (Str.ofString "draw") = some (.int n tx)
  n2 : m (Str.ofString "links") = some (.ref D)
  dict : ∃ oD kvs, (D, oD) ∈ N ∧ oD.IsDictOf (sK w) kvs ∧ kvs.length ≤ i + 1 ∧ ∀ k, k ≤ i → ∃ v, valueAt kvs (txt [k]) = some v ∧ IsT v (txt (wd n k))
  cell : ∃ oc v, (cb, oc) ∈ N ∧ oc.data = .cell v
theorem LJ.step {w : World} {n : Nat} {tx : Tok} {B : Led} {D I cb : Addr} {i : Nat} {m : Str → Option Value} {N N' : Led} (J : LJ w n tx B D I cb i m N) (hs : ∀ a o, (a, o) ∈ N → a ≠ I → (a, o) ∈ N') : LJ w n tx B D I cb i m N' :=
  { J with
    base := fun q hq => hs _ _ (J.base q hq) (J.apart q hq).1
    dict := let ⟨oD, kvs, h1, r⟩ := J.dict; ⟨oD, kvs, hs _ _ h1 J.dI, r⟩
    cell := let ⟨oc, v, h1, h2⟩ := J.cell; ⟨oc, v, hs _ _ h1 J.cI, h2⟩ }

local macro_rules | `(tactic| k_mem) => `(tactic| assumption)
local macro_rules | `(tactic| walk_at "eval Name") => `(tactic| (k_dflt (first | (refine' ldLoc ?F ?v ?_; (case F => k_asm); (case v => (first | with_reducible assumption))) | (refine ldVarK (by assumption) (by assumption) ?_) | (refine ldCellK (c := _) rfl ⟨_, by assumption, by assumption⟩ ?_) | (refine' nameK_B ?F ?X ?T ?k ?v ?n ?_ ?k0 ?k00 ?k1 ?k2 ?k3; (case k0 => rfl); (case k00 => rfl); (case k1 => rfl); (case k2 => rfl); (case k3 => decide); (case F => k_asm); (case X => k_asm); (case T => k_asm); (case k => k_is); (case v => boot_by_name); (case n => decide)))))
theorem links_walk {w : World} {h₀ : Heap} {mean mg mb} (X : (hd.heap_39 w.params).In h₀) (T : TopX w mean mg mb h₀)
    {A : Around} {L m N} {s : Shared} {tx : Tok} {n : Nat} {Q E : Value → Shared → Prop}
    (hdn : A.handled = none) (hdep : A.depth < recursionLimit) (F : Fr h₀ L s.heap m) (NN : News h₀ L s.heap N) (hn : n < 1024)
    (hQ : ∀ h' tk' l o kvs, (∀ q ∈ N, q.1 < l) → Fr h₀ L h' m → News h₀ L h' ((l, o) :: N) → o.IsDictOf (sK w) kvs → (∀ k, k ≤ 4 → ∃ v, valueAt kvs (txt [k]) = some v ∧ IsT v (txt (wd n k))) → Q (.ref l) { s with heap := h', toks := tk' })
    : wpAny (model PP w) A (call (.ref 59) [.int n tx]) Q E s := by
  obtain ⟨hdl, dp, fr, gd, un⟩ := A
  obtain rfl : hdl = none := hdn
  refine wpAny_call ?_
  k_dflt (refine' callFC (binds := [(Str.ofString "draw", .int n tx)]) F X NN T.nolimit ?ho ?hcd hdep ?bind ?loc ?nd ?_ ?c1 ?c2 ?c3; (case ho => k_is); (case hcd => k_is); (case bind => exact BindsTo.of_eq rfl); (case loc => exact rfl); (case nd => decide +kernel); (case c1 => rfl); (case c2 => rfl); (case c3 => rfl))
  intro L' h₁ tk oL cells hL F' N' Y' lt'
  k_fold
  have hY' := CellsAre.one Y'
  obtain ⟨ob, hE', d1'⟩ := hY'
  subst hE'
  clear Y'
  (try simp only [List.cons_append, List.nil_append] at N')
  iterate 10 walk1
  rename_i h₂ oD lo₂ hd₂ hf₂ ap₂ l₂ h₃ F₃ N₃
  refine wpAny_For ?_
  iterate 8 walk1
  refine call_range_2 ?_
  have nd : ∀ q ∈ (L, oL) :: N, q.1 ≠ h₁.objs.size ∧ q.1 ≠ L' + 1 := fun q hq => ⟨ap₂ q (.tail _ hq), Nat.ne_of_lt (Nat.lt_succ_of_lt (lt' q hq))⟩
  refine loop_range (n := 4) rfl (Heap.get?_push_size _ rfl) (by decide) (by decide) (fun I i m N'' => LJ w n tx ((L, oL) :: N) h₁.objs.size I (L' + 1) i m N'')
    (fun I i m N N' J hs => J.step hs) rfl rfl (F₃.push _) (N₃.pushKeep _) ?hj ?turn ?done
  case hj =>
    intro I oI lt
    refine ⟨fun q hq => .tail _ (.tail _ (.tail _ hq)), fun q hq => ⟨Nat.ne_of_lt (lt q (.tail _ (.tail _ hq))), nd q hq⟩, Nat.ne_of_lt (lt _ (.head _)), Nat.ne_of_lt (lt _ (.tail _ (.head _))), ap₂ _ (.head _), rfl, rfl, ⟨oD, _, .tail _ (.head _), hd₂, Nat.le_refl _, fun k hk => ?_⟩, ⟨ob, _, .tail _ (.tail _ (.head _)), d1'⟩⟩
    obtain rfl : k = 0 := by omega
    exact ⟨_, rfl, _, rfl⟩
  case turn =>
    intro I i t s₁ m₁ N₁ hi J F₁ NN₁ hI rs
    obtain ⟨h₄, tk₄, rfl⟩ := rs
    clear F₃ N₃
    revert F₁
    generalize hm₂ : (fun y => if y = Str.ofString "knot" then some (Value.int (1 + (i : Int)) t) else m₁ y) = m₂
    intro F₁
    have a1 : m₂ (Str.ofString "draw") = some (.int n tx) := by rw [← hm₂]; exact J.n1
    have a2 : m₂ (Str.ofString "links") = some (.ref h₁.objs.size) := by rw [← hm₂]; exact J.n2
    have a3 : m₂ (Str.ofString "knot") = some (.int (1 + (i : Int)) t) := by rw [← hm₂]; rfl
    have F₁ : Fr h₀ L' h₄ m₂ := F₁
    have NN₁ : News h₀ L' h₄ N₁ := NN₁
    obtain ⟨oc, v₀, c1, c2⟩ := J.cell
    iterate 16 walk1
    have he : ((1 + (i : Int)) * (1 + (i : Int) - 1)).fdiv 2 = (((i + 1) * i / 2 : Nat) : Int) := by
      rcases (by omega : i = 0 ∨ i = 1 ∨ i = 2 ∨ i = 3) with rfl | rfl | rfl | rfl <;> rfl
    have he6 : (i + 1) * i / 2 ≤ 6 := by
      rcases (by omega : i = 0 ∨ i = 1 ∨ i = 2 ∨ i = 3) with rfl | rfl | rfl | rfl <;> decide
    rw [he]
    generalize hee : (i + 1) * i / 2 = ee at *
    iterate 2 walk1
    have hbv : ((n : Int)).fdiv (2 ^ ((ee : Int)).toNat) = ((n / 2 ^ ee : Nat) : Int) := by
      rw [Int.toNat_natCast, Int.fdiv_eq_ediv_of_nonneg _ (Int.le_of_lt (Int.pow_pos (by decide)))]
      norm_cast
    rw [hbv]
    generalize hbb : n / 2 ^ ee = bb at *
    refine st_cell F₁ NN₁ rfl c1 c2 fun h₅ oc' F₅ N₅ c5 => ?_
    clear F₁ NN₁
    iterate 7 walk1
    refine wpAny_ListComp_free (cl := [(Str.ofString "bits", L' + 1)]) (fun v => match v with | .int j _ => bb / 2 ^ j.toNat % 2 == 1 | _ => false) (fun v y => ∃ j u u', v = .int (j : Nat) u ∧ y = .str (txt [j]) u') (by with_unfolding_all rfl) (by decide) rfl (by decide) rfl ?_
    iterate 6 walk1
    refine call_range_1 ?_
    refine wpAny_pyIter_range (Heap.get?_push_size _ rfl) (by rw [show (1 + (i : Int)) = ((i + 1 : Nat) : Int) from by omega]; rcases (by omega : i = 0 ∨ i = 1 ∨ i = 2 ∨ i = 3) with rfl | rfl | rfl | rfl <;> decide) ?_
    have hrs : Builtin.Range.rangeSize 0 (1 + (i : Int)) 1 = ((i + 1 : Nat) : Int) := by
      rcases (by omega : i = 0 ∨ i = 1 ∨ i = 2 ∨ i = 3) with rfl | rfl | rfl | rfl <;> rfl
    have lt₅ : ∀ q ∈ putAt (L' + 1) oc' N₁, q.1 < h₅.objs.size := fun q hq => Heap.lt_size (N₅ q hq).1
    have F₆ := fun o o' => (F₅.push o).push o'
    have N₆ := fun o o' => (N₅.pushKeep o).pushKeep o'
    refine ⟨_, [_], [_], i + 1, _, _, rfl, walks_range rfl _ (i + 1), by rw [sizeLine_eq]; omega, ?st, ?fpl, ?qu, ?fin⟩
    case st =>
      rw [hrs]
      exact Heap.get?_push_size _ rfl
    case fpl =>
      intro b hb
      rw [List.mem_singleton.mp hb]
      exact Heap.lt_size (Heap.get?_push_size _ rfl)
    case qu =>
      refine ⟨fun C j v s₃ m₃ E' hC hP hNs hm keep htk => ?_, fun C j v s₃ m₃ E' hC hP hpv hNs hm keep htk => ?_⟩
      · obtain ⟨hj, t', rfl⟩ := hP
        obtain ⟨H, g', dr', tk', os'⟩ := s₃
        have hcell : H.get? (L' + 1) = some oc' := keep_two keep _ _ (N₅.get (.head _))
        dsimp only at hNs
        have hj3 : j ≤ 3 := by omega
        refine tests_one ?_
        iterate 14 walk1
        exact ⟨bit_cast bb j, _, _, rfl, fun _ _ e => e⟩
      · obtain ⟨hj, t', rfl⟩ := hP
        obtain ⟨H, g', dr', tk', os'⟩ := s₃
        dsimp only at hNs
        have FH := F₅.kept (keep_two keep)
        iterate 6 walk1
        exact str_digit (by omega) fun t' k => ⟨⟨j, _, _, rfl, rfl⟩, _, _, rfl, fun _ _ e => e⟩
    case fin =>
      intro D' h₇ tk₇ ys vs hD' hL₇ hP₇ hlen hPs hF keep
      have F₇ := F₅.kept (keep_two keep)
      have N₇ : News h₀ L' h₇ (putAt (L' + 1) oc' N₁) := fun q hq => ⟨keep_two keep _ _ (N₅ q hq).1, (N₅ q hq).2⟩
      clear F₅ N₅
      have ts := paired_texts (f := fun j => bb / 2 ^ j % 2 == 1) hlen hPs (fun j t => by show (bb / 2 ^ ((j : Int)).toNat % 2 == 1) = _; rw [Int.toNat_natCast]) hF
      obtain ⟨nL, hL₇'⟩ := hP₇
      have hwd : (List.range (i + 1)).filter (fun j => bb / 2 ^ j % 2 == 1) = wd n (i + 1) := by
        unfold wd
        rw [← hbb, ← hee]
        rfl
      rw [hwd] at ts
      iterate 1 walk1
      refine join_text (D := D') (vs := ys.toList) (ds := wd n (i + 1)) (Nat.le_trans ((wd_ok n).len (i + 1) (by omega)) (by decide)) (by rw [Array.toArray_toList]; exact hL₇') ts fun t9 k9 => ?_
      iterate 7 walk1
      refine str_digit1 (by omega) fun t10 k10 => ?_
      obtain ⟨oD', kvs, hD, hd', hlen', hk'⟩ := J.dict
      refine set_led F₇ N₇ (mem_put hD (Ne.symm J.cD)) hd' (by rw [sizeLine_eq]; omega) fun h₈ o₈ F₈ N₈ hd₈ => ?_
      clear F₇ N₇
      iterate 2 walk1
      refine ⟨⟨_, _, rfl⟩, m₂, _, F₈, N₈, fun o ho => mem_put (mem_put ho (Ne.symm J.cI)) (Ne.symm J.dI), ?_⟩
      refine ⟨fun q hq => mem_put (mem_put (J.base q hq) (J.apart q hq).2.2) (J.apart q hq).2.1, J.apart, J.dI, J.cI, J.cD, a1, a2, ⟨o₈, _, .head _, hd₈, Nat.le_trans stored_len (by omega), fun k hk => ?_⟩, ⟨oc', _, mem_put (.head _) J.cD, c5⟩⟩
      by_cases hki : k = i + 1
      · subst hki
        exact ⟨_, valueAt_stored_self, _, rfl⟩
      · rw [valueAt_stored_ne fun e => hki (by have := txt_inj e; simpa using this)]
        exact hk' k (by omega)
  case done =>
    intro I s₁ m₁ N₁ J F₁ NN₁ rs
    obtain ⟨h₄, tk₄, rfl⟩ := rs
    clear F₃ N₃
    have a2 := J.n2
    have F₁ : Fr h₀ L' h₄ m₁ := F₁
    have NN₁ : News h₀ L' h₄ N₁ := NN₁
    iterate 3 walk1
    show Q (.ref h₁.objs.size) _
    obtain ⟨oD', kvs, hD, hd', _, hk⟩ := J.dict
    refine hQ h₄ tk₄ _ oD' kvs (fun q hq => Nat.lt_trans (lt' q (.tail _ hq)) (Nat.lt_of_succ_lt l₂.1)) ?_ (fun q hq => ?_) hd' hk
    · obtain ⟨o, es, ep, ho, hdt, r⟩ := F.ns
      rw [hL] at ho; cases ho
      exact ⟨⟨_, es, ep, NN₁.get (J.base _ (.head _)), hdt, r⟩, F₁.keep, F.above⟩
    · rcases List.mem_cons.mp hq with rfl | hq
      · exact ⟨NN₁.get hD, fun e => (J.apart _ (.head _)).2.1 e.symm, (NN₁ _ hD).2.2⟩
      · exact ⟨NN₁.get (J.base _ (.tail _ hq)), (NN q hq).2⟩
end Mine
end
section
open PySem PySem.W PySem.Calls PyProof.Rows
set_option maxRecDepth 100000
set_option maxHeartbeats 4000000
namespace Mine
theorem compTurn_dict0 (kx vx t1 i1 : PySem.Expr) (scope : Scope) (pos : Pos) (it : Value) (D : Addr) (env : Env) :
    compTurn (.DictComp kx vx [⟨t1, i1, [], 0⟩] scope pos) 0 it (.ref D) env = (standAt i1.pos >>= fun _ => pyNext it >>= fun r => match r with
      | none => pure (.done .next)
      | some v => letOwnedTupleGo t1 it v >>= fun _ => assign t1 env v >>= fun _ =>
        (eval kx env >>= fun kv => holding [kv] (eval vx env) >>= fun vv => standAt { kx.pos with endLine := vx.pos.endLine, endCol := vx.pos.endCol } >>= fun _ => holding [kv, vv] (dictSet D kv vv)) >>= fun _ =>
          again (.compLoop (.DictComp kx vx [⟨t1, i1, [], 0⟩] scope pos) 0 it (.ref D) env)) := by rfl
theorem compTurn_dict1 (kx vx t1 i1 c1 : PySem.Expr) (scope : Scope) (pos : Pos) (it : Value) (D : Addr) (env : Env) :
    compTurn (.DictComp kx vx [⟨t1, i1, [c1], 0⟩] scope pos) 0 it (.ref D) env = (standAt i1.pos >>= fun _ => pyNext it >>= fun r => match r with
      | none => pure (.done .next)
      | some v => letOwnedTupleGo t1 it v >>= fun _ => assign t1 env v >>= fun _ =>
        (isTrue c1 env (eval c1 env) >>= fun ok => if ok = true then (eval kx env >>= fun kv => holding [kv] (eval vx env) >>= fun vv => standAt { kx.pos with endLine := vx.pos.endLine, endCol := vx.pos.endCol } >>= fun _ => holding [kv, vv] (dictSet D kv vv)) else pure ()) >>= fun _ =>
          again (.compLoop (.DictComp kx vx [⟨t1, i1, [c1], 0⟩] scope pos) 0 it (.ref D) env)) := by
  have e : compTurn (.DictComp kx vx [⟨t1, i1, [c1], 0⟩] scope pos) 0 it (.ref D) env = (standAt i1.pos >>= fun _ => pyNext it >>= fun r => match r with
      | none => pure (.done .next)
      | some v => letOwnedTupleGo t1 it v >>= fun _ => assign t1 env v >>= fun _ =>
        (isTrue c1 env (eval c1 env) >>= fun ok => if ok = true then (eval kx env >>= fun kv => holding [kv] (eval vx env) >>= fun vv => standAt { kx.pos with endLine := vx.pos.endLine, endCol := vx.pos.endCol } >>= fun _ => holding [kv, vv] (dictSet D kv vv)) >>= fun _ =>
          again (.compLoop (.DictComp kx vx [⟨t1, i1, [c1], 0⟩] scope pos) 0 it (.ref D) env) else again (.compLoop (.DictComp kx vx [⟨t1, i1, [c1], 0⟩] scope pos) 0 it (.ref D) env))) := by
    unfold compTurn
    simp only [List.getElem?_cons_zero, List.forIn_cons, List.forIn_nil, bind_assoc, pure_bind, if_true]
    rfl
  rw [e]
  congr 1; funext _; congr 1; funext r
  cases r with
  | none => rfl
  | some v =>
    dsimp only
    congr 1; funext _; congr 1; funext _
    refine Eq.trans ?_ (bind_assoc _ _ _).symm
    congr 1; funext ok
    cases ok
    · simp
    · simp
section
variable {w : World} {A : Around} {E E1 E2 E3 : Value → Shared → Prop} {s : Shared} {h₀ : Heap} {L d : Addr} {m : Str → Option Value} {N : Led} {o : Obj} {kvs : List (Str × Value)} {x : Str} {t : Tok} {v : Value}

theorem dset_led {Q : Unit → Shared → Prop} (F : Fr h₀ L s.heap m) (NN : News h₀ L s.heap N) (hm : (d, o) ∈ N) (hd : o.IsDictOf (sK w) kvs) (hsz : kvs.length ≤ sizeLine)
    (h : ∀ h' o', Fr h₀ L h' m → News h₀ L h' (putAt d o' N) → o'.IsDictOf (sK w) (stored kvs x v) → Q () { s with heap := h', toks := s.toks + 1 }) :
    wpAny (model PP w) A (dictSet d (.str x t) v) Q E s := by
  have hg := NN _ hm
  refine wpAny_dictSet_pairs (knd := sK w) (hsz := hsz) (strKind_is _ _ _ _) (Heap.dictOf_iff.mpr ⟨o, hg.1, hd⟩) fun h' hmm hs => ?_
  obtain ⟨o', ho', hd'⟩ := Heap.dictOf_iff.mp hmm
  refine h h' o' (F.change hs hg.2.1 hg.2.2) (fun q hq => ?_) hd'
  rcases List.mem_cons.mp hq with rfl | hq
  · exact ⟨ho', hg.2⟩
  · obtain ⟨h1, h2⟩ := List.mem_filter.mp hq
    have hne : q.1 ≠ d := by simpa using h2
    exact ⟨(hs.2 _ hne).trans (NN q h1).1, (NN q h1).2⟩

/-- a dict comprehension's own dict and frame are laid: two more entries -/
theorem comp_dict {e : PySem.Expr} {g : Comprehension} {scope : Scope} {env : Env} {cl : List (Str × Addr)} {RR : Value → Addr → Result → Shared → Prop} {I : Addr}
    (hf : ∀ acc cenv, (Code.compStart e 0 (.ref I) acc cenv).isFrame = false) (hq : ∀ acc cenv, (Code.compLoop e 0 (.ref I) acc cenv).quiet = true)
    (hun : ∀ acc cenv, A.under (Code.compStart e 0 (.ref I) acc cenv) = A) (hg : (clausesOf e)[0]? = some g) (ha : g.is_async = 0)
    (hcell : ∀ y ∈ scope.names, y.2 ≠ .cell) (hkind : scope.kind = .function) (hbig : h₀.NoLimit) (F : Fr h₀ L s.heap m) (NN : News h₀ L s.heap N) {oI : Obj} (hI : (I, oI) ∈ N)
    (hself : ∀ s' Q E, s'.heap.get? I = some oI → Q (.ref I) s' → wpAny (model PP w) A (pyIter (.ref I)) Q E s')
    (h : ∀ D h₁ oC oD tk, (∀ q ∈ N, q.1 < D) → (D == sysModules) = false → oD.IsDictOf (sK w) [] → Fr h₀ L h₁ m → News h₀ L h₁ ((D + 1, oC) :: (D, oD) :: N) → (∀ N', CN (D + 1) ((D + 1, oC) :: N') (fun _ => none)) →
      codeAny (model PP w) A (.compLoop e 0 (.ref I) (.ref D) (compEnvC scope cl (D + 1) env)) (RR (.ref D) (D + 1)) { s with heap := h₁, toks := tk }) :
    wpAny (model PP w) A newDict (fun acc s₃ => wpAny (model PP w) A (newFunctionEnv scope env.globals cl [] env.qual none .none (some env)) (fun cenv s₄ =>
      codeAny (model PP w) A (.compStart e 0 (.ref I) acc { cenv with scope := relabel scope env }) (RR acc cenv.locals) s₄) E2 s₃) E3 s := by
  refine wpAny_newObj_type ?_
  have hlt : ∀ q ∈ N, q.1 < s.heap.objs.size := fun q hq => Heap.lt_size (NN q hq).1
  have N₄ := NN.push F { cls := .type "dict", data := .dict #[] }
  have F₄ := F.push { cls := .type "dict", data := .dict #[] }
  refine comp_frame hcell hkind F₄ N₄ fun h₅ oC tk₅ F₅ N₅ c₅ keep₅ => ?_
  have e4 : (s.heap.push { cls := .type "dict", data := .dict #[] }).objs.size = s.heap.objs.size + 1 := Heap.size_push ..
  dsimp only at N₅ c₅ ⊢
  rw [e4] at N₅ c₅
  rw [e4]
  refine codeAny_compStart_any (hf _ _) (hq _ _) (hun _ _) hg ha (fun Q E h => hself _ Q E (N₅.get (.tail _ (.tail _ hI))) h) ?_
  refine h s.heap.objs.size h₅ oC _ tk₅ hlt ?_ ?_ F₅ N₅ c₅
  · exact F.notModules (modules_low hbig)
  · exact ⟨#[], 0, ⟨rfl, rfl, rfl⟩, rfl, fun _ he => by simp at he, Pairs.nil, List.nodup_nil⟩
theorem dictcomp_free {M : Model} {kx vx : PySem.Expr} {g : Comprehension} {gs : List Comprehension} {scope : Scope} {pos : Pos} {env : Env} {cl : List (Str × Addr)} {Q : Value → Shared → Prop}
    (ha : g.is_async = 0) (hs : ∀ x, foldedSetIterable g.iter env x = pure x) (hclos : closureFor scope env = pure cl)
    (hkind : scope.kind = .function) (hnames : ∀ x ∈ scope.names, x.2 = .local → scope.names.lookup x.1 = some .local)
    (h : wpAny M A (eval g.iter env) (fun x s₁ => wpAny M A (pyIter x) (fun it s₂ => wpAny M A newDict (fun acc s₃ =>
      wpAny M A (newFunctionEnv scope env.globals cl [] env.qual none .none (some env)) (fun cenv s₄ =>
        codeAny M A (.compStart (.DictComp kx vx (g :: gs) scope pos) 0 it acc { cenv with scope := relabel scope env }) (compPost M A E none Q acc cenv.locals) s₄) E s₃) E s₂) E s₁) E s) :
    wpAny M A (eval (.DictComp kx vx (g :: gs) scope pos) env) Q E s := by
  rw [arm_eval_DictComp]
  obtain ⟨t, i, ifs, a⟩ := g
  obtain rfl : a = 0 := ha
  exact wpAny_comprehension_free (e := .DictComp kx vx (⟨t, i, ifs, 0⟩ :: gs) scope pos) (use := none) rfl hs hclos hkind hnames h
end
/-- a dict from a place's moves that is being filled, the rest standing still -/
structure EJ (w : World) (G : Gd) (p : List Nat) (B : Led) (D I : Addr) (i : Nat) (N : Led) : Prop where
  base : ∀ q ∈ B, q ∈ N
  apart : ∀ q ∈ B, q.1 < I
  dict : ∃ o kvs, (D, o) ∈ N ∧ o.IsDictOf (sK w) kvs ∧ kvs.length ≤ i ∧ kvs.map (·.1) = keyed (((mvs G.lw p).take i).map txt) ∧
    ∀ x u, (x, u) ∈ kvs → ∃ q t tk t', q ∈ mvs G.lw p ∧ x = txt q ∧ u = .ref t ∧ (t, tupOf [.int 554 tk, .str (txt (ans G.lw G.g q)) t']) ∈ N ∧ D + 1 < t
  dI : I < D
theorem EJ.step {w : World} {G : Gd} {p : List Nat} {B : Led} {D I : Addr} {i : Nat} {N N' : Led} (J : EJ w G p B D I i N) (hs : ∀ a o, (a, o) ∈ N → a ≠ I → a ≠ D + 1 → (a, o) ∈ N') : EJ w G p B D I i N' := by
  have dI : @LT.lt Nat _ I D := J.dI
  refine ⟨fun q hq => hs _ _ (J.base q hq) (Nat.ne_of_lt (J.apart q hq)) (Nat.ne_of_lt (Nat.lt_trans (J.apart q hq) (by omega))), J.apart, ?_, J.dI⟩
  obtain ⟨o, kvs, h1, h2, h3, h4, h5⟩ := J.dict
  refine ⟨o, kvs, hs _ _ h1 (Nat.ne_of_gt dI) (Nat.ne_of_lt (Nat.lt_succ_self _)), h2, h3, h4, fun x u hx => ?_⟩
  obtain ⟨q, t, tk, t', e1, e2, e3, e4, e5⟩ := h5 x u hx
  have e5 : @LT.lt Nat _ (D + 1) t := e5
  exact ⟨q, t, tk, t', e1, e2, e3, hs _ _ e4 (Nat.ne_of_gt (by omega)) (Nat.ne_of_gt e5), e5⟩
/-- one more entry -/
theorem EJ.store {w : World} {G : Gd} {p q : List Nat} {B : Led} {D I t : Addr} {i : Nat} {N N' : Led} {o' : Obj} {kvs : List (Str × Value)} {tk t' : Tok} (J : EJ w G p B D I i N) (hq : (mvs G.lw p)[i]? = some q)
    (h1 : kvs.length ≤ i) (h2 : kvs.map (·.1) = keyed (((mvs G.lw p).take i).map txt)) (h3 : ∀ x u, (x, u) ∈ kvs → ∃ q t tk t', q ∈ mvs G.lw p ∧ x = txt q ∧ u = .ref t ∧ (t, tupOf [.int 554 tk, .str (txt (ans G.lw G.g q)) t']) ∈ N ∧ D + 1 < t)
    (hs : ∀ a o, (a, o) ∈ N → a ≠ D → (a, o) ∈ N') (ho : (D, o') ∈ N') (hd : o'.IsDictOf (sK w) (stored kvs (txt q) (.ref t))) (ht : (t, tupOf [.int 554 tk, .str (txt (ans G.lw G.g q)) t']) ∈ N') (htl : D + 1 < t) : EJ w G p B D I (i + 1) N' := by
  have dI : @LT.lt Nat _ I D := J.dI
  refine ⟨fun q hq => hs _ _ (J.base q hq) (Nat.ne_of_lt (Nat.lt_trans (J.apart q hq) dI)), J.apart, ⟨o', _, ho, hd, Nat.le_trans stored_len (by omega), ?_, fun x u hx => ?_⟩, J.dI⟩
  · rw [stored_keys, List.take_add_one, hq, h2]
    simp only [Option.toList, List.map_append, List.map_cons, List.map_nil]
    rw [keyed_snoc]
  · rcases mem_stored hx with ⟨rfl, rfl⟩ | h
    · exact ⟨q, t, tk, t', List.mem_of_getElem? hq, rfl, rfl, ht, htl⟩
    · obtain ⟨q, t, tk, t', e1, e2, e3, e4, e5⟩ := h3 x u h
      have e5' : @LT.lt Nat _ (D + 1) t := e5
      exact ⟨q, t, tk, t', e1, e2, e3, hs _ _ e4 (Nat.ne_of_gt (by omega)), e5⟩
end Mine
end
section
open PySem PySem.W PySem.Calls PyProof.Rows
set_option maxRecDepth 100000
set_option maxHeartbeats 4000000
namespace Mine
/-- what holds at the head of a turn of the numbers' loop -/
structure NJ (w : World) (G : Gd) (pl : Addr) (L' : Addr) (B : Led) (D : Addr) (i : Nat) (m : Str → Option Value) (N : Led) : Prop where
  base : ∀ q ∈ B, q ∈ N
  n1 : m (Str.ofString "links") = some (.ref G.ln)
  n2 : m (Str.ofString "moves") = some (.ref G.mv)
  n3 : m (Str.ofString "places") = some (.ref pl)
  dict : ∃ oD kvs, (D, oD) ∈ N ∧ oD.IsDictOf (sK w) kvs ∧ kvs.length ≤ i ∧ ∀ k, k < i → ∃ t, valueAt kvs (txt [k]) = some (.int ((G.g k : Nat) : Int) t)
  cell1 : ∃ oc, (L' + 1, oc) ∈ N ∧ oc.data = .cell (some (.ref D))
  cell2 : ∃ oc v, (L' + 2, oc) ∈ N ∧ oc.data = .cell v
  cell3 : ∃ oc v, (L' + 3, oc) ∈ N ∧ oc.data = .cell v

/-- what the def _law_due is handed -/
structure DueIn (w : World) (G : Gd) (pl : Addr) (ps : List (List Nat)) (N : Led) : Prop where
  links : LinksAt w G N
  moves : ∃ om kv, (G.mv, om) ∈ N ∧ om.IsDictOf (sK w) kv ∧ ∀ p ∈ ps, ∃ l vs n, valueAt kv (txt p) = some (.ref l) ∧ (l, ({ cls := .type "list", data := .seq (List.toArray vs) n } : Obj)) ∈ N ∧ Texts vs ((mvs G.lw p).map txt)
  places : ∃ vs n, (pl, ({ cls := .type "list", data := .seq (List.toArray vs) n } : Obj)) ∈ N ∧ Texts vs (ps.map txt)
  isp : ∀ p ∈ ps, IsP p
  len : ps.length ≤ 125

/-- what holds at the head of a turn of the firsts' loop -/
structure FJ (w : World) (G : Gd) (pl : Addr) (ps : List (List Nat)) (B : Led) (D : Addr) (i : Nat) (m : Str → Option Value) (N : Led) : Prop where
  base : ∀ q ∈ B, q ∈ N
  n2 : m (Str.ofString "moves") = some (.ref G.mv)
  n3 : m (Str.ofString "places") = some (.ref pl)
  dict : ∃ oD kvs, (D, oD) ∈ N ∧ oD.IsDictOf (sK w) kvs ∧ kvs.length ≤ i ∧ ∀ p ∈ ps.take i, ∃ v, valueAt kvs (txt p) = some v ∧ IsT v (txt (ans G.lw G.g p))

/-- a due answer of a place -/
def DueOK (w : World) (G : Gd) (B : Led) (D : Addr) (N : Led) (p : List Nat) (v : Value) : Prop :=
  if nim G.g p = 0 then ∃ d o kvs, v = .ref d ∧ (d, o) ∈ N ∧ d ≠ D ∧ (∀ q ∈ B, q.1 ≠ d) ∧ (d == sysModules) = false ∧ o.IsDictOf (sK w) kvs ∧ kvs.map (·.1) = keyed ((mvs G.lw p).map txt) ∧
    ∀ x u, (x, u) ∈ kvs → ∃ q t tk t', q ∈ mvs G.lw p ∧ x = txt q ∧ u = .ref t ∧ (t, tupOf [.int 554 tk, .str (txt (ans G.lw G.g q)) t']) ∈ N ∧ t ≠ D
  else IsT v (txt (ans G.lw G.g p))

/-- what holds at the head of a turn of the due answers' loop -/
structure DJ (w : World) (G : Gd) (pl : Addr) (ps : List (List Nat)) (B : Led) (D : Addr) (i : Nat) (m : Str → Option Value) (N : Led) : Prop where
  base : ∀ q ∈ B, q ∈ N
  n2 : m (Str.ofString "moves") = some (.ref G.mv)
  n3 : m (Str.ofString "places") = some (.ref pl)
  n4 : m (Str.ofString "due") = some (.ref D)
  dict : ∃ oD kvs, (D, oD) ∈ N ∧ oD.IsDictOf (sK w) kvs ∧ kvs.length ≤ i ∧ kvs.map (·.1) = keyed ((ps.take i).map txt) ∧ ∀ x v, (x, v) ∈ kvs → ∃ p ∈ ps, x = txt p ∧ DueOK w G B D N p v

theorem DueOK.mono {w : World} {G : Gd} {B : Led} {D : Addr} {N N' : Led} (hs : ∀ a o, (a, o) ∈ N → a ≠ D → (a, o) ∈ N') {p : List Nat} {v : Value} (h : DueOK w G B D N p v) : DueOK w G B D N' p v := by
  unfold DueOK at h ⊢
  split at h
  · rename_i h0
    rw [if_pos h0]
    obtain ⟨d, o, kvs, e1, e2, e3, e4, e5, e6, e7, e8⟩ := h
    refine ⟨d, o, kvs, e1, hs _ _ e2 e3, e3, e4, e5, e6, e7, fun x u hx => ?_⟩
    obtain ⟨q, t, tk, t', f1, f2, f3, f4, f5⟩ := e8 x u hx
    exact ⟨q, t, tk, t', f1, f2, f3, hs _ _ f4 f5, f5⟩
  · rename_i h0
    rw [if_neg h0]
    exact h
theorem mem_stored2 {kvs : List (Str × Value)} {k x : Str} {v1 v2 u : Value} (hn : ((stored (stored kvs k v1) k v2).map (·.1)).Nodup) (h : (x, u) ∈ stored (stored kvs k v1) k v2) : (x = k ∧ u = v2) ∨ (x, u) ∈ kvs := by
  by_cases hx : x = k
  · left
    refine ⟨hx, ?_⟩
    obtain ⟨i, hi⟩ := List.getElem?_of_mem h
    have h1 := valueAt_of_get hn hi
    rw [hx, valueAt_stored_self] at h1
    exact (Option.some.inj h1).symm
  · rcases mem_stored h with h | h
    · exact absurd h.1 hx
    · rcases mem_stored h with h | h
      · exact absurd h.1 hx
      · exact .inr h
theorem dj_store {w : World} {G : Gd} {pl : Addr} {ps : List (List Nat)} {B : Led} {D : Addr} {i : Nat} {m : Str → Option Value} {N' : Led} {o : Obj} {kvs kvs' : List (Str × Value)} {p : List Nat} {v : Value} (hbase : ∀ q ∈ B, q ∈ N')
    (n2 : m (Str.ofString "moves") = some (.ref G.mv)) (n3 : m (Str.ofString "places") = some (.ref pl)) (n4 : m (Str.ofString "due") = some (.ref D))
    (hkeys : kvs.map (·.1) = keyed ((ps.take i).map txt)) (hlen : kvs.length ≤ i) (hpi : ps[i]? = some p) (hit : ∀ x v, (x, v) ∈ kvs → ∃ p ∈ ps, x = txt p ∧ DueOK w G B D N' p v) (hv : DueOK w G B D N' p v) (ho : (D, o) ∈ N') (hd : o.IsDictOf (sK w) kvs')
    (hk' : kvs'.map (·.1) = (stored kvs (txt p) v).map (·.1)) (hm : ∀ x u, (x, u) ∈ kvs' → (x = txt p ∧ u = v) ∨ (x, u) ∈ kvs) : DJ w G pl ps B D (i + 1) m N' := by
  refine ⟨hbase, n2, n3, n4, o, kvs', ho, hd, ?_, ?_, fun x u hx => ?_⟩
  · have h1 : kvs'.length = (stored kvs (txt p) v).length := by rw [← List.length_map (f := (·.1)), hk', List.length_map]
    have h2 := stored_len (kvs := kvs) (x := txt p) (v := v)
    omega
  · rw [hk', stored_keys, List.take_add_one, hpi, hkeys]
    simp only [Option.toList, List.map_append, List.map_cons, List.map_nil]
    rw [keyed_snoc]
  · rcases hm x u hx with ⟨rfl, rfl⟩ | h
    · exact ⟨p, List.mem_of_getElem? hpi, rfl, hv⟩
    · exact hit x u h
theorem stored2_keys {kvs : List (Str × Value)} {k : Str} {v1 v2 : Value} : (stored (stored kvs k v1) k v2).map (·.1) = (stored kvs k v2).map (·.1) := by
  rw [stored_keys, stored_keys, stored_keys]
  by_cases h : k ∈ kvs.map (·.1)
  · simp only [if_pos h]
  · simp only [if_neg h]
    rw [if_pos (by simp)]

end Mine
end
section
open PySem PySem.W PySem.Calls PyProof.Rows
set_option maxRecDepth 100000
set_option maxHeartbeats 20000000
namespace Mine
local macro_rules | `(tactic| walk_at "mine 0") => `(tactic| fail "no line")
local macro_rules | `(tactic| walk_at "mine 1") => `(tactic| fail "no line")
local macro_rules | `(tactic| walk_at "mine 2") => `(tactic| fail "no line")
local macro_rules | `(tactic| walk_at "mine 3") => `(tactic| fail "no line")
local macro_rules | `(tactic| walk_at "mine 4") => `(tactic| fail "no line")
local macro_rules | `(tactic| walk_at "mine 5") => `(tactic| fail "no line")
local macro_rules | `(tactic| walk_at "mine 6") => `(tactic| fail "no line")
local macro_rules | `(tactic| walk_at "mine 7") => `(tactic| fail "no line")
local macro_rules | `(tactic| walk_at "mine 8") => `(tactic| fail "no line")
local macro_rules | `(tactic| walk_at "mine 9") => `(tactic| fail "no line")
local macro_rules | `(tactic| walk_at "mine 10") => `(tactic| fail "no line")
local macro_rules | `(tactic| walk_at "mine 11") => `(tactic| fail "no line")
local macro_rules | `(tactic| walk_at "mine 12") => `(tactic| fail "no line")
local macro_rules | `(tactic| walk_at "mine 13") => `(tactic| fail "no line")
local macro_rules | `(tactic| walk_at "mine 14") => `(tactic| fail "no line")
local macro_rules | `(tactic| walk_at "mine 15") => `(tactic| fail "no line")
local macro_rules | `(tactic| walk_at "mine 16") => `(tactic| fail "no line")
local macro_rules | `(tactic| walk_at "mine 17") => `(tactic| fail "no line")
local macro_rules | `(tactic| walk_at "mine 18") => `(tactic| fail "no line")
local macro_rules | `(tactic| walk_at "mine 19") => `(tactic| fail "no line")
local macro_rules | `(tactic| walk_at "mine 20") => `(tactic| fail "no line")
local macro_rules | `(tactic| walk_at "mine 21") => `(tactic| fail "no line")
local macro_rules | `(tactic| walk_at "mine 22") => `(tactic| fail "no line")
local macro_rules | `(tactic| k_mem) => `(tactic| assumption)
local macro_rules | `(tactic| walk_at "eval Name") => `(tactic| (k_dflt (first
  | ((with_reducible show wpAny _ _ (eval _ (envOfC _ _ _ _ _)) _ _ _); refine' ldLoc ?F ?v ?_; (case F => k_asm); (case v => (first | with_reducible assumption | exact rfl)))
  | ((with_reducible show wpAny _ _ (eval _ (envOfC _ _ _ _ _)) _ _ _); refine' ldCN ?N ?hc ?m ?v ?_ ?k1 ?k2; (case k1 => rfl); (case k2 => rfl); (case N => k_asm); (case hc => rfl); (case m => assumption); (case v => assumption))
  | ((with_reducible show wpAny _ _ (eval _ (compEnvC _ _ _ _)) _ _ _); refine ldVarK (by assumption) (by assumption) ?_)
  | ((with_reducible show wpAny _ _ (eval _ (compEnvC _ _ _ _)) _ _ _); refine ldCellK (c := _) rfl ⟨_, by assumption, by assumption⟩ ?_)
  | ((with_reducible show wpAny _ _ (eval _ (compEnvC _ _ _ _)) _ _ _); refine' ldV ?N ?c ?v ?_ ?k1 ?k2 ?k3; (case k1 => rfl); (case k2 => rfl); (case k3 => decide); (case N => k_asm); (case c => k_asm); (case v => (first | with_reducible assumption | exact rfl)))
  | ((with_reducible show wpAny _ _ (eval _ (compEnvC _ _ _ _)) _ _ _); refine' ldC ?N ?hc ?m ?v ?_ ?k1 ?k2 ?k3; (case k1 => rfl); (case k2 => rfl); (case k3 => decide); (case N => k_asm); (case hc => rfl); (case m => assumption); (case v => assumption))
  | ((with_reducible show wpAny _ _ (eval _ (compEnvC _ _ _ _)) _ _ _); refine' nameK_B ?F ?X ?T ?k ?v ?n ?_ ?k0 ?k00 ?k1 ?k2 ?k3; (case k0 => rfl); (case k00 => rfl); (case k1 => rfl); (case k2 => rfl); (case k3 => decide); (case F => k_asm); (case X => k_asm); (case T => k_asm); (case k => k_is); (case v => boot_by_name); (case n => decide)))))

theorem due_walk {w : World} {h₀ : Heap} {mean mg mb} (X : (hd.heap_39 w.params).In h₀) (T : TopX w mean mg mb h₀) {G : Gd}
    {A : Around} {L m N} {s : Shared} {pl : Addr} {Q E : Value → Shared → Prop}
    (hdn : A.handled = none) (hdep : A.depth < recursionLimit) (F : Fr h₀ L s.heap m) (NN : News h₀ L s.heap N) (W : Lw G.lw) (GX : Mx G.lw G.g) {ps : List (List Nat)} (DI : DueIn w G pl ps N) (hcl : ∀ p ∈ ps, nim G.g p = 0 → ∀ q ∈ mvs G.lw p, q ∈ ps)
    (hQ : ∀ h' tk' D oD kvs N', (∀ q ∈ N, q ∈ N') → Fr h₀ L h' m → News h₀ L h' N' → (D, oD) ∈ N' → (D == sysModules) = false → oD.IsDictOf (sK w) kvs → kvs.map (·.1) = keyed (ps.map txt) →
      (∀ x v, (x, v) ∈ kvs → ∃ p ∈ ps, x = txt p ∧ DueOK w G [] D N' p v) → Q (.ref D) { s with heap := h', toks := tk' })
    : wpAny (model PP w) A (call (.ref 83) [.ref G.ln, .ref G.mv, .ref pl]) Q E s := by
  obtain ⟨hdl, dp, fr, gd, un⟩ := A
  obtain rfl : hdl = none := hdn
  refine wpAny_call ?_
  k_dflt (refine' callFC (binds := [(Str.ofString "links", .ref G.ln), (Str.ofString "moves", .ref G.mv), (Str.ofString "places", .ref pl)]) F X NN T.nolimit ?ho ?hcd hdep ?bind ?loc ?nd ?_ ?c1 ?c2 ?c3; (case ho => k_is); (case hcd => k_is); (case bind => exact BindsTo.of_eq rfl); (case loc => exact rfl); (case nd => decide +kernel); (case c1 => rfl); (case c2 => rfl); (case c3 => rfl))
  intro L' h₁ tk oL cells hL F' N' Y' lt'
  k_fold
  have hY' := CellsAre.three Y'
  obtain ⟨o3, o2, o1, hE', d3, d2, d1⟩ := hY'
  subst hE'
  clear Y'
  (try simp only [List.cons_append, List.nil_append] at N')
  iterate 3 walk1
  rename_i D h₂ oD F₂ N₂ l₂ lo₂ hs₂ fs₂ hi₂ fi₂
  refine st_cell F₂ N₂ rfl (.tail _ (.tail _ (.tail _ (.head _)))) d1 fun h₃ o1' F₃ N₃ d1' => ?_
  clear F₂ N₂
  have hDc : L' + 1 + 1 + 1 < D := fi₂.1
  have e1 : D ≠ L' + 1 := Nat.ne_of_gt (by omega)
  have e2 : L' + 3 ≠ L' + 1 := Nat.ne_of_gt (by omega)
  have e3 : L' + 2 ≠ L' + 1 := Nat.ne_of_gt (by omega)
  have e4 : ∀ q ∈ (L, oL) :: N, q.1 ≠ L' + 1 := fun q hq => Nat.ne_of_lt (Nat.lt_succ_of_lt (lt' q hq))
  have mD : (D, oD) ∈ putAt (L' + 1) o1' ((D, oD) :: (L' + 1 + 1 + 1, o3) :: (L' + 1 + 1, o2) :: (L' + 1, o1) :: (L, oL) :: N) := mem_put (.head _) e1
  have mc3 : (L' + 3, o3) ∈ putAt (L' + 1) o1' ((D, oD) :: (L' + 1 + 1 + 1, o3) :: (L' + 1 + 1, o2) :: (L' + 1, o1) :: (L, oL) :: N) := mem_put (.tail _ (.head _)) e2
  have mc2 : (L' + 2, o2) ∈ putAt (L' + 1) o1' ((D, oD) :: (L' + 1 + 1 + 1, o3) :: (L' + 1 + 1, o2) :: (L' + 1, o1) :: (L, oL) :: N) := mem_put (.tail _ (.tail _ (.head _))) e3
  have mc1 : (L' + 1, o1') ∈ putAt (L' + 1) o1' ((D, oD) :: (L' + 1 + 1 + 1, o3) :: (L' + 1 + 1, o2) :: (L' + 1, o1) :: (L, oL) :: N) := .head _
  have mB : ∀ q ∈ (L, oL) :: N, q ∈ putAt (L' + 1) o1' ((D, oD) :: (L' + 1 + 1 + 1, o3) :: (L' + 1 + 1, o2) :: (L' + 1, o1) :: (L, oL) :: N) := fun q hq => mem_put (.tail _ (.tail _ (.tail _ (.tail _ hq)))) (e4 q hq)
  generalize putAt (L' + 1) o1' ((D, oD) :: (L' + 1 + 1 + 1, o3) :: (L' + 1 + 1, o2) :: (L' + 1, o1) :: (L, oL) :: N) = N₄ at *
  dsimp only
  refine execs_two (fun s' => ∃ h' tk' m' N', s' = { s with heap := h', toks := tk' } ∧ Fr h₀ L' h' m' ∧ News h₀ L' h' N' ∧ NJ w G pl L' ((L, oL) :: N) D 5 m' N') ?tail ?head
  case head =>
    refine wpAny_For ?_
    iterate 1 walk1
    rw [show Str.ofString "01234" = txt [0, 1, 2, 3, 4] from by decide +kernel]
    refine loop_text rfl (by decide) (fun I i m N'' => D < I ∧ NJ w G pl L' ((L, oL) :: N) D i m N'') ?hJ rfl rfl F₃ N₃ ?hj ?turn ?done
    case hJ =>
      rintro I i m N₁ N₂ ⟨hI, J⟩ hs
      have hI : @LT.lt Nat _ D I := hI
      have hB : ∀ q ∈ (L, oL) :: N, q.1 ≠ I := fun q hq => Nat.ne_of_lt (Nat.lt_trans (lt' q hq) (by omega))
      refine ⟨hI, { J with base := fun q hq => hs _ _ (J.base q hq) (hB q hq), dict := ?_, cell1 := ?_, cell2 := ?_, cell3 := ?_ }⟩
      · obtain ⟨o, kvs, h1, r⟩ := J.dict
        exact ⟨o, kvs, hs _ _ h1 (Nat.ne_of_lt hI), r⟩
      · obtain ⟨o, h1, r⟩ := J.cell1
        exact ⟨o, hs _ _ h1 (Nat.ne_of_lt (by omega)), r⟩
      · obtain ⟨o, v, h1, r⟩ := J.cell2
        exact ⟨o, v, hs _ _ h1 (Nat.ne_of_lt (by omega)), r⟩
      · obtain ⟨o, v, h1, r⟩ := J.cell3
        exact ⟨o, v, hs _ _ h1 (Nat.ne_of_lt (by omega)), r⟩
    case hj =>
      intro I oI lt
      refine ⟨lt _ mD, fun q hq => .tail _ (mB q hq), rfl, rfl, rfl, ⟨oD, [], .tail _ mD, lo₂, Nat.le_refl _, fun k hk => absurd hk (Nat.not_lt_zero _)⟩, ⟨o1', .tail _ mc1, d1'⟩, ⟨o2, _, .tail _ mc2, d2⟩, ⟨o3, _, .tail _ mc3, d3⟩⟩
    case turn =>
      rintro I i d t s₁ m₁ N₁ hd ⟨hI, J⟩ F₁ NN₁ ⟨oI, hoI⟩ ⟨h₅, tk₅, rfl⟩
      have hI : @LT.lt Nat _ D I := hI
      obtain ⟨rfl, hi⟩ : d = i ∧ i < 5 := by
        have hi : i < 5 := (List.getElem?_eq_some_iff.mp hd).1
        rcases (by omega : i = 0 ∨ i = 1 ∨ i = 2 ∨ i = 3 ∨ i = 4) with rfl | rfl | rfl | rfl | rfl <;> exact ⟨by simpa using hd.symm, hi⟩
      clear F₃ N₃
      revert F₁
      generalize hm₂ : (fun y => if y = Str.ofString "knot" then some (Value.str (txt [d]) t) else m₁ y) = m₂
      intro F₁
      have a1 : m₂ (Str.ofString "links") = some (.ref G.ln) := by rw [← hm₂]; exact J.n1
      have a2 : m₂ (Str.ofString "moves") = some (.ref G.mv) := by rw [← hm₂]; exact J.n2
      have a3 : m₂ (Str.ofString "places") = some (.ref pl) := by rw [← hm₂]; exact J.n3
      have a4 : m₂ (Str.ofString "knot") = some (.str (txt [d]) t) := by rw [← hm₂]; rfl
      have F₁ : Fr h₀ L' h₅ m₂ := F₁
      have NN₁ : News h₀ L' h₅ N₁ := NN₁
      obtain ⟨o1c, c1, c1d⟩ := J.cell1
      obtain ⟨o2c, v2, c2, c2d⟩ := J.cell2
      obtain ⟨o3c, v3, c3, c3d⟩ := J.cell3
      obtain ⟨oD', kvs, hD, hdD, hlen, hk⟩ := J.dict
      obtain ⟨oln, lkv, K1, K2, K3⟩ := id DI.links
      have b3 := J.base _ (.tail _ K1)
      obtain ⟨wv, W1, wt, rfl⟩ := K3 d (by omega)
      iterate 2 walk1
      refine wpAny_ListComp_free (cl := [(Str.ofString "number", L' + 1)]) (fun _ => true) (fun v y => ∃ d u u', v = .str (txt [d]) u ∧ y = .int ((G.g d : Nat) : Int) u') (by with_unfolding_all rfl) (by decide) rfl (by decide) rfl ?_
      iterate 3 walk1
      refine kda_item (knd := strKind _ _) NN₁ b3 K2 (strKind_is _ _ _ _) W1 ?_
      refine wpAny_pyIter_ascii (ascii_digits fun j hj => by have := W.low d (by omega) j hj; omega) ?_
      refine ⟨_, [_], [_], _, _, _, rfl, Walks.strAscii (prog := PP) (w := w) rfl _ (txt (G.lw d)) wt, by rw [size_txt, sizeLine_eq]; have := W.len d (by omega); omega, ⟨_, Heap.get?_push_size _ rfl, rfl, rfl⟩, ?fpl, ?qu, ?fin⟩
      case fpl =>
        intro b hb
        rw [List.mem_singleton.mp hb]
        exact Heap.lt_size (Heap.get?_push_size _ rfl)
      case qu =>
        refine ⟨fun C j v s₃ m₃ E' hC hP hNs hm keep htk => tests_nil ⟨rfl, _, _, rfl, fun _ _ e => e⟩, fun C j v s₃ m₃ E' hC hP hpv hNs hm keep htk => ?_⟩
        obtain ⟨H, g', dr', tk', os'⟩ := s₃
        dsimp only at hNs
        obtain ⟨q, u, hq, rfl⟩ := sign_txt hP
        have hcell : H.get? (L' + 1) = some o1c := keep_one keep _ _ (NN₁.get c1)
        have NH : News h₀ L' H N₁ := fun x hx => ⟨keep_one keep _ _ (NN₁ x hx).1, (NN₁ x hx).2⟩
        obtain ⟨ti, hki⟩ := hk q (W.low d (by omega) q (List.mem_of_getElem? hq))
        iterate 3 walk1
        refine kda_item (knd := strKind _ _) NH hD hdD (strKind_is _ _ _ _) hki ?_
        exact ⟨⟨q, _, _, rfl, rfl⟩, _, _, rfl, fun _ _ e => e⟩
      case fin =>
        intro D' h₇ tk₇ ys vs hD' hL₇ hP₇ hlen₇ hPs hF keep
        have kp := keep_one keep
        have F₇ := F₁.kept kp
        obtain ⟨nB, hB⟩ := hP₇
        have ivs : IntsAre ys.toList ((G.lw d).map fun q => ((G.g q : Nat) : Int)) := paired_nums (by rw [hlen₇, size_txt]) hPs (by rw [List.filter_eq_self.mpr fun _ _ => rfl] at hF; exact hF)
        have Df : ∀ q ∈ N₁, q.1 ≠ D' := fun q hq e => by
          have := Heap.get?_push_of_some { cls := .type "str_ascii_iterator", data := .fields #[.str (txt (G.lw d)) wt, .int 0 0] } (NN₁ q hq).1
          rw [e] at this
          have h9 : (h₅.push { cls := .type "str_ascii_iterator", data := .fields #[.str (txt (G.lw d)) wt, .int 0 0] }).get? D' = none := hD'
          rw [h9] at this; cases this
        have N₇ : News h₀ L' h₇ ((D', { cls := .type "list", data := .seq ys nB }) :: N₁) := fun q hq => by
          rcases List.mem_cons.mp hq with rfl | hq
          · exact ⟨hB, new_ok (F₁.push _) hD'⟩
          · exact ⟨kp _ _ (NN₁ q hq).1, (NN₁ q hq).2⟩
        clear F₁ NN₁
        refine st_cell F₇ N₇ rfl (.tail _ c2) c2d fun h₈ o2' F₈ N₈ c2d' => ?_
        clear F₇ N₇
        have m1 : (D', ({ cls := .type "list", data := .seq ys nB } : Obj)) ∈ putAt (L' + 2) o2' ((D', { cls := .type "list", data := .seq ys nB }) :: N₁) := mem_put (.head _) (Ne.symm (Df _ c2))
        have m2 : (L' + 2, o2') ∈ putAt (L' + 2) o2' ((D', { cls := .type "list", data := .seq ys nB }) :: N₁) := .head _
        have mk : ∀ q ∈ N₁, q.1 ≠ L' + 2 → q ∈ putAt (L' + 2) o2' ((D', { cls := .type "list", data := .seq ys nB }) :: N₁) := fun q hq hne => mem_put (.tail _ hq) hne
        generalize putAt (L' + 2) o2' ((D', { cls := .type "list", data := .seq ys nB }) :: N₁) = N₈l at *
        dsimp only
        iterate 6 walk1
        refine wpAny_ListComp_free (cl := [(Str.ofString "behind", L' + 2)]) (fun v => match v with | .int j _ => !(((G.lw d).map fun q => ((G.g q : Nat) : Int)).any (· == j)) | _ => false) (fun v y => ∃ (j : Nat) (u u' : Tok), v = .int (j : Int) u ∧ y = .int (j : Int) u') (by with_unfolding_all rfl) (by decide) rfl (by decide) rfl ?_
        iterate 6 walk1
        refine call_range_1 ?_
        refine wpAny_pyIter_range (Heap.get?_push_size _ rfl) (by decide) ?_
        refine ⟨_, [_], [_], 5, _, _, rfl, walks_range rfl _ 5, by rw [sizeLine_eq]; omega, Heap.get?_push_size _ rfl, ?fpl2, ?qu2, ?fin2⟩
        case fpl2 =>
          intro b hb
          rw [List.mem_singleton.mp hb]
          exact Heap.lt_size (Heap.get?_push_size _ rfl)
        case qu2 =>
          refine ⟨fun C j v s₃ m₃ E' hC hP hNs hm keep htk => ?_, fun C j v s₃ m₃ E' hC hP hpv hNs hm keep htk => ?_⟩
          · obtain ⟨hj, t', rfl⟩ := hP
            obtain ⟨H, g', dr', tk', os'⟩ := s₃
            dsimp only at hNs
            have hcell : H.get? (L' + 2) = some o2' := keep_two keep _ _ (N₈.get m2)
            have hlist : H.get? D' = some { cls := .type "list", data := .seq ys nB } := keep_two keep _ _ (N₈.get m1)
            refine tests_one ?_
            iterate 3 walk1
            refine notin_list_ints (vs := ys.toList) ⟨_, hlist, rfl, nB, by simp⟩ ivs ?_
            iterate 1 walk1
            exact ⟨rfl, _, _, rfl, fun _ _ e => e⟩
          · obtain ⟨hj, t', rfl⟩ := hP
            obtain ⟨H, g', dr', tk', os'⟩ := s₃
            dsimp only at hNs
            iterate 1 walk1
            exact ⟨⟨j, _, _, rfl, rfl⟩, _, _, rfl, fun _ _ e => e⟩
        case fin2 =>
          intro D3 h₉ tk₉ zs ws hD3 hL₉ hP₉ hlen₉ hPs₉ hF₉ keep₉
          have kp₉ := keep_two keep₉
          have F₉ := F₈.kept kp₉
          have N₉ : News h₀ L' h₉ N₈l := fun q hq => ⟨kp₉ _ _ (N₈ q hq).1, (N₈ q hq).2⟩
          clear F₈ N₈
          have hfil : ∀ j : Nat, (!(((G.lw d).map fun q => ((G.g q : Nat) : Int)).any (· == (j : Int)))) = !((G.lw d).map G.g).contains j := fun j => by
            rw [any_cast]
          have zis := paired_same (f := fun j => !((G.lw d).map G.g).contains j) hlen₉ hPs₉ (fun j t => hfil j) hF₉
          iterate 1 walk1
          refine min_list_N (vs := zs.toList) rfl F₉ N₉ (by rw [Array.toArray_toList]; exact hL₉) zis (mex_ne (by rw [List.length_map]; exact W.len d (by omega))) fun h₁₀ M t₁₀ tk₁₀ F₁₀ N₁₀ hM hle => ?_
          clear F₉ N₉
          obtain rfl : M = ((G.g d : Nat) : Int) := by
            rw [mex_min (by rw [List.length_map]; exact W.len d (by omega)) hM hle, GX d (by omega)]
          have c1' := mk _ c1 (Nat.ne_of_lt (Nat.lt_succ_self _))
          iterate 2 walk1
          have nD2 : D ≠ L' + 2 := Nat.ne_of_gt (by omega)
          refine set_led F₁₀ N₁₀ (mk _ hD nD2) hdD (by rw [sizeLine_eq]; omega) fun h₁₁ o₁₁ F₁₁ N₁₁ hd₁₁ => ?_
          clear F₁₀ N₁₀
          iterate 2 walk1
          have nI2 : I ≠ L' + 2 := Nat.ne_of_gt (by omega)
          have nID : I ≠ D := Nat.ne_of_gt hI
          refine ⟨⟨_, _, rfl⟩, m₂, _, F₁₁, N₁₁, fun o ho => mem_put (mk _ ho nI2) nID, hI, ⟨fun q hq => mem_put (mk _ (J.base q hq) (Nat.ne_of_lt (Nat.lt_trans (lt' q hq) (by omega)))) (Nat.ne_of_lt (Nat.lt_trans (lt' q hq) (by omega))), a1, a2, a3, ⟨o₁₁, _, .head _, hd₁₁, Nat.le_trans stored_len (by omega), fun k hk' => ?_⟩,
            ⟨o1c, mem_put c1' (Nat.ne_of_lt (by omega)), c1d⟩, ⟨o2', _, mem_put m2 (Ne.symm nD2), c2d'⟩, ⟨o3c, v3, mem_put (mk _ c3 (Nat.ne_of_gt (by omega))) (Nat.ne_of_lt (by omega)), c3d⟩⟩⟩
          by_cases hki : k = d
          · subst hki
            exact ⟨_, valueAt_stored_self⟩
          · rw [valueAt_stored_ne fun e => hki (by have := txt_inj e; simpa using this)]
            exact hk k (by omega)
    case done =>
      rintro I s₁ m₁ N₁ ⟨hI, J⟩ F₁ NN₁ ⟨h₅, tk₅, rfl⟩
      exact ⟨h₅, tk₅, m₁, N₁, rfl, F₁, NN₁, J⟩
  case tail =>
    rintro s' ⟨h₄, tk₄, m₄, N₅, rfl, F₄, NN₅, J⟩
    clear F₃ N₃
    have a2 := J.n2
    have a3 := J.n3
    obtain ⟨o1c, c1, c1d⟩ := J.cell1
    obtain ⟨o3c, v3, c3, c3d⟩ := J.cell3
    obtain ⟨oDn, nkv, hDn, hdn, _, hnk⟩ := J.dict
    iterate 3 walk1
    rename_i D5 h₅ o5 F₅ N₅' l5 lo5 hs5 fs5 hi5 fi5
    refine st_cell F₅ N₅' rfl (.tail _ c3) c3d fun h₆ o3' F₆ N₆ c3d' => ?_
    clear F₅ N₅'
    have lt2 : ∀ q ∈ (D, oDn) :: (L' + 1, o1c) :: (L' + 3, o3') :: (L, oL) :: N, q.1 < D5 := fun q hq => by
      rcases List.mem_cons.mp hq with rfl | hq
      · exact l5 _ hDn
      rcases List.mem_cons.mp hq with rfl | hq
      · exact l5 _ c1
      rcases List.mem_cons.mp hq with rfl | hq
      · exact l5 (L' + 3, o3c) c3
      · exact l5 _ (J.base q hq)
    have nD3 : D ≠ L' + 3 := Nat.ne_of_gt (by omega)
    have n53 : D5 ≠ L' + 3 := Nat.ne_of_gt (l5 _ c3)
    have m5 : (D5, o5) ∈ putAt (L' + 1 + 1 + 1) o3' ((D5, o5) :: N₅) := mem_put (.head _) n53
    have mB2 : ∀ q ∈ (D, oDn) :: (L' + 1, o1c) :: (L' + 3, o3') :: (L, oL) :: N, q ∈ putAt (L' + 1 + 1 + 1) o3' ((D5, o5) :: N₅) := fun q hq => by
      rcases List.mem_cons.mp hq with rfl | hq
      · exact mem_put (.tail _ hDn) nD3
      rcases List.mem_cons.mp hq with rfl | hq
      · exact mem_put (.tail _ c1) (Nat.ne_of_lt (by omega))
      rcases List.mem_cons.mp hq with rfl | hq
      · exact .head _
      · exact mem_put (.tail _ (J.base q hq)) (Nat.ne_of_lt (Nat.lt_trans (lt' q hq) (by omega)))
    generalize putAt (L' + 1 + 1 + 1) o3' ((D5, o5) :: N₅) = N₇ at *
    clear c1 c3 hDn J l5
    dsimp only
    generalize hB2 : (D, oDn) :: (L' + 1, o1c) :: (L' + 3, o3') :: (L, oL) :: N = B2 at *
    have b1 : (D, oDn) ∈ B2 := by rw [← hB2]; exact .head _
    have b2 : (L' + 1, o1c) ∈ B2 := by rw [← hB2]; exact .tail _ (.head _)
    have b3 : (L' + 3, o3') ∈ B2 := by rw [← hB2]; exact .tail _ (.tail _ (.head _))
    have b4 : ∀ q ∈ (L, oL) :: N, q ∈ B2 := fun q hq => by rw [← hB2]; exact .tail _ (.tail _ (.tail _ hq))
    clear hB2
    obtain ⟨om, mkv, M1, M2, M3⟩ := id DI.moves
    obtain ⟨pvs, pn, P1, P2⟩ := id DI.places
    refine execs_two (fun s' => ∃ h' tk' m' N', s' = { s with heap := h', toks := tk' } ∧ Fr h₀ L' h' m' ∧ News h₀ L' h' N' ∧ FJ w G pl ps B2 D5 ps.length m' N') ?tail2 ?head2
    case head2 =>
      refine wpAny_For ?_
      iterate 1 walk1
      refine loop_list rfl (fun I i m N'' => D5 < I ∧ FJ w G pl ps B2 D5 i m N'') ?hJ2 rfl rfl F₆ N₆ (mB2 _ (b4 _ (.tail _ P1))) rfl ?hj2 ?turn2 ?done2
      case hJ2 =>
        rintro I i m N₁ N₂ ⟨hI, J⟩ _ hs _
        have hI : @LT.lt Nat _ D5 I := hI
        refine ⟨hI, { J with base := fun q hq => hs _ _ (J.base q hq) (Nat.ne_of_lt (Nat.lt_trans (lt2 q hq) hI)), dict := ?_ }⟩
        obtain ⟨o, kvs, h1, r⟩ := J.dict
        exact ⟨o, kvs, hs _ _ h1 (Nat.ne_of_lt hI), r⟩
      case hj2 =>
        intro I oI lt _
        exact ⟨lt _ m5, fun q hq => .tail _ (mB2 q hq), a2, a3, ⟨o5, [], .tail _ m5, hs5, Nat.le_refl _, fun p hp => by simp at hp⟩⟩
      case turn2 =>
        rintro I i v s₁ m₁ N₁ hv ⟨hI, J⟩ F₁ NN₁ hl₁ ⟨oI, hoI, hcI⟩ ⟨h₇, tk₇, rfl⟩
        have hI : @LT.lt Nat _ D5 I := hI
        have hi : i < ps.length := by
          have h1 := (List.getElem?_eq_some_iff.mp hv).1
          rw [P2.length, List.length_map] at h1
          exact h1
        obtain ⟨u, hu⟩ := StrsAre.get P2 i (txt ps[i]) (by rw [List.getElem?_map, List.getElem?_eq_getElem hi]; rfl)
        rw [hv] at hu
        obtain rfl := Option.some.inj hu
        have hpm : ps[i] ∈ ps := List.getElem_mem hi
        have hpi : ps[i]? = some ps[i] := List.getElem?_eq_getElem hi
        generalize ps[i] = p at *
        have hp := DI.isp p hpm
        revert F₁
        generalize hm₂ : (fun y => if y = Str.ofString "place" then some (Value.str (txt p) u) else m₁ y) = m₂
        intro F₁
        clear F₆ N₆ a2 a3
        have a2 : m₂ (Str.ofString "moves") = some (.ref G.mv) := by rw [← hm₂]; exact J.n2
        have a3 : m₂ (Str.ofString "places") = some (.ref pl) := by rw [← hm₂]; exact J.n3
        have a4 : m₂ (Str.ofString "place") = some (.str (txt p) u) := by rw [← hm₂]; rfl
        have F₁ : Fr h₀ L' h₇ m₂ := F₁
        have NN₁ : News h₀ L' h₇ N₁ := NN₁
        obtain ⟨lm, lvs, ln, V1, V2, V3⟩ := M3 p hpm
        have c1 := J.base _ b2
        have hDn := J.base _ b1
        have bm := J.base _ (b4 _ (.tail _ M1))
        have bl := J.base _ (b4 _ (.tail _ V2))
        iterate 1 walk1
        refine wpAny_Assign_ListComp_free (cl := [(Str.ofString "number", L' + 1)]) (fun v => match v with | .str x _ => nim G.g (udig x) == 0 | _ => false) (fun v y => ∃ x u u', v = .str x u ∧ y = .str x u') (by with_unfolding_all rfl) (by with_unfolding_all rfl) (by decide) rfl (by decide) rfl rfl rfl ?_
        iterate 3 walk1
        refine kda_item (knd := strKind _ _) NN₁ bm M2 (strKind_is _ _ _ _) V1 ?_
        have hlst : h₇.IsList lm lvs.toArray := ⟨_, NN₁.get bl, rfl, ln, rfl⟩
        have hml : lm ≠ h₇.objs.size := Nat.ne_of_lt (Heap.lt_size (NN₁.get bl))
        have hL'7 : L' < h₇.objs.size := F₁.ns.lt
        refine wpAny_pyIter_list hlst ?_
        refine ⟨_, [h₇.objs.size, lm], [h₇.objs.size], lvs.toArray.size, _, _, m₂, rfl, Walks.list (prog := PP) (w := w) rfl h₇.objs.size lm hml lvs.toArray, ?lsz, ⟨⟨_, Heap.get?_push_size _ rfl, rfl, rfl⟩, hlst.push _⟩, ?fpl3, ?Lw3, ((F₁.push _).ns), ?qu3, ?fin3⟩
        case lsz => rw [List.size_toArray, sizeLine_eq, V3.length, List.length_map]; have := mvs_len W hp; omega
        case fpl3 =>
          intro b hb
          rcases List.mem_cons.mp hb with rfl | hb
          · exact Heap.lt_size (Heap.get?_push_size _ rfl)
          · rw [List.mem_singleton.mp hb]
            exact Heap.lt_size (Heap.get?_push_of_some _ (NN₁.get bl))
        case Lw3 => exact fun e => absurd (List.mem_singleton.mp e) (Nat.ne_of_lt hL'7)
        case qu3 =>
          have item : ∀ (j : Nat) (v : Value), lvs.toArray[j]? = some v → ∃ (q : List Nat) (u : Tok), (mvs G.lw p)[j]? = some q ∧ v = Value.str (txt q) u := fun j v hv => by
            have hv' : lvs[j]? = some v := by simpa using hv
            have hj : j < (mvs G.lw p).length := by
              have h1 := (List.getElem?_eq_some_iff.mp hv').1
              rw [V3.length, List.length_map] at h1
              exact h1
            obtain ⟨u, hu⟩ := StrsAre.get V3 j (txt (mvs G.lw p)[j]) (by rw [List.getElem?_map, List.getElem?_eq_getElem hj]; rfl)
            rw [hv'] at hu
            exact ⟨_, u, List.getElem?_eq_getElem hj, Option.some.inj hu⟩
          refine ⟨fun C j v s₃ m₃ E' hC hP hNs hm keep htk => ?_, fun C j v s₃ m₃ E' hC hP hpv hNs hm keep htk => ?_⟩
          · obtain ⟨q, u', hq, rfl⟩ := item j v hP
            obtain ⟨H, g', dr', tk', os'⟩ := s₃
            dsimp only at hNs
            have hcell : H.get? (L' + 1) = some o1c := keep_one keep _ _ (NN₁.get c1)
            have NH : News h₀ L' H N₁ := fun x hx => ⟨keep_one keep _ _ (NN₁ x hx).1, (NN₁ x hx).2⟩
            have FH := F₁.kept (keep_one keep)
            obtain ⟨⟨a, b, c, rfl, hab, hbc, hc4⟩, _⟩ := mvs_place W hp (List.mem_of_getElem? hq)
            obtain ⟨ta, hka⟩ := hnk a (by omega)
            obtain ⟨tb, hkb⟩ := hnk b (by omega)
            obtain ⟨tc, hkc⟩ := hnk c (by omega)
            refine tests_one ?_
            iterate 8 walk1
            refine item0 fun _ _ => ?_
            refine kda_item (knd := strKind _ _) NH hDn hdn (strKind_is _ _ _ _) hka ?_
            iterate 5 walk1
            refine item1 fun _ _ => ?_
            refine kda_item (knd := strKind _ _) NH hDn hdn (strKind_is _ _ _ _) hkb ?_
            iterate 6 walk1
            refine item2 fun _ _ => ?_
            refine kda_item (knd := strKind _ _) NH hDn hdn (strKind_is _ _ _ _) hkc ?_
            iterate 4 walk1
            exact ⟨xor_test G.g a b c (g_le W GX (by omega)) (g_le W GX (by omega)) (g_le W GX hc4), _, _, rfl, fun _ _ e => e⟩
          · obtain ⟨q, u', hq, rfl⟩ := item j v hP
            obtain ⟨H, g', dr', tk', os'⟩ := s₃
            dsimp only at hNs
            iterate 1 walk1
            exact ⟨⟨_, _, _, rfl, rfl⟩, _, _, rfl, fun _ _ e => e⟩
        case fin3 =>
          intro D6 h₈ tk₈ ys vs hD6 hL₈ hP₈ hlen₈ hPs₈ hF₈ hNs₈ keep₈
          obtain rfl := list_of_places hlen₈ hPs₈
          have sts := paired_strs (f := fun q => nim G.g q == 0) (fun q t => by show (nim G.g (udig (txt q)) == 0) = _; rw [udig_txt]) V3 hF₈
          have kp8 : ∀ b o, b ≠ L' → h₇.get? b = some o → h₈.get? b = some o := fun b o hb e => keep₈ b o hb (fun e' => absurd (List.mem_singleton.mp e') (Nat.ne_of_lt (Heap.lt_size e))) (Heap.get?_push_of_some _ e)
          have L0 := Fr.L_fresh F₁
          have F₈ : Fr h₀ L' h₈ (fun z => if z = Str.ofString "noughts" then some (.ref D6) else m₂ z) := ⟨hNs₈, fun b o e => kp8 b o (fun e' => by rw [e', L0] at e; cases e) (F₁.keep b o e), F₁.above⟩
          obtain ⟨n6, hl6⟩ := hP₈
          have N₈ : News h₀ L' h₈ ((D6, { cls := .type "list", data := .seq ys n6 }) :: N₁) := fun q hq => by
            rcases List.mem_cons.mp hq with rfl | hq
            · exact ⟨hl6, new_ok (F₁.push _) hD6⟩
            · exact ⟨kp8 _ _ (NN₁ q hq).2.1 (NN₁ q hq).1, (NN₁ q hq).2⟩
          clear F₁ NN₁
          dsimp only
          iterate 14 walk1
          have hpick : (slicePick ys none (some 1) none).toList = ys.toList.take 1 := by
            rw [kmk_pick_nat ys (a := 0) (b := min 1 ys.size) (by simp only [sliceBounds, Option.getD_none, show (1 : Int) > 0 by decide, if_true, if_neg (show ¬ ((1 : Int) < 0) by omega)]; congr 1; congr 1; omega)]
            show ((ys.toList.drop 0).take (min 1 ys.size - 0)) = _
            rw [List.drop_zero, Nat.sub_zero, ← Array.length_toList, kmk_take_min]
          k_dflt (refine' kmk_slice_lit (zs := ys.toList.take 1) F₈ N₈ ⟨_, hl6, rfl, n6, rfl⟩ .none (.int _ _) hpick ?_ ?hs ?ht ?hz)
          case hs => with_unfolding_all rfl
          case ht => intro _; with_unfolding_all rfl
          case hz =>
            have h1 := sts.length
            have h2 := mvs_len W hp
            have h3 := List.length_filter_le (fun q => nim G.g q == 0) (mvs G.lw p)
            rw [Array.length_toList, List.length_map] at h1
            rw [sizeLine_eq]; omega
          intro D7 h₉ F₉ N₉ lt₉
          clear F₈ N₈
          have sts1 : StrsAre (ys.toList.take 1) (((mvs G.lw p).find? fun q => nim G.g q == 0).toList.map txt) := by
            have := strs_take1 sts
            rwa [← List.map_take, find_filter] at this
          have aP : (fun z => if z = Str.ofString "noughts" then some (Value.ref D6) else m₂ z) (Str.ofString "place") = some (.str (txt p) u) := a4
          have c3N : (L' + 3, o3') ∈ (D7, listOf (ys.toList.take 1).toArray 0) :: (D6, { cls := .type "list", data := .seq ys n6 }) :: N₁ := .tail _ (.tail _ (J.base _ b3))
          iterate 1 walk1
          refine join_opt (o := (mvs G.lw p).find? fun q => nim G.g q == 0) (fun q hq => by rw [(mvs_place W hp (List.mem_of_find?_eq_some hq)).1.len]; decide) (N₉.get (.head _)) sts1 fun t9 k9 => ?_
          iterate 2 walk1
          obtain ⟨oD5, fkv, hD5, hd5, hlen5, hf5⟩ := J.dict
          refine set_led F₉ N₉ (.tail _ (.tail _ hD5)) hd5 (sl_of (Nat.le_trans hlen5 (Nat.le_trans (Nat.le_of_lt hi) DI.len))) fun h₁₀ o₁₀ F₁₀ N₁₀ hd₁₀ => ?_
          clear F₉ N₉
          iterate 2 walk1
          have nID : I ≠ D5 := Nat.ne_of_gt hI
          refine ⟨⟨_, _, rfl⟩, _, _, F₁₀, N₁₀, fun b hb o ho => mem_put (.tail _ (.tail _ ho)) ?_, hI, ⟨fun q hq => mem_put (.tail _ (.tail _ (J.base q hq))) (Nat.ne_of_lt (lt2 q hq)), a2, a3, ⟨o₁₀, _, .head _, hd₁₀, Nat.le_trans stored_len (by omega), fun r hr => ?_⟩⟩⟩
          · rcases hb with rfl | rfl
            · exact nID
            · exact Nat.ne_of_lt (lt2 _ (b4 _ (.tail _ P1)))
          · rw [List.take_add_one, hpi] at hr
            by_cases hrp : r = p
            · subst hrp
              exact ⟨_, valueAt_stored_self, _, rfl⟩
            · rw [valueAt_stored_ne fun e => hrp (txt_inj e)]
              refine hf5 r ?_
              rcases List.mem_append.mp hr with hr | hr
              · exact hr
              · exact absurd (by simpa using hr) hrp
      case done2 =>
        rintro I s₁ m₁ N₁ ⟨hI, J⟩ F₁ NN₁ ⟨h₇, tk₇, rfl⟩
        rw [show pvs.length = ps.length from by rw [P2.length, List.length_map]] at J
        exact ⟨h₇, tk₇, m₁, N₁, rfl, F₁, NN₁, J⟩
    case tail2 =>
      rintro s' ⟨h₈, tk₈, m₈, N₈, rfl, F₈, NN₈, J8⟩
      clear F₆ N₆
      have a2 := J8.n2
      have a3 := J8.n3
      obtain ⟨oD5, fkv, hD5, hd5, hlen5, hf5⟩ := J8.dict
      rw [List.take_length] at hf5
      iterate 4 walk1
      rename_i D9 h₉ o9 l9 lo9 hs9 fs9 hi9 fi9 h₁₀ F₁₀ N₁₀
      have m9 : (D9, o9) ∈ (D9, o9) :: N₈ := .head _
      have lt3 : ∀ q ∈ (D5, oD5) :: B2, q.1 < D9 := fun q hq => by
        rcases List.mem_cons.mp hq with rfl | hq
        · exact l9 _ hD5
        · exact l9 _ (J8.base q hq)
      have mB3 : ∀ q ∈ (D5, oD5) :: B2, q ∈ (D9, o9) :: N₈ := fun q hq => by
        rcases List.mem_cons.mp hq with rfl | hq
        · exact .tail _ hD5
        · exact .tail _ (J8.base q hq)
      generalize (D9, o9) :: N₈ = N₁₁ at *
      dsimp only
      refine execs_two (fun s' => ∃ h' tk' m' N', s' = { s with heap := h', toks := tk' } ∧ Fr h₀ L' h' m' ∧ News h₀ L' h' N' ∧ DJ w G pl ps ((D5, oD5) :: B2) D9 ps.length m' N') ?tail3 ?head3
      case head3 =>
        have a3' : (fun y => if y = Str.ofString "due" then some (Value.ref D9) else m₈ y) (Str.ofString "places") = some (.ref pl) := a3
        refine wpAny_For ?_
        iterate 1 walk1
        refine loop_list rfl (fun I i m N'' => D9 < I ∧ DJ w G pl ps ((D5, oD5) :: B2) D9 i m N'') ?hJ3 rfl rfl F₁₀ N₁₀ (mB3 _ (.tail _ (b4 _ (.tail _ P1)))) rfl ?hj3 ?turn3 ?done3
        case hJ3 =>
          rintro I i m N₁ N₂ ⟨hI, J⟩ hcI hs _
          have hI : @LT.lt Nat _ D9 I := hI
          refine ⟨hI, { J with base := fun q hq => hs _ _ (J.base q hq) (Nat.ne_of_lt (Nat.lt_trans (lt3 q hq) hI)), dict := ?_ }⟩
          obtain ⟨o, kvs, h1, h2, h3, h4, h5⟩ := J.dict
          refine ⟨o, kvs, hs _ _ h1 (Nat.ne_of_lt hI), h2, h3, h4, fun x v hx => ?_⟩
          obtain ⟨p, p1, p2, p3⟩ := h5 x v hx
          refine ⟨p, p1, p2, ?_⟩
          unfold DueOK at p3 ⊢
          split at p3
          · rename_i h0
            rw [if_pos h0]
            obtain ⟨d, od, kv2, e1, e2, e3, e4, e5, e6, e7, e8⟩ := p3
            refine ⟨d, od, kv2, e1, hs _ _ e2 (fun e => ?_), e3, e4, e5, e6, e7, fun x u hu => ?_⟩
            · have h9 := hcI od (e ▸ e2)
              rw [dict_cls e6] at h9
              injection h9 with h9
              exact absurd h9 (by decide)
            · obtain ⟨q, t, tk, t', f1, f2, f3, f4, f5⟩ := e8 x u hu
              refine ⟨q, t, tk, t', f1, f2, f3, hs _ _ f4 (fun e => ?_), f5⟩
              have h9 := hcI _ (e ▸ f4)
              injection h9 with h9
              exact absurd h9 (by decide)
          · rename_i h0
            rw [if_neg h0]
            exact p3
        case hj3 =>
          intro I oI lt _
          exact ⟨lt _ m9, fun q hq => .tail _ (mB3 q hq), a2, a3, rfl, ⟨o9, [], .tail _ m9, hs9, Nat.le_refl _, rfl, fun x v h => by cases h⟩⟩
        case turn3 =>
          rintro I i v s₁ m₁ N₁ hv ⟨hI, J⟩ F₁ NN₁ hl₁ ⟨oI, hoI, hcI⟩ ⟨h₇, tk₇, rfl⟩
          have hI : @LT.lt Nat _ D9 I := hI
          have hi : i < ps.length := by
            have h1 := (List.getElem?_eq_some_iff.mp hv).1
            rw [P2.length, List.length_map] at h1
            exact h1
          obtain ⟨u, hu⟩ := StrsAre.get P2 i (txt ps[i]) (by rw [List.getElem?_map, List.getElem?_eq_getElem hi]; rfl)
          rw [hv] at hu
          obtain rfl := Option.some.inj hu
          have hpm : ps[i] ∈ ps := List.getElem_mem hi
          have hpi : ps[i]? = some ps[i] := List.getElem?_eq_getElem hi
          generalize ps[i] = p at *
          have hp := DI.isp p hpm
          revert F₁
          generalize hm₂ : (fun y => if y = Str.ofString "place" then some (Value.str (txt p) u) else m₁ y) = m₂
          intro F₁
          clear F₁₀ N₁₀ a2 a3
          have a2 : m₂ (Str.ofString "moves") = some (.ref G.mv) := by rw [← hm₂]; exact J.n2
          have a3 : m₂ (Str.ofString "places") = some (.ref pl) := by rw [← hm₂]; exact J.n3
          have a4 : m₂ (Str.ofString "place") = some (.str (txt p) u) := by rw [← hm₂]; rfl
          have a5 : m₂ (Str.ofString "due") = some (.ref D9) := by rw [← hm₂]; exact J.n4
          have F₁ : Fr h₀ L' h₇ m₂ := F₁
          have NN₁ : News h₀ L' h₇ N₁ := NN₁
          obtain ⟨lm, lvs, ln, V1, V2, V3⟩ := M3 p hpm
          have c1 := J.base _ (.tail _ b2)
          have c3 := J.base _ (.tail _ b3)
          have hDn := J.base _ (.tail _ b1)
          have hD5' := J.base _ (.head _)
          have bm := J.base _ (.tail _ (b4 _ (.tail _ M1)))
          have bl := J.base _ (.tail _ (b4 _ (.tail _ V2)))
          obtain ⟨fv, hf1, ft, rfl⟩ := hf5 p hpm
          iterate 5 walk1
          refine kda_item (knd := strKind _ _) NN₁ hD5' hd5 (strKind_is _ _ _ _) hf1 ?_
          obtain ⟨oD9, dkv, hD9, hd9, hlen9, hkeys9, hit9⟩ := J.dict
          iterate 2 walk1
          refine set_led F₁ NN₁ hD9 hd9 (sl_of (Nat.le_trans hlen9 (Nat.le_trans (Nat.le_of_lt hi) DI.len))) fun h₈' o₈ F₈' N₈' hd₈ => ?_
          clear F₁ NN₁
          have nB : ∀ q ∈ (D5, oD5) :: B2, q.1 ≠ D9 := fun q hq => Nat.ne_of_lt (lt3 q hq)
          have c1' : (L' + 1, o1c) ∈ putAt D9 o₈ N₁ := mem_put c1 (nB _ (.tail _ b2))
          have c3' : (L' + 3, o3') ∈ putAt D9 o₈ N₁ := mem_put c3 (nB _ (.tail _ b3))
          have hDn' : (D, oDn) ∈ putAt D9 o₈ N₁ := mem_put hDn (nB _ (.tail _ b1))
          obtain ⟨a, b, c, rfl, hab, hbc, hc4⟩ := id hp
          obtain ⟨ta, hka⟩ := hnk a (by omega)
          obtain ⟨tb, hkb⟩ := hnk b (by omega)
          obtain ⟨tc, hkc⟩ := hnk c (by omega)
          dsimp only
          iterate 10 walk1
          refine item0 fun _ _ => ?_
          refine kda_item (knd := strKind _ _) N₈' hDn' hdn (strKind_is _ _ _ _) hka ?_
          iterate 5 walk1
          refine item1 fun _ _ => ?_
          refine kda_item (knd := strKind _ _) N₈' hDn' hdn (strKind_is _ _ _ _) hkb ?_
          iterate 6 walk1
          refine item2 fun _ _ => ?_
          refine kda_item (knd := strKind _ _) N₈' hDn' hdn (strKind_is _ _ _ _) hkc ?_
          iterate 3 walk1
          have hx := xor_test G.g a b c (g_le W GX (by omega)) (g_le W GX (by omega)) (g_le W GX hc4)
          rw [udig_txt] at hx
          iterate 1 walk1
          by_cases h0 : nim G.g [a, b, c] = 0
          · refine ite_yes (by rw [hx]; exact beq_iff_eq.mpr h0) ?_
            dsimp only
            iterate 3 walk1
            have mI : ∀ q ∈ (D5, oD5) :: B2, q ∈ putAt D9 o₈ N₁ := fun q hq => mem_put (J.base q hq) (nB q hq)
            have bm' := mI _ (.tail _ (b4 _ (.tail _ M1)))
            have bl' := mI _ (.tail _ (b4 _ (.tail _ V2)))
            have hD9' : (D9, o₈) ∈ putAt D9 o₈ N₁ := .head _
            have hoI' : ∀ b o, (b, o) ∈ N₁ → b ≠ D9 → (b, o) ∈ putAt D9 o₈ N₁ := fun b o h hne => mem_put h hne
            generalize putAt D9 o₈ N₁ = NP at *
            refine dictcomp_free (cl := [(Str.ofString "firsts", L' + 3)]) rfl (fun _ => rfl) ?hcl rfl (by decide) ?_
            case hcl => with_unfolding_all rfl
            iterate 3 walk1
            refine kda_item (knd := strKind _ _) N₈' bm' M2 (strKind_is _ _ _ _) V1 ?_
            refine wpAny_pyIter_list (items := lvs.toArray) ⟨_, N₈'.get bl', rfl, ln, rfl⟩ ?_
            have ltP : ∀ q ∈ NP, q.1 < h₈'.objs.size := fun q hq => Heap.lt_size (N₈' q hq).1
            have FI := F₈'.push { cls := .type "list_iterator", data := .fields #[.ref lm, .int 0 0] }
            have NI := N₈'.push F₈' { cls := .type "list_iterator", data := .fields #[.ref lm, .int 0 0] }
            refine comp_dict (fun _ _ => rfl) (fun _ _ => rfl) (fun _ _ => rfl) rfl rfl (by decide) rfl T.nolimit FI NI (.head _) (fun s' Q E q h => wpAny_pyIter_listiter ⟨_, q, rfl, rfl⟩ h) fun D3 h₅' oC oD3 tk₅' ltD lo3 hd3 F₅ N₅ c₅ => ?_
            clear FI NI
            have ltI3 : h₈'.objs.size < D3 := ltD _ (.head _)
            generalize h₈'.objs.size = I3 at *
            dsimp only
            have ltI3' : @LT.lt Nat _ I3 D3 := ltI3
            refine comp_led (T := .type "list_iterator") (Walks.list (prog := PP) (w := w) rfl I3 lm (Nat.ne_of_lt (ltP _ bl')) lvs.toArray) rfl rfl rfl (compTurn_dict0 _ _ _ _ _ _ _ _ _)
              (fun i h st => let ⟨o, ho, hc, _⟩ := st.1; ⟨o, ho, hc⟩) (fun j mc N' => EJ w G [a, b, c] NP D3 I3 j N') (fun j m m' N N' J _ hs _ _ _ => J.step hs) rfl rfl (Nat.ne_of_lt (Nat.lt_succ_of_lt ltI3')) (fun q => ?hfC) F₅ N₅ ?hfp (c₅ _) ?hst ?hj ?turn ?done
            case hfC =>
              rcases List.mem_cons.mp q with q | q
              · exact absurd q (Nat.ne_of_gt (Nat.lt_succ_of_lt ltI3'))
              · exact absurd (List.mem_singleton.mp q) (Nat.ne_of_gt (Nat.lt_trans (ltP _ bl') (Nat.lt_succ_of_lt ltI3')))
            case hfp =>
              intro b hb
              rcases List.mem_cons.mp hb with rfl | hb
              · exact ⟨_, .tail _ (.tail _ (.head _))⟩
              · rw [List.mem_singleton.mp hb]
                exact ⟨_, .tail _ (.tail _ (.tail _ bl'))⟩
            case hst => exact ⟨⟨_, N₅.get (.tail _ (.tail _ (.head _))), rfl, rfl⟩, ⟨_, N₅.get (.tail _ (.tail _ (.tail _ bl'))), rfl, ln, rfl⟩⟩
            case hj => exact ⟨fun q hq => .tail _ (.tail _ (.tail _ hq)), ltP, ⟨oD3, [], .tail _ (.head _), hd3, Nat.le_refl _, rfl, fun x u h => by cases h⟩, ltI3⟩
            case turn =>
              clear F₅ N₅ F₈' N₈'
              intro j v s₂ mm N₂ hj hP2 J2 F₂ NN₂ cn₂ fpt₂ old₂ cI₂ rs₂
              obtain ⟨h₆', tk₆', rfl⟩ := rs₂
              have F₂ : Fr h₀ L' h₆' m₂ := F₂
              have NN₂ : News h₀ L' h₆' N₂ := NN₂
              have item : ∀ (j : Nat) (v : Value), lvs.toArray[j]? = some v → ∃ (q : List Nat) (u : Tok), (mvs G.lw [a, b, c])[j]? = some q ∧ v = Value.str (txt q) u := fun j v hv => by
                have hv' : lvs[j]? = some v := by simpa using hv
                have hj : j < (mvs G.lw [a, b, c]).length := by
                  have h1 := (List.getElem?_eq_some_iff.mp hv').1
                  rw [V3.length, List.length_map] at h1
                  exact h1
                obtain ⟨u, hu⟩ := StrsAre.get V3 j (txt (mvs G.lw [a, b, c])[j]) (by rw [List.getElem?_map, List.getElem?_eq_getElem hj]; rfl)
                rw [hv'] at hu
                exact ⟨_, u, List.getElem?_eq_getElem hj, Option.some.inj hu⟩
              obtain ⟨q, u', hq, rfl⟩ := item j v hP2
              clear item hP2
              have c3₂ : (L' + 3, o3') ∈ N₂ := J2.base _ c3'
              have hD5₂ : (D5, oD5) ∈ N₂ := J2.base _ (mI _ (.head _))
              dsimp only
              refine wpAny_bind ?_
              iterate 1 walk1
              refine wpAny_bind (wpAny_holding ?_)
              iterate 7 walk1
              refine kdg_method NN₂ hD5₂ hd5 ?_
              dsimp only
              iterate 6 walk1
              obtain ⟨fq, hfq, tq, rfl⟩ := hf5 q (hcl _ hpm h0 q (List.mem_of_getElem? hq))
              refine kdg_get2 (knd := strKind _ _) NN₂ hD5₂ hd5 lo5 (strKind_is _ _ _ _) _ hfq ?_
              dsimp only [Option.getD]
              have lt₂ : ∀ r ∈ N₂, r.1 < h₆'.objs.size := fun r hr => Heap.lt_size (NN₂ r hr).1
              iterate 2 walk1
              rename_i h₇' F₇' N₇' _ _
              show wpAny _ _ (standAt _ >>= fun _ => holding _ (dictSet D3 _ _)) _ _ _
              refine wpAny_bind (wpAny_standAt (wpAny_holding ?_))
              obtain ⟨o3d, kvs3, e1, e2, e3, e4, e5⟩ := J2.dict
              have hC2 : @LT.lt Nat _ (D3 + 1) h₆'.objs.size := let ⟨o, ho, _⟩ := cn₂.there; lt₂ _ ho
              have F₇' : Fr h₀ L' h₇' m₂ := F₇'
              have hjl : j ≤ 125 := by
                have h1 := (List.getElem?_eq_some_iff.mp hq).1
                have h2 := mvs_len W hp
                omega
              refine dset_led F₇' N₇' (.tail _ e1) e2 (sl_of (Nat.le_trans e3 hjl)) fun h₉' o₉' F₉' N₉' hd₉ => ?_
              refine ⟨⟨_, _, rfl⟩, _, _, F₉', N₉', cn₂.mono fun o ho => mem_put (.tail _ ho) (Nat.succ_ne_self D3), fun b hb o ho => mem_put (.tail _ ho) ?_, J2.store hq e3 e4 e5 (fun a o h hne => mem_put (.tail _ h) hne) (.head _) hd₉ (mem_put (.head _) (Nat.ne_of_gt (Nat.lt_of_succ_lt hC2))) hC2⟩
              rcases List.mem_cons.mp hb with rfl | hb
              · exact Nat.ne_of_lt ltI3'
              · rw [List.mem_singleton.mp hb]
                exact Nat.ne_of_lt (Nat.lt_trans (ltP _ bl') ltI3')
            case done =>
              clear F₅ N₅ F₈' N₈'
              intro s₂ mm N₂ J2 F₂ NN₂ cn₂ rs₂
              obtain ⟨h₆', tk₆', rfl⟩ := rs₂
              refine ⟨mm, cn₂.ns NN₂, fun h₇' hs₇ => ?_⟩
              have F₂ : Fr h₀ L' h₆' m₂ := F₂
              have NN₂ : News h₀ L' h₆' N₂ := NN₂
              obtain ⟨oc', hc', _⟩ := id cn₂.there
              have hC3 := (NN₂ _ hc').2
              have F₇' : Fr h₀ L' h₇' m₂ := F₂.change hs₇ hC3.1 hC3.2
              have N₇' : News h₀ L' h₇' (N₂.filter fun q => !(q.1 == D3 + 1)) := fun q hq => by
                obtain ⟨h1, h2⟩ := List.mem_filter.mp hq
                have hne : q.1 ≠ D3 + 1 := by simpa using h2
                exact ⟨(hs₇.2 _ hne).trans (NN₂ q h1).1, (NN₂ q h1).2⟩
              have upf : ∀ q, q ∈ N₂ → q.1 ≠ D3 + 1 → q ∈ N₂.filter fun q => !(q.1 == D3 + 1) := fun q h1 hne => List.mem_filter.mpr ⟨h1, by simpa using hne⟩
              generalize (N₂.filter fun q => !(q.1 == D3 + 1)) = NF at *
              clear F₂ NN₂
              have upP : ∀ q ∈ NP, q ∈ NF := fun q hq => upf q (J2.base q hq) (Nat.ne_of_lt (Nat.lt_trans (ltP q hq) (Nat.lt_succ_of_lt ltI3')))
              show wpAny _ _ (eval _ _) _ _ _
              dsimp only
              iterate 2 walk1
              obtain ⟨o3d, kvs3, e1, e2, e3, e4, e5⟩ := J2.dict
              have hD9I : @LT.lt Nat _ D9 I3 := ltP _ hD9'
              rw [List.size_toArray] at e4
              have hst9 : (stored dkv (txt [a, b, c]) (.str (txt (ans G.lw G.g [a, b, c])) ft)).length ≤ i + 1 := Nat.le_trans stored_len (by omega)
              refine set_led F₇' N₇' (upP _ hD9') hd₈ (sl_of (Nat.le_trans hst9 (Nat.le_trans hi DI.len))) fun h₉' o₉' F₉' N₉' hd₉ => ?_
              iterate 3 walk1
              have nID : I ≠ D9 := Nat.ne_of_gt hI
              have e1' : (D3, o3d) ∈ NF := upf _ e1 (Nat.ne_of_lt (Nat.lt_succ_self _))
              have n3 : @Ne Nat D3 D9 := Nat.ne_of_gt (Nat.lt_trans hD9I ltI3')
              refine ⟨⟨_, _, rfl⟩, m₂, _, F₉', N₉', fun b hb o ho => mem_put (upP _ (hoI' b o ho ?_)) ?_, hI, dj_store (v := .ref D3) (fun q hq => mem_put (upP _ (mI q hq)) (nB q hq)) a2 a3 a5 hkeys9 hlen9 hpi (fun x v hx => ?_) ?_ (.head _) hd₉ stored2_keys fun x u hx => mem_stored2 (dict_nodup hd₉) hx⟩
              · rcases hb with rfl | hb
                · exact nID
                · obtain rfl := hb
                  exact nB _ (.tail _ (b4 _ (.tail _ P1)))
              · rcases hb with rfl | hb
                · exact nID
                · obtain rfl := hb
                  exact nB _ (.tail _ (b4 _ (.tail _ P1)))
              · obtain ⟨p, q1, q2, q3⟩ := hit9 x v hx
                exact ⟨p, q1, q2, q3.mono fun a o h hne => mem_put (upP _ (hoI' _ _ h hne)) hne⟩
              · unfold DueOK
                rw [if_pos h0]
                refine ⟨D3, o3d, kvs3, rfl, mem_put e1' n3, n3, fun q hq => Nat.ne_of_lt (Nat.lt_trans (ltP _ (mI q hq)) ltI3'), lo3, e2, ?_, fun x u hx => ?_⟩
                · rw [e4, List.take_of_length_le (Nat.le_of_eq ?_)]
                  rw [V3.length, List.length_map]
                · obtain ⟨q, t, tk, t', f1, f2, f3, f4, f5⟩ := e5 x u hx
                  have f5 : @LT.lt Nat _ (D3 + 1) t := f5
                  have n4 : @Ne Nat t D9 := Nat.ne_of_gt (by omega)
                  exact ⟨q, t, tk, t', f1, f2, f3, mem_put (upf _ f4 (Nat.ne_of_gt f5)) n4, n4⟩
          · refine ite_no (by rw [hx]; exact fun e => h0 (beq_iff_eq.mp e)) ?_
            dsimp only
            iterate 3 walk1
            have nID : I ≠ D9 := Nat.ne_of_gt hI
            refine ⟨⟨_, _, rfl⟩, m₂, _, F₈', N₈', fun b hb o ho => mem_put ho ?_, hI, dj_store (v := .str (txt (ans G.lw G.g [a, b, c])) ft) (fun q hq => mem_put (J.base q hq) (nB q hq)) a2 a3 a5 hkeys9 hlen9 hpi (fun x v hx => ?_) ?_ (.head _) hd₈ rfl fun x u hx => mem_stored hx⟩
            · rcases hb with rfl | hb
              · exact nID
              · obtain rfl := hb
                exact nB _ (.tail _ (b4 _ (.tail _ P1)))
            · obtain ⟨p, q1, q2, q3⟩ := hit9 x v hx
              exact ⟨p, q1, q2, q3.mono fun a o h hne => mem_put h hne⟩
            · unfold DueOK
              rw [if_neg h0]
              exact ⟨_, rfl⟩
        case done3 =>
          rintro I s₁ m₁ N₁ ⟨hI, J⟩ F₁ NN₁ ⟨h₇, tk₇, rfl⟩
          rw [show pvs.length = ps.length from by rw [P2.length, List.length_map]] at J
          exact ⟨h₇, tk₇, m₁, N₁, rfl, F₁, NN₁, J⟩
      case tail3 =>
        rintro s' ⟨h₁₁, tk₁₁, m₁₁, N₁₂, rfl, F₁₁, NN₁₁, J⟩
        clear F₁₀ N₁₀
        have a5 := J.n4
        iterate 3 walk1
        show Q (.ref D9) _
        obtain ⟨oD9, dkv, hD9, hd9, hlen9, hkeys9, hit9⟩ := J.dict
        rw [List.take_length] at hkeys9
        have hLm : (L, oL) ∈ N₁₂ := J.base _ (.tail _ (b4 _ (.head _)))
        have hLd : @Ne Nat D9 L := Ne.symm (Nat.ne_of_lt (lt3 _ (.tail _ (b4 _ (.head _)))))
        obtain ⟨o, es, ep, ho, hdt, r⟩ := F.ns
        rw [hL] at ho; cases ho
        have hf : ∀ q ∈ N₁₂, q.1 ≠ L → q ∈ N₁₂.filter fun q => !(q.1 == L) := fun q h hne => List.mem_filter.mpr ⟨h, by simpa using hne⟩
        refine hQ h₁₁ _ D9 oD9 dkv (N₁₂.filter fun q => !(q.1 == L)) (fun q hq => hf q (J.base _ (.tail _ (b4 _ (.tail _ hq)))) (NN q hq).2.1) ⟨⟨_, es, ep, NN₁₁.get hLm, hdt, r⟩, F₁₁.keep, F.above⟩ (fun q hq => ?_) (hf _ hD9 hLd) lo9 hd9 hkeys9 fun x v hx => ?_
        · obtain ⟨h1, h2⟩ := List.mem_filter.mp hq
          exact ⟨NN₁₁.get h1, by simpa using h2, (NN₁₁ q h1).2.2⟩
        · obtain ⟨p, q1, q2, q3⟩ := hit9 x v hx
          refine ⟨p, q1, q2, ?_⟩
          unfold DueOK at q3 ⊢
          split at q3
          · rename_i h0
            rw [if_pos h0]
            obtain ⟨d, od, kv2, e1, e2, e3, e4, e5, e6, e7, e8⟩ := q3
            refine ⟨d, od, kv2, e1, hf _ e2 (Ne.symm (e4 _ (.tail _ (b4 _ (.head _))))), e3, (fun q hq => nomatch hq), e5, e6, e7, fun x u hu => ?_⟩
            obtain ⟨q, t, tk, t', f1, f2, f3, f4, f5⟩ := e8 x u hu
            refine ⟨q, t, tk, t', f1, f2, f3, hf _ f4 (fun e => ?_), f5⟩
            have e : t = L := e
            rw [e] at f4
            have h9 := News.same NN₁₁ f4 hLm
            rw [← h9] at hdt
            cases hdt
          · rename_i h0
            rw [if_neg h0]
            exact q3
end Mine
end
section
open PySem PySem.W PySem.Calls PyProof.Rows
set_option maxRecDepth 100000
set_option maxHeartbeats 4000000
namespace Mine
section
variable {w : World} {A : Around} {E : Value → Shared → Prop} {s : Shared} {h₀ : Heap} {L d : Addr} {m : Str → Option Value} {N : Led} {o : Obj} {kvs : List (Str × Value)} {Q : Value → Shared → Prop}

theorem sum_led {l : Addr} {vs : List Value} {ns : List Int} (hh : A.handled = none) (hl : s.heap.IsList l vs.toArray) (hi : IntsAre vs ns)
    (h : ∀ h' tk t', (∀ b o, s.heap.get? b = some o → h'.get? b = some o) → Q (.int ns.sum t') { s with heap := h', toks := tk }) :
    wpAny (model PP w) A (call (.builtin "sum") [.ref l]) Q E s := by
  obtain ⟨xs, e⟩ := hi.allInts.items
  have hns : ns = xs.toList.map (·.1) := by
    rw [← hi.numsOf, ← nums_intItems, ← e]
  rw [e] at hl
  refine sum_intListG hh hl fun h' tk t' hk => ?_
  have h1 : preSum (numAt xs) xs.size = ns.sum := by rw [preSum_eq, List.take_of_length_le (by simp), hns]
  rw [h1]
  exact h h' tk t' hk

theorem paired_mod {k : Int} (hk : 0 < k) {vs ys : List Value} (h : Paired (fun v y => ∃ (x : Int) (u u' : Tok), v = .int x u ∧ y = .int (x.fmod k) u') vs ys) :
    ∃ ns, IntsAre ys ns ∧ ns.length = vs.length ∧ ∀ n ∈ ns, 0 ≤ n ∧ n < k := by
  induction h with
  | nil => exact ⟨[], .nil, rfl, fun n hn => by cases hn⟩
  | cons h _ ih =>
    obtain ⟨x, u, u', rfl, rfl⟩ := h
    obtain ⟨ns, h1, h2, h3⟩ := ih
    refine ⟨x.fmod k :: ns, .cons _ _ h1, by simp [h2], fun n hn => ?_⟩
    rcases List.mem_cons.mp hn with rfl | hn
    · exact ⟨Int.fmod_nonneg_of_pos _ hk, Int.fmod_lt_of_pos _ hk⟩
    · exact h3 n hn
theorem sum_bound {ns : List Int} {k : Int} (h : ∀ n ∈ ns, 0 ≤ n ∧ n < k) : 0 ≤ ns.sum ∧ ns.sum ≤ ns.length * k := by
  induction ns with
  | nil => simp
  | cons n ns ih =>
    have h1 := h n (.head _)
    have h2 := ih fun x hx => h x (.tail _ hx)
    simp only [List.sum_cons, List.length_cons, Int.natCast_add, Int.add_mul]
    constructor <;> omega

theorem strs_keys {w : World} : ∀ {kvs : List (Str × Value)} {vs : List Value}, vs.length = kvs.length → (∀ (j : Nat) (v : Value), vs[j]? = some v → ∃ (k : Str) (x : Value), kvs[j]? = some (k, x) ∧ (sK w).is k v = true) → StrsAre vs (kvs.map (·.1))
  | [], [], _, _ => .nil
  | z :: kvs, v :: vs, hl, hv => by
    obtain ⟨k, x, e, hk⟩ := hv 0 v rfl
    obtain ⟨t, rfl⟩ := Value.isStrOf_shape hk
    obtain rfl := Option.some.inj e
    exact .cons _ _ (strs_keys (by simpa using hl) fun j u hu => by simpa using hv (j + 1) u (by simpa using hu))
  | [], _ :: _, hl, _ => by simp at hl
  | _ :: _, [], hl, _ => by simp at hl
/-- list(d): the keys -/
theorem list_keys (hh : A.handled = none) (F : Fr h₀ L s.heap m) (NN : News h₀ L s.heap N) (hp : (d, o) ∈ N) (hd : o.IsDictOf (sK w) kvs) (lo : (d == sysModules) = false) (hn : kvs.length ≤ sizeLine)
    (h : ∀ (D : Addr) c h' tk (vs : List Value), Fr h₀ L h' m → News h₀ L h' ((D, W.listOf vs.toArray c) :: N) → (∀ q ∈ N, q.1 < D) → StrsAre vs (kvs.map (·.1)) → Q (.ref D) { s with heap := h', toks := tk }) :
    wpAny (model PP w) A (call (.type "list") [.ref d]) Q E s := by
  have hD := kda_dict NN hp hd
  obtain ⟨ep, hat⟩ := hD.dictAt
  refine kdl_N (kdl_dict (knd := sK w) (kvs := kvs) (ep := ep) lo) hh F NN hat hn fun B c h' tk vs F' N' l1 hl hv => h B c h' tk vs F' N' l1 (strs_keys hl hv)

/-- d.update(d2) -/
theorem upd_led {o₂ : Obj} {d₂ : Addr} {more : List (Str × Value)} (F : Fr h₀ L s.heap m) (NN : News h₀ L s.heap N) (hp : (d, o) ∈ N) (hd : o.IsDictOf (sK w) kvs) (hp2 : (d₂, o₂) ∈ N) (hd2 : o₂.IsDictOf (sK w) more) (lo : (d₂ == sysModules) = false) (hne : d ≠ d₂)
    (hsz : kvs.length + more.length ≤ sizeLine)
    (h : ∀ h' o', Fr h₀ L h' m → News h₀ L h' (putAt d o' N) → o'.IsDictOf (sK w) (merged kvs more) → Q .none { s with heap := h' }) :
    wpAny (model PP w) A (call (.builtin "dict.update") [.ref d, .ref d₂]) Q E s := by
  have hm := NN _ hp
  have hD := kda_dict NN hp hd
  refine call_meetsIn PySem.F.slot_dict_update hD.typeIs PySem.F.entry_dict_update (PySem.F.args_dict_update_2 _ _) (meets_dict_update (sK w) d d₂ hne lo)
    ⟨kvs, more, hD, kda_dict NN hp2 hd2, hsz, fun h' hmm _ hs => ?_⟩
  obtain ⟨o', ho', hd'⟩ := Heap.dictOf_iff.mp hmm
  refine h h' o' (F.change hs hm.2.1 hm.2.2) (fun q hq => ?_) hd'
  rcases List.mem_cons.mp hq with rfl | hq
  · exact ⟨ho', hm.2⟩
  · obtain ⟨h1, h2⟩ := List.mem_filter.mp hq
    have hne : q.1 ≠ d := by simpa using h2
    exact ⟨(hs.2 _ hne).trans (NN q h1).1, (NN q h1).2⟩
end

/-- two values are found equal -/
def EqT (w : World) (A : Around) (s : Shared) (v y : Value) : Prop := ∀ (E : Value → Shared → Prop) (Q : Bool → Shared → Prop), Q true s → wpAny (model PP w) A (eqBool v y) Q E s
section
variable {w : World} {A : Around} {E : Value → Shared → Prop} {s : Shared} {a b : Addr} {ka kb : List (Str × Value)}
theorem EqT.of_at {v y : Value} (h : SeqAt.EqAt A s v y true) : EqT w A s v y := fun _ _ hq => h PP w _ _ hq
theorem same_pairs {nm : String} {Q : Bool → Shared → Prop} (ha : (a == sysModules) = false) (hb : (b == sysModules) = false) (da : s.heap.DictOf (sK w) a ka) (db : s.heap.DictOf (sK w) b kb) (hl : ka.length = kb.length)
    (hits : ∀ k v, (k, v) ∈ ka → ∃ y, valueAt kb k = some y ∧ EqT w A s v y) (h : Q true s) : wpAny (model PP w) A (Builtin.Dict.samePairs nm a b) Q E s := by
  obtain ⟨oa, es, ep, hoa, _, hda, hka, hpa, _⟩ := da
  obtain ⟨ob, fs, fp, hob, _, hdb, hkb, hpb, _⟩ := db
  have na : es.size = ka.length := by rw [← hpa.length, Array.length_toList]
  have nb : fs.size = kb.length := by rw [← hpb.length, Array.length_toList]
  unfold Builtin.Dict.samePairs Builtin.Dict.showsAll
  simp only [ha, hb, Bool.false_eq_true, if_false]
  refine wpAny_bind (wpAny_pure (wpAny_bind (wpAny_pure (wpAny_bind (wpAny_dictEntries hoa hda ?_)))))
  refine wpAny_bind (wpAny_dictEntries hob hdb ?_)
  have hsz : ¬ (es.size != fs.size) = true := by rw [na, nb, hl]; simp
  rw [if_neg hsz]
  refine wpAny_bind (wpAny_dictEpoch hoa hda (wpAny_bind ?_))
  rw [Std.Legacy.Range.forIn_eq_forIn_range']
  simp only [Std.Legacy.Range.size, Nat.sub_zero, Nat.add_sub_cancel, Nat.div_one]
  refine wpAny_forIn_list _ (fun rest q s' => s' = s ∧ q = (none, ()) ∧ ∃ i, i ≤ es.size ∧ rest = List.range' i (es.size - i)) _ ?step ?last _ _ ⟨rfl, rfl, 0, Nat.zero_le _, by simp⟩
  case step =>
    rintro x rest q s' ⟨rfl, rfl, i, hi, hr⟩
    have hlt : i < es.size := by
      by_cases hlt : i < es.size
      · exact hlt
      · rw [show es.size - i = 0 by omega] at hr; cases hr
    rw [show es.size - i = (es.size - (i + 1)) + 1 by omega, List.range'_succ] at hr
    obtain ⟨rfl, rfl⟩ := List.cons.inj hr
    have hxa : x < ka.length := by omega
    have hval := hpa.get? (i := x) (e := es[x]) (k := ka[x].1) (v := ka[x].2) (by rw [Array.getElem?_toList]; exact Array.getElem?_eq_getElem hlt) (by rw [List.getElem?_eq_getElem hxa])
    obtain ⟨k', hk', hh⟩ := hka es[x] (Array.getElem_mem hlt)
    obtain rfl : k' = ka[x].1 := (sK w).inj _ _ _ hk' hval.1
    obtain ⟨y, hy, he⟩ := hits ka[x].1 ka[x].2 (List.getElem_mem hxa)
    refine wpAny_bind (wpAny_dictEntries hoa hda ?_)
    rw [Array.getElem?_eq_getElem hlt]
    show wpAny _ _ (holding [es[x].key, es[x].val] _ >>= _) _ _ _
    rw [hh]
    refine wpAny_bind (wpAny_holding (wpAny_bind (wpAny_dictFind_of hval.1 hob hdb hkb ?_)))
    have hf : findBy (sK w).is fs ka[x].1 = some y := by
      rw [← hy, ← hpb.find]
      obtain ⟨l⟩ := fs
      simp [findBy]
    rw [findBy_of_findIdx?] at hf
    cases hj : fs.findIdx? fun e => (sK w).is ka[x].1 e.key with
    | none => rw [hj] at hf; cases hf
    | some j =>
      obtain ⟨hjl, _⟩ := Array.findIdx?_eq_some_iff_getElem.mp hj
      have ey : fs[j].val = y := by
        rw [hj] at hf
        simpa [Array.getElem?_eq_getElem hjl] using hf
      refine wpAny_bind (wpAny_dictEntries hob hdb ?_)
      rw [Array.getElem?_eq_getElem hjl]
      refine wpAny_holding ?_
      rw [ey, hval.2]
      refine he _ _ ?_
      show wpAny _ _ (if (!true) = true then _ else _) _ _ _
      rw [if_neg (by decide)]
      refine wpAny_bind (wpAny_dictEpoch hoa hda ?_)
      rw [if_neg (by simp)]
      exact wpAny_pure ⟨rfl, rfl, x + 1, hlt, rfl⟩
  case last =>
    rintro q s' ⟨rfl, rfl, i, hi, hr⟩
    exact wpAny_pure h
theorem dict_eq {Q : Value → Shared → Prop} (ha : (a == sysModules) = false) (hb : (b == sysModules) = false) (da : s.heap.DictOf (sK w) a ka) (db : s.heap.DictOf (sK w) b kb) (hl : ka.length = kb.length) (hu : A.units < cLine)
    (hits : ∀ k v, (k, v) ∈ ka → ∃ y, valueAt kb k = some y ∧ EqT w A.in1 s v y) (h : Q (.bool true) s) : wpAny (model PP w) A (richCompare .Eq (.ref a) (.ref b)) Q E s := by
  refine wpAny_richCompare_same_room (op := .Eq) da.typeIs db.typeIs PySem.F.slot_dict_eq (wpAny_call_entry PySem.F.slot_dict_eq da.typeIs PySem.F.entry_dict_eq ?_ (PySem.F.args_dict_eq_2 _ _)) hu
  show wpAny _ _ (Builtin.Dict.dictSlotArgs "__eq__" ⟨[.ref a, .ref b], []⟩ >>= _) _ _ s
  unfold Builtin.Dict.dictSlotArgs
  refine wpAny_bind (wpAny_bind (wpAny_notOrdered_dict da.typeIs ?_))
  show wpAny _ _ (pure (Value.ref a, Value.ref b)) _ _ s
  refine wpAny_pure (wpAny_bind (wpAny_isInstance (T := "dict") db.typeIs PySem.F.sub_dict_dict ?_))
  simp only [Bool.not_true, Bool.false_eq_true, if_false]
  refine wpAny_bind (wpAny_pure (wpAny_bind (wpAny_pure (wpAny_bind (same_pairs ha hb da db hl hits (wpAny_pure ⟨_, rfl, (fun x => nomatch x), ?_⟩))))))
  simpa using h
theorem dict_eqT (ha : (a == sysModules) = false) (hb : (b == sysModules) = false) (da : s.heap.DictOf (sK w) a ka) (db : s.heap.DictOf (sK w) b kb) (hl : ka.length = kb.length) (hu : A.units < cLine)
    (hits : ∀ k v, (k, v) ∈ ka → ∃ y, valueAt kb k = some y ∧ EqT w A.in1 s v y) : EqT w A s (.ref a) (.ref b) := fun E Q hq => by
  unfold eqBool
  refine wpAny_holding ?_
  refine wpAny_ite_split (fun _ => ?_) (fun _ => ?_)
  · exact wpAny_bind (wpAny_rule (wpAny_pure hq))
  · exact wpAny_bind (dict_eq ha hb da db hl hu hits (wpAny_truthy_bool hq))
theorem str_eqT {x : Str} {t u : Tok} : EqT w A s (.str x t) (.str x u) := .of_at (by have := SeqAt.EqAt.str_str (A := A) (s := s) x t x u; simpa using this)
theorem tup_eqT {t1 t2 : Addr} {x : Str} {k k' u u' : Tok} (h1 : s.heap.get? t1 = some (tupOf [.int 554 k, .str x u])) (h2 : s.heap.get? t2 = some (tupOf [.int 554 k', .str x u'])) (hu : A.units < cLine) : EqT w A s (.ref t1) (.ref t2) := by
  refine .of_at ?_
  by_cases e : t1 = t2
  · rw [e]; exact SeqAt.EqAt.same _
  · have := SeqAt.EqAt.of_refs e (SeqAt.RcAt.tuples (A := A) (e := fun _ => true) ⟨_, h1, rfl, _, rfl⟩ ⟨_, h2, rfl, _, rfl⟩ hu fun j j1 j2 => ?_)
    · exact this
    · have j1' : j < 2 := j1
      rcases (by omega : j = 0 ∨ j = 1) with rfl | rfl
      · have := SeqAt.EqAt.int_int (A := A.in1) (s := s) 554 k 554 k'
        simpa using this
      · have := SeqAt.EqAt.str_str (A := A.in1) (s := s) x u x u'
        simpa using this
end

theorem stored_new {kvs : List (Str × Value)} {k : Str} {v : Value} (h : k ∉ kvs.map (·.1)) : stored kvs k v = kvs ++ [(k, v)] := by
  unfold stored
  rw [if_neg]
  intro e
  obtain ⟨z, hz, e⟩ := List.any_eq_true.mp e
  exact h (List.mem_map.mpr ⟨z, hz, of_decide_eq_true e⟩)
theorem merged_new : ∀ {more kvs : List (Str × Value)}, (more.map (·.1)).Nodup → (∀ x ∈ more.map (·.1), x ∉ kvs.map (·.1)) → merged kvs more = kvs ++ more
  | [], kvs, _, _ => by simp [merged]
  | z :: more, kvs, hn, hd => by
    rw [List.map_cons, List.nodup_cons] at hn
    have h1 := stored_new (v := z.2) (hd z.1 (by simp))
    show merged (stored kvs z.1 z.2) more = _
    rw [h1, merged_new hn.2 fun x hx => ?_]
    · simp
    · rw [List.map_append, List.mem_append]
      rintro (h | h)
      · exact hd x (by rw [List.map_cons]; exact .tail _ hx) h
      · rw [show x = z.1 from by simpa using h] at hx
        exact hn.1 hx
theorem keyed_go : ∀ (l acc : List Str), (acc ++ l).Nodup → l.foldl (fun a s => if s ∈ a then a else a ++ [s]) acc = acc ++ l
  | [], acc, _ => by simp
  | x :: l, acc, h => by
    have h1 : x ∉ acc := fun hx => (List.nodup_append.mp h).2.2 x hx x (by simp) rfl
    rw [List.foldl_cons, if_neg h1, keyed_go l _ (by simpa using h)]
    simp
theorem keyed_nodup (l : List Str) (h : l.Nodup) : keyed l = l := by
  have := keyed_go l [] (by simpa using h)
  simpa [keyed] using this
end Mine
end
section
open PySem PySem.W PySem.Calls PyProof.Rows
set_option maxRecDepth 100000
set_option maxHeartbeats 4000000
namespace Mine
theorem valueAt_mem {kvs : List (Str × Value)} {x : Str} {y : Value} (hn : (kvs.map (·.1)).Nodup) (h : (x, y) ∈ kvs) : valueAt kvs x = some y := by
  obtain ⟨i, hi⟩ := List.getElem?_of_mem h
  exact valueAt_of_get hn hi
theorem key_mem {kvs : List (Str × Value)} {x : Str} (h : x ∈ kvs.map (·.1)) : ∃ y, (x, y) ∈ kvs := by
  obtain ⟨z, hz, rfl⟩ := List.mem_map.mp h
  exact ⟨z.2, hz⟩
theorem int_at {items : Array Value} {ns : List Int} {j : Nat} {v : Value} (hi : IntsAre items.toList ns) (h : items[j]? = some v) : ∃ x t, v = .int x t := by
  have hv : items.toList[j]? = some v := by simpa using h
  have hj : j < ns.length := by
    have h1 := (List.getElem?_eq_some_iff.mp hv).1
    rw [hi.length] at h1
    exact h1
  obtain ⟨t, ht⟩ := hi.get j ns[j] (List.getElem?_eq_getElem hj)
  rw [hv] at ht
  exact ⟨_, t, Option.some.inj ht⟩
theorem call_cast {M : Model} {A : Around} {E : Value → Shared → Prop} {s : Shared} {Q : Value → Shared → Prop} {f : Value} {a : Int} {n : Nat} {t : Tok} (h : a = (n : Int)) (k : wpAny M A (call f [.int (n : Int) t]) Q E s) : wpAny M A (call f [.int a t]) Q E s := by
  rw [h]; exact k
theorem caller_room (env : Env) : Room (callerA.deeper env) 40 := ⟨rfl, by show callerA.depth + 1 + 40 ≤ 900; decide +kernel, by show callerA.units + 3 + 8 * 40 ≤ 9000; decide +kernel⟩
theorem fmod_nat (a b : Nat) : ((a : Int)).fmod (b : Int) = ((a % b : Nat) : Int) := by
  rw [Int.fmod_eq_emod_of_nonneg _ (Int.natCast_nonneg b)]; rfl
theorem fdiv_nat (a b : Nat) : ((a : Int)).fdiv (b : Int) = ((a / b : Nat) : Int) := by
  rw [Int.fdiv_eq_ediv_of_nonneg _ (Int.natCast_nonneg b)]; rfl
theorem place_of {a b c : Nat} (ha : a ≤ 4) (hb : b ≤ 4) (hc : c ≤ 4) : IsP (isort [a, b, c]) := by
  have hp := isort_perm [a, b, c]
  have hs := isort_sorted [a, b, c]
  have hl := hp.length_eq
  revert hp hs hl
  generalize isort [a, b, c] = l
  intro hp hs hl
  match l, hl with
  | [x, y, z], _ =>
    have h1 := List.pairwise_cons.mp hs
    have h2 := List.pairwise_cons.mp h1.2
    have hz : z ∈ [a, b, c] := hp.mem_iff.mp (by simp)
    refine ⟨x, y, z, rfl, h1.1 y (by simp), h2.1 z (by simp), ?_⟩
    simp only [List.mem_cons, List.not_mem_nil, or_false] at hz
    omega
theorem store_cast {M : Model} {A : Around} {E : Value → Shared → Prop} {s : Shared} {Q : Unit → Shared → Prop} {env : Env} {x : Str} {a : Int} {n : Nat} {t : Tok} (h : a = (n : Int)) (k : wpAny M A (storeName env x (.int (n : Int) t)) Q E s) : wpAny M A (storeName env x (.int a t)) Q E s := by
  rw [h]; exact k
section
variable {w : World} {G : Gd} {A : Around} {s : Shared} {h₀ : Heap} {L D : Addr} {N : Led} {off : List Addr} {p : List Nat} {v y : Value}
/-- what was told and what is due are found equal -/
theorem told_due (NN : News h₀ L s.heap N) (hu : A.units < cLine) (hu1 : A.in1.units < cLine) (h1 : ToldOK w G off N p v) (h2 : DueOK w G [] D N p y) : EqT w A s v y := by
  unfold ToldOK at h1
  unfold DueOK at h2
  by_cases h0 : nim G.g p = 0
  · rw [if_pos h0] at h1 h2
    obtain ⟨tab, rfl, ht⟩ := h1
    obtain ⟨o, kvs, a1, a2, a3, a4, a5⟩ := ht.ex
    obtain ⟨d, od, kd, rfl, e2, e3, e4, e5, e6, e7, e8⟩ := h2
    refine dict_eqT a1 e5 (kda_dict NN a2.1 a3) (kda_dict NN e2 e6) ?_ hu fun k u hk => ?_
    · rw [← List.length_map (f := (·.1)), a4, ← e7, List.length_map]
    · have hk1 : k ∈ kd.map (·.1) := by rw [e7, ← a4]; exact List.mem_map.mpr ⟨_, hk, rfl⟩
      obtain ⟨z, hz⟩ := key_mem hk1
      obtain ⟨q, t, tk, t', f1, f2, f3, f4, f5⟩ := e8 k z hz
      obtain ⟨q', t1, tk', u', g1, g2, g3, g4⟩ := a5 k u hk
      obtain rfl : q = q' := txt_inj (f2.symm.trans g2)
      refine ⟨z, valueAt_mem (dict_nodup e6) hz, ?_⟩
      subst f3 g3
      exact tup_eqT (NN.get g4.1) (NN.get f4) hu1
  · rw [if_neg h0] at h1 h2
    obtain ⟨t, rfl⟩ := h1
    obtain ⟨u, rfl⟩ := h2
    exact str_eqT
theorem tables_hit {kt kd : List (Str × Value)} {od : Obj} {ps : List (List Nat)} (NN : News h₀ L s.heap N) (hu : A.units < cLine) (hu1 : A.in1.units < cLine)
    (ht : ∀ x v, (x, v) ∈ kt → ∃ p ∈ ps, x = txt p ∧ ToldOK w G off N p v) (hd : od.IsDictOf (sK w) kd) (hk : kt.map (·.1) = kd.map (·.1))
    (hi : ∀ x v, (x, v) ∈ kd → ∃ p ∈ ps, x = txt p ∧ DueOK w G [] D N p v) : ∀ k v, (k, v) ∈ kt → ∃ y, valueAt kd k = some y ∧ EqT w A s v y := by
  intro k v hkv
  have hk1 : k ∈ kd.map (·.1) := by rw [← hk]; exact List.mem_map.mpr ⟨_, hkv, rfl⟩
  obtain ⟨z, hz⟩ := key_mem hk1
  obtain ⟨p, _, e1, e2⟩ := ht k v hkv
  obtain ⟨q, _, f1, f2⟩ := hi k z hz
  obtain rfl : p = q := txt_inj (e1.symm.trans f1)
  exact ⟨z, valueAt_mem (dict_nodup hd) hz, told_due NN hu hu1 e2 f2⟩
end
end Mine
namespace Mine
section
variable {w : World} {A : Around} {E : Value → Shared → Prop} {s : Shared} {Q : Value → Shared → Prop}
theorem dict_one {kx vx : PySem.Expr} {pos : Pos} {env : Env}
    (h : wpAny (model PP w) A (eval kx env) (fun kv s₁ => wpAny (model PP w) A (eval vx env) (fun vv s₂ => wpAny (model PP w) A (dictSet s.heap.objs.size kv vv) (fun _ s₃ => Q (.ref s.heap.objs.size) s₃) E s₂) E s₁) E
      { s with heap := s.heap.push { cls := .type "dict", data := .dict #[] } }) : wpAny (model PP w) A (eval (.Dict [some kx] [vx] pos) env) Q E s := by
  refine wpAny_Dict_any rfl rfl (by simp) (by show 1 ≤ 15; decide) ?_
  show wpAny _ _ (eval kx env >>= fun kv => holding [kv] (eval vx env >>= fun x => standAt pos >>= fun _ => pure x) >>= fun vv => holding [kv, vv] (pure []) >>= fun r => pure ((kv, vv) :: r)) _ _ _
  refine wpAny_bind (wpAny_mono h (fun kv s₁ h₁ => ?_) fun _ _ e => e)
  refine wpAny_bind (wpAny_holding (wpAny_bind (wpAny_mono h₁ (fun vv s₂ h₂ => ?_) fun _ _ e => e)))
  refine wpAny_bind (wpAny_standAt (wpAny_pure ?_))
  refine wpAny_bind (wpAny_holding (wpAny_pure (wpAny_pure ?_)))
  unfold storeAll
  simp only [List.forIn_cons, List.forIn_nil, bind_assoc, pure_bind]
  exact wpAny_bind (wpAny_mono h₂ (fun _ s₃ q => wpAny_pure q) fun _ _ e => e)
theorem dict_led {h₀ : Heap} {L : Addr} {m : Str → Option Value} {N : Led} {kx vx : PySem.Expr} {pos : Pos} {env : Env} (hbig : h₀.NoLimit) (F : Fr h₀ L s.heap m) (NN : News h₀ L s.heap N)
    (h : ∀ d h₁ od, (∀ q ∈ N, q.1 < d) → (d == sysModules) = false → od.IsDictOf (sK w) [] → Fr h₀ L h₁ m → News h₀ L h₁ ((d, od) :: N) →
      wpAny (model PP w) A (eval kx env) (fun kv s₁ => wpAny (model PP w) A (eval vx env) (fun vv s₂ => wpAny (model PP w) A (dictSet d kv vv) (fun _ s₃ => Q (.ref d) s₃) E s₂) E s₁) E { s with heap := h₁ }) : wpAny (model PP w) A (eval (.Dict [some kx] [vx] pos) env) Q E s :=
  dict_one (h s.heap.objs.size _ _ (fun q hq => Heap.lt_size (NN q hq).1) (F.notModules (modules_low hbig)) ⟨#[], 0, ⟨rfl, rfl, rfl⟩, rfl, fun _ he => by simp at he, Pairs.nil, List.nodup_nil⟩ (F.push _) (NN.push F _))
theorem caller_fm {env : Env} {L td : Addr} {G : Gd} {N : Led} {otd : Obj} (hf : env.frame = some L) (hk : env.scope.kind = .function) (hm : (td, otd) ∈ N) (h1 : td ≠ G.k) (h2 : td ≠ G.mv) (hK : Kept otd) : Fm (callerA.deeper env) L G [] [td] N := by
  have e3 : (callerA.deeper env).frames = some [env] := rfl
  refine ⟨⟨env, [], e3, hf⟩, fun l hl en hen => ?_, (fun a ha => nomatch ha), (fun a ha => nomatch ha), fun a ha => ?_⟩
  · rw [e3] at hl; cases hl
    rw [List.mem_singleton.mp hen]
    exact ⟨by rw [hk]; decide, L, hf, .inl rfl⟩
  · rw [List.mem_singleton.mp ha]
    exact .inr ⟨h1, h2, otd, hm, hK⟩
theorem start_inv {G : Gd} {N : Led} {td : Addr} {oln okn omv : Obj} {lkv : List (Str × Value)} (ok : G.ok) (h1 : (G.ln, oln) ∈ N) (h2 : oln.IsDictOf (sK w) lkv) (h3 : ∀ k, k ≤ 4 → ∃ v, valueAt lkv (txt [k]) = some v ∧ IsT v (txt (G.lw k)))
    (h4 : (G.k, okn) ∈ N) (h5 : okn.IsDictOf (sK w) []) (h6 : (G.mv, omv) ∈ N) (h7 : omv.IsDictOf (sK w) []) (n1 : td ≠ G.ln) (n2 : td ≠ G.k) (n3 : td ≠ G.mv) : Inv w G [td] N [] [] := by
  refine ⟨ok, ⟨oln, lkv, ⟨h1, fun e => ?_⟩, h2, h3⟩, ⟨okn, h4, fun e => n2 (List.mem_singleton.mp e).symm, h5⟩, ⟨omv, h6, fun e => n3 (List.mem_singleton.mp e).symm, h7⟩, fun x v hx => (by cases hx), fun x v hx => (by cases hx)⟩
  rcases List.mem_cons.mp e with e | e
  · exact ok.2.2.2.2.2.1 e
  rcases List.mem_cons.mp e with e | e
  · exact ok.2.2.2.2.2.2 e
  · exact n1 (List.mem_singleton.mp e).symm
theorem Kept.cell {o : Obj} {v : Option Value} (h : o.data = .cell v) : Kept o := fun _ vs e => by rw [h] at e; cases e
theorem off_nil {G : Gd} {a : Addr} (h1 : a ≠ G.k) (h2 : a ≠ G.mv) : a ∉ G.off [] := fun e => by
  rcases List.mem_cons.mp e with e | e
  · exact h1 e
  · exact h2 (List.mem_singleton.mp e)
theorem ToldOK.mono {G : Gd} {off off' : List Addr} {N N' : Led} (hs : ∀ a o, At off N a o → Nice o.cls → At off' N' a o) {p : List Nat} {v : Value} (h : ToldOK w G off N p v) : ToldOK w G off' N' p v := by
  unfold ToldOK at h ⊢
  split at h
  · rename_i h0
    rw [if_pos h0]
    obtain ⟨tab, e, ht⟩ := h
    exact ⟨tab, e, ht.mono hs⟩
  · rename_i h0
    rw [if_neg h0]
    exact h
theorem IsP.sum_le {p : List Nat} (h : IsP p) : p.sum ≤ 12 := by
  obtain ⟨a, b, c, rfl, h1, h2, h3⟩ := h
  simp
  omega
end
end Mine
end
section
open PySem PySem.W PySem.Calls PyProof.Rows
set_option maxRecDepth 100000
set_option maxHeartbeats 4000000
namespace Mine
section
variable {w : World} {G : Gd} {A : Around} {L : Addr} {fb : List Addr} {N N' : Led} {kv mv : List (Str × Value)}
theorem Inv.at_set (h : Inv w G fb N kv mv) (hs : ∀ a o, (a, o) ∈ N → a ∉ fb → Nicer o.cls → (a, o) ∈ N') : Inv w G fb N' kv mv := by
  have hs' : ∀ a o, At (G.off fb) N a o → Nicer o.cls → At (G.off fb) N' a o := fun a o x c => ⟨hs _ _ x.1 (fun q => x.2 (.tail _ (.tail _ q))) c, x.2⟩
  have dc : ∀ {o : Obj} {kvs : List (Str × Value)}, o.IsDictOf (sK w) kvs → Nicer o.cls := fun h => .inl (.inl (dict_cls h))
  obtain ⟨o, kvs, l1, l2, l3⟩ := h.links
  obtain ⟨ok, k1, k2, k3⟩ := h.kin
  obtain ⟨om, m1, m2, m3⟩ := h.min
  refine ⟨h.ok, ⟨o, kvs, hs' _ _ l1 (dc l2), l2, l3⟩, ⟨ok, hs _ _ k1 k2 (dc k3), k2, k3⟩, ⟨om, hs _ _ m1 m2 (dc m3), m2, m3⟩, fun x v hx => ?_, fun x v hx => ?_⟩
  · obtain ⟨p, q1, q2, q3, q4⟩ := h.known x v hx
    exact ⟨p, q1, q2, q3, q4.mono hs' fun _ e => e⟩
  · obtain ⟨p, q1, q2, q3⟩ := h.moves x v hx
    exact ⟨p, q1, q2, q3.mono fun a o x c => hs' a o x (.inl c)⟩
theorem Fm.remake (M : Fm A L G [] fb N) (h : ∀ a ∈ fb, ∃ o, (a, o) ∈ N' ∧ Kept o) : Fm A L G [] fb N' :=
  ⟨M.top, M.each, (fun a ha => nomatch ha), M.sub, fun a ha => by
    rcases M.tab a ha with h1 | ⟨h1, h2, _⟩
    · cases h1
    · obtain ⟨o, h3, h4⟩ := h a ha
      exact .inr ⟨h1, h2, o, h3, h4⟩⟩
theorem iter_not_nicer {v : Value} (h : v = .type "list_iterator") : ¬ Nicer v := fun hn => by
  rw [h] at hn
  rcases hn with (h | h | h | h) | h <;> first | (injection h with h; exact absurd h (by decide)) | cases h
theorem off_sub {a : Addr} (h : a ∉ G.off fb) : a ∉ G.off [] := fun e => h (by
  rcases List.mem_cons.mp e with e | e
  · rw [e]; exact .head _
  · rw [List.mem_singleton.mp e]; exact .tail _ (.head _))
theorem off_ne {a b : Addr} (h : a ∉ G.off fb) (hb : b ∈ fb) : a ≠ b := fun e => h (.tail _ (.tail _ (e ▸ hb)))
end

/-- what holds at the head of a turn of the law's own comprehension -/
structure WJ (w : World) (G : Gd) (A : Around) (L : Addr) (B : Led) (D td : Addr) (kv1 : List (Str × Value)) (kps : List (List Nat)) (st : List Nat) (v1 : Value) (i : Nat) (N : Led) : Prop where
  base : ∀ q ∈ B, q ∈ N
  fm : Fm A L G [] [D, D + 1, td] N
  inv : ∃ kv mv, Inv w G [D, D + 1, td] N kv mv ∧ Kg kv1 kv
  tst : ToldOK w G (G.off [D, D + 1, td]) N st v1
  dict : ∃ o kvs, (D, o) ∈ N ∧ o.IsDictOf (sK w) kvs ∧ kvs.map (·.1) = keyed (((kps.take i).filter fun p => decide (p ≠ st)).map txt) ∧
    ∀ x v, (x, v) ∈ kvs → ∃ p ∈ kps, p ≠ st ∧ x = txt p ∧ ToldOK w G (G.off [D, D + 1, td]) N p v
section
variable {w : World} {G : Gd} {A : Around} {L : Addr} {B : Led} {D td I : Addr} {kv1 : List (Str × Value)} {kps : List (List Nat)} {st : List Nat} {v1 : Value} {i : Nat} {N N' : Led}
/-- the iterator and the comprehension's frame turn -/
theorem WJ.step (J : WJ w G A L B D td kv1 kps st v1 i N) (hB : ∀ q ∈ B, q.1 < I) (hID : @LT.lt Nat _ I D) (htd : ∃ o, (td, o) ∈ B ∧ Kept o) (hI : ∀ o, (I, o) ∈ N → o.cls = .type "list_iterator") (hC : ∃ o, (D + 1, o) ∈ N' ∧ Kept o)
    (hs : ∀ a o, (a, o) ∈ N → a ≠ I → a ≠ D + 1 → (a, o) ∈ N') : WJ w G A L B D td kv1 kps st v1 i N' := by
  have mB : ∀ q ∈ B, q ∈ N' := fun q hq => hs _ _ (J.base q hq) (Nat.ne_of_lt (hB q hq)) (Nat.ne_of_lt (Nat.lt_trans (hB q hq) (by omega)))
  have at_ : ∀ a o, At (G.off [D, D + 1, td]) N a o → Nicer o.cls → At (G.off [D, D + 1, td]) N' a o := fun a o x c => ⟨hs a o x.1 (fun e => iter_not_nicer (hI o (e ▸ x.1)) c) (off_ne x.2 (.tail _ (.head _))), x.2⟩
  obtain ⟨o, kvs, d1, d2, d3, d4⟩ := J.dict
  have d1' : (D, o) ∈ N' := hs _ _ d1 (Nat.ne_of_gt hID) (Nat.ne_of_lt (Nat.lt_succ_self _))
  refine ⟨mB, J.fm.remake fun a ha => ?_, ?_, J.tst.mono fun a o x c => at_ a o x (.inl c), ⟨o, kvs, d1', d2, d3, fun x v hx => ?_⟩⟩
  · rcases List.mem_cons.mp ha with rfl | ha
    · exact ⟨o, d1', .of (by rw [dict_cls d2]; intro q; cases q)⟩
    rcases List.mem_cons.mp ha with rfl | ha
    · exact hC
    · rw [List.mem_singleton.mp ha]
      obtain ⟨o, h1, h2⟩ := htd
      exact ⟨o, mB _ h1, h2⟩
  · obtain ⟨kv, mv, h1, h2⟩ := J.inv
    exact ⟨kv, mv, h1.at_set fun a o x y c => hs a o x (fun e => iter_not_nicer (hI o (e ▸ x)) c) (fun e => y (by rw [e]; exact .tail _ (.head _))), h2⟩
  · obtain ⟨p, e1, e2, e3, e4⟩ := d4 x v hx
    exact ⟨p, e1, e2, e3, e4.mono fun a o x c => at_ a o x (.inl c)⟩
/-- a place is told -/
theorem WJ.grow {kv mv : List (Str × Value)} (J : WJ w G A L B D td kv1 kps st v1 i N) (hBk : ∀ q ∈ B, q.1 ∉ G.off [] ∧ Kept q.2) (hD : D ∉ G.off []) (M : Fm A L G [] [D, D + 1, td] N') (I : Inv w G [D, D + 1, td] N' kv mv) (hk : Kg kv1 kv) (g : Gr G [] N N') :
    WJ w G A L B D td kv1 kps st v1 i N' := by
  have at_ : ∀ a o, At (G.off [D, D + 1, td]) N a o → Nice o.cls → At (G.off [D, D + 1, td]) N' a o := fun a o x c => ⟨g.stab a o x.1 (off_sub x.2) (.of c.ne), x.2⟩
  obtain ⟨o, kvs, d1, d2, d3, d4⟩ := J.dict
  refine ⟨fun q hq => g.stab _ _ (J.base q hq) (hBk q hq).1 (hBk q hq).2, M, ⟨kv, mv, I, hk⟩, J.tst.mono at_, ⟨o, kvs, g.stab _ _ d1 hD (.of (by rw [dict_cls d2]; intro q; cases q)), d2, d3, fun x v hx => ?_⟩⟩
  obtain ⟨p, e1, e2, e3, e4⟩ := d4 x v hx
  exact ⟨p, e1, e2, e3, e4.mono at_⟩
/-- and stored -/
theorem WJ.store {o' : Obj} {kvs : List (Str × Value)} {p : List Nat} {v : Value} (J : WJ w G A L B D td kv1 kps st v1 i N) (hBD : ∀ q ∈ B, q.1 ≠ D) (htd : ∃ o, (td, o) ∈ B ∧ Kept o) (hC : ∃ o, (D + 1, o) ∈ N ∧ Kept o) (hp : kps[i]? = some p) (hst : p ≠ st)
    (d3 : kvs.map (·.1) = keyed (((kps.take i).filter fun p => decide (p ≠ st)).map txt)) (d4 : ∀ x v, (x, v) ∈ kvs → ∃ p ∈ kps, p ≠ st ∧ x = txt p ∧ ToldOK w G (G.off [D, D + 1, td]) N p v)
    (hv : ToldOK w G (G.off [D, D + 1, td]) N p v) (hd : o'.IsDictOf (sK w) (stored kvs (txt p) v)) : WJ w G A L B D td kv1 kps st v1 (i + 1) (putAt D o' N) := by
  have at_ : ∀ a o, At (G.off [D, D + 1, td]) N a o → At (G.off [D, D + 1, td]) (putAt D o' N) a o := fun a o x => ⟨mem_put x.1 (off_ne x.2 (.head _)), x.2⟩
  have mB : ∀ q ∈ B, q ∈ putAt D o' N := fun q hq => mem_put (J.base q hq) (hBD q hq)
  refine ⟨mB, J.fm.remake fun a ha => ?_, ?_, J.tst.mono fun a o x _ => at_ a o x, ⟨o', _, .head _, hd, ?_, fun x u hx => ?_⟩⟩
  · rcases List.mem_cons.mp ha with rfl | ha
    · exact ⟨o', .head _, .of (by rw [dict_cls hd]; intro q; cases q)⟩
    rcases List.mem_cons.mp ha with rfl | ha
    · obtain ⟨o, h1, h2⟩ := hC
      exact ⟨o, mem_put h1 (Nat.succ_ne_self D), h2⟩
    · rw [List.mem_singleton.mp ha]
      obtain ⟨o, h1, h2⟩ := htd
      exact ⟨o, mB _ h1, h2⟩
  · obtain ⟨kv, mv, h1, h2⟩ := J.inv
    exact ⟨kv, mv, h1.at_set fun a o x y c => mem_put x fun e => y (by rw [e]; exact .head _), h2⟩
  · rw [stored_keys, List.take_add_one, hp, d3]
    simp only [Option.toList, List.filter_append, List.map_append]
    rw [List.filter_cons_of_pos (by simpa using hst)]
    simp only [List.filter_nil, List.map_cons, List.map_nil]
    rw [keyed_snoc]
  · rcases mem_stored hx with ⟨rfl, rfl⟩ | h
    · exact ⟨p, List.mem_of_getElem? hp, hst, rfl, hv.mono fun a o x _ => at_ a o x⟩
    · obtain ⟨p, e1, e2, e3, e4⟩ := d4 x u h
      exact ⟨p, e1, e2, e3, e4.mono fun a o x _ => at_ a o x⟩
/-- the start is passed over -/
theorem WJ.skip (J : WJ w G A L B D td kv1 kps st v1 i N) (hp : kps[i]? = some st) : WJ w G A L B D td kv1 kps st v1 (i + 1) N := by
  obtain ⟨o, kvs, d1, d2, d3, d4⟩ := J.dict
  refine { J with dict := ⟨o, kvs, d1, d2, ?_, d4⟩ }
  rw [d3, List.take_add_one, hp]
  simp
end

/-- the places that were asked, when the start was told -/
theorem snap {w : World} {G : Gd} {fb : List Addr} {N : Led} {kv mv : List (Str × Value)} {st : List Nat} (I : Inv w G fb N kv mv) (hs : (valueAt kv (txt st)).isSome = true) :
    ∃ kps : List (List Nat), kv.map (·.1) = kps.map txt ∧ (∀ p ∈ kps, IsP p) ∧ kps.Nodup ∧ st ∈ kps ∧ (∀ p ∈ kps, nim G.g p = 0 → ∀ q ∈ mvs G.lw p, q ∈ kps) ∧ ∀ p ∈ kps, (valueAt kv (txt p)).isSome = true := by
  have hu : ∀ x v, (x, v) ∈ kv → x = txt (udig x) ∧ IsP (udig x) := fun x v hx => by
    obtain ⟨p, h1, h2, _⟩ := I.known x v hx
    rw [h2, udig_txt]; exact ⟨rfl, h1⟩
  have hn : (kv.map (·.1)).Nodup := let ⟨_, _, _, h⟩ := I.kin; dict_nodup h
  have e : kv.map (·.1) = (kv.map fun z => udig z.1).map txt := by
    rw [List.map_map]
    exact List.map_congr_left fun z hz => (hu z.1 z.2 hz).1
  have mem : ∀ q, (valueAt kv (txt q)).isSome = true → q ∈ kv.map fun z => udig z.1 := fun q hq => by
    obtain ⟨v, hv⟩ := Option.isSome_iff_exists.mp hq
    exact List.mem_map.mpr ⟨_, mem_of_valueAt hv, udig_txt q⟩
  refine ⟨kv.map fun z => udig z.1, e, fun p hp => ?_, ?_, mem st hs, fun p hp h0 q hq => ?_, fun p hp => ?_⟩
  · obtain ⟨z, hz, rfl⟩ := List.mem_map.mp hp
    exact (hu z.1 z.2 hz).2
  · rw [e] at hn
    exact List.Pairwise.of_map txt (fun a b h e => h (by rw [e])) hn
  · obtain ⟨z, hz, rfl⟩ := List.mem_map.mp hp
    obtain ⟨p, h1, h2, h3, h4⟩ := I.known z.1 z.2 hz
    rw [h2, udig_txt] at h0 hq
    unfold KnownOK at h4
    rw [if_pos h0] at h4
    obtain ⟨_, _, _, h5⟩ := h4
    exact mem q (h5 q hq)
  · obtain ⟨z, hz, rfl⟩ := List.mem_map.mp hp
    rw [← (hu z.1 z.2 hz).1, valueAt_mem hn hz]
    rfl
theorem Fm.set_fb {G : Gd} {A : Around} {L : Addr} {fb fb' : List Addr} {N N' : Led} (M : Fm A L G [] fb N) (h : ∀ a ∈ fb', a ≠ G.k ∧ a ≠ G.mv ∧ ∃ o, (a, o) ∈ N' ∧ Kept o) : Fm A L G [] fb' N' :=
  ⟨M.top, M.each, (fun a ha => nomatch ha), (fun a ha => nomatch ha), fun a ha => .inr (h a ha)⟩
theorem wj_start {w : World} {G : Gd} {A : Around} {L : Addr} {B : Led} {D td I3 : Addr} {kv1 mv1 : List (Str × Value)} {kps : List (List Nat)} {st : List Nat} {v1 : Value} {N0 N1 : Led} {oC oD oI : Obj}
    (I : Inv w G [td] N0 kv1 mv1) (M : Fm A L G [] [td] N0) (tst : ToldOK w G (G.off [td]) N0 st v1) (h01 : ∀ q ∈ N0, q ∈ N1) (hB : ∀ q ∈ B, q ∈ N1) (hlt : ∀ q ∈ N1, q.1 < I3) (hI : @LT.lt Nat _ I3 D) (hd : oD.IsDictOf (sK w) [])
    (hC : ∃ o, (D + 1, o) ∈ (D + 1, oC) :: (D, oD) :: (I3, oI) :: N1 ∧ Kept o) : WJ w G A L B D td kv1 kps st v1 0 ((D + 1, oC) :: (D, oD) :: (I3, oI) :: N1) := by
  have lt0 : ∀ q ∈ N0, @LT.lt Nat _ q.1 I3 := fun q hq => hlt q (h01 q hq)
  obtain ⟨ok, k1, k2, k3⟩ := I.kin
  obtain ⟨om, m1, m2, m3⟩ := I.min
  have kl : @LT.lt Nat _ G.k I3 := lt0 _ k1
  have ml : @LT.lt Nat _ G.mv I3 := lt0 _ m1
  have up : ∀ q ∈ N0, q ∈ (D + 1, oC) :: (D, oD) :: (I3, oI) :: N1 := fun q hq => .tail _ (.tail _ (.tail _ (h01 q hq)))
  refine ⟨fun q hq => .tail _ (.tail _ (.tail _ (hB q hq))), M.set_fb fun a ha => ?_, ⟨kv1, mv1, ?_, .refl⟩, tst.mono fun a o x _ => ⟨up _ x.1, fun e => ?_⟩, ⟨oD, [], .tail _ (.head _), hd, rfl, fun x v h => nomatch h⟩⟩
  · rcases List.mem_cons.mp ha with rfl | ha
    · exact ⟨Nat.ne_of_gt (by omega), Nat.ne_of_gt (by omega), oD, .tail _ (.head _), .of (by rw [dict_cls hd]; intro q; cases q)⟩
    rcases List.mem_cons.mp ha with rfl | ha
    · exact ⟨Nat.ne_of_gt (by omega), Nat.ne_of_gt (by omega), hC⟩
    · rcases M.tab a ha with h | ⟨h1, h2, o, h3, h4⟩
      · cases h
      · exact ⟨h1, h2, o, up _ h3, h4⟩
  · have I1 := I.push (L := D + 1) (fun q hq => Nat.ne_of_lt (by have := lt0 q hq; omega)) oC
    have I2 := I1.push (L := D) (fun q hq => by
      rcases List.mem_cons.mp hq with rfl | hq
      · exact Nat.succ_ne_self D
      · exact Nat.ne_of_lt (by have := lt0 q hq; omega)) oD
    refine I2.mono fun q hq => ?_
    rcases List.mem_cons.mp hq with rfl | hq
    · exact .tail _ (.head _)
    rcases List.mem_cons.mp hq with rfl | hq
    · exact .head _
    · exact up q hq
  · have la : @LT.lt Nat _ a I3 := lt0 _ x.1
    rcases List.mem_cons.mp e with e | e
    · exact x.2 (by rw [e]; exact .head _)
    rcases List.mem_cons.mp e with e | e
    · exact x.2 (by rw [e]; exact .tail _ (.head _))
    rcases List.mem_cons.mp e with e | e
    · exact Nat.ne_of_lt (by omega) e
    rcases List.mem_cons.mp e with e | e
    · exact Nat.ne_of_lt (by omega) e
    · exact x.2 (.tail _ (.tail _ e))
theorem text_at {vs : List Value} {qs : List (List Nat)} (h : StrsAre vs (qs.map txt)) {j : Nat} {v : Value} (hv : vs.toArray[j]? = some v) : ∃ (q : List Nat) (u : Tok), qs[j]? = some q ∧ v = Value.str (txt q) u := by
  have hv' : vs[j]? = some v := by simpa using hv
  have hj : j < qs.length := by
    have h1 := (List.getElem?_eq_some_iff.mp hv').1
    rw [h.length, List.length_map] at h1
    exact h1
  obtain ⟨u, hu⟩ := StrsAre.get h j (txt qs[j]) (by rw [List.getElem?_map, List.getElem?_eq_getElem hj]; rfl)
  rw [hv'] at hu
  exact ⟨_, u, List.getElem?_eq_getElem hj, Option.some.inj hu⟩
section
variable {M : Model} {A : Around} {E E2 : Value → Shared → Prop} {s : Shared} {α : Type} {X Y : Sem α} {Q : α → Shared → Prop} {b : Bool}
theorem if_yes (h : b = true) (k : wpAny M A X Q E s) : wpAny M A (truthy (.bool b)) (fun a s' => wpAny M A (if a = true then X else Y) Q E s') E2 s := by
  subst h
  exact wpAny_truthy_bool (by rw [if_pos rfl]; exact k)
theorem if_no (h : b = false) (k : wpAny M A Y Q E s) : wpAny M A (truthy (.bool b)) (fun a s' => wpAny M A (if a = true then X else Y) Q E s') E2 s := by
  subst h
  exact wpAny_truthy_bool (by rw [if_neg (by decide)]; exact k)
end
section
variable {w : World} {G : Gd} {fb : List Addr} {N NV : Led} {kv mv kv1 : List (Str × Value)} {ps : List (List Nat)} {pl : Addr} {vs : List Value} {n : Nat}
theorem due_in (I : Inv w G fb N kv mv) (hkg : Kg kv1 kv) (hs : ∀ a o, (a, o) ∈ N → a ∉ fb → (a, o) ∈ NV) (hps : ∀ p ∈ ps, IsP p ∧ (valueAt kv1 (txt p)).isSome = true)
    (hpl : (pl, ({ cls := .type "list", data := .seq (List.toArray vs) n } : Obj)) ∈ NV) (hT : Texts vs (ps.map txt)) (hlen : ps.length ≤ 125) : DueIn w G pl ps NV := by
  obtain ⟨o, kvs, l1, l2, l3⟩ := I.links
  obtain ⟨om, m1, m2, m3⟩ := I.min
  have off : ∀ {a}, a ∉ G.off fb → a ∉ fb := fun h e => h (.tail _ (.tail _ e))
  refine ⟨⟨o, kvs, hs _ _ l1.1 (off l1.2), l2, l3⟩, ⟨om, mv, hs _ _ m1 m2, m3, fun p hp => ?_⟩, ⟨vs, n, hpl, hT⟩, fun p hp => (hps p hp).1, hlen⟩
  obtain ⟨v, hv⟩ := Option.isSome_iff_exists.mp (hkg _ (hps p hp).2)
  obtain ⟨_, _, _, q1, _⟩ := I.known _ _ (mem_of_valueAt hv)
  obtain ⟨u, hu⟩ := Option.isSome_iff_exists.mp q1
  obtain ⟨p', _, q2, l, ol, lvs, ln, rfl, q3, rfl, q4⟩ := I.moves _ _ (mem_of_valueAt hu)
  obtain rfl := txt_inj q2
  exact ⟨l, lvs, ln, hu, hs _ _ q3.1 (off q3.2), q4⟩
end
theorem map_txt_nodup {ps : List (List Nat)} (h : ps.Nodup) : (ps.map txt).Nodup := by
  refine List.Pairwise.map txt (fun a b hab e => hab (txt_inj e)) h
/-- the table of all that was told -/
theorem told_all {w : World} {G : Gd} {A : Around} {L : Addr} {B : Led} {D td : Addr} {kv1 : List (Str × Value)} {kps : List (List Nat)} {st : List Nat} {v1 : Value} {N : Led} (J : WJ w G A L B D td kv1 kps st v1 kps.length N) (hn : kps.Nodup) :
    ∃ o kvs, (D, o) ∈ N ∧ o.IsDictOf (sK w) kvs ∧ merged (stored [] (txt st) v1) kvs = (txt st, v1) :: kvs ∧ ((txt st, v1) :: kvs).map (·.1) = (st :: kps.filter fun p => decide (p ≠ st)).map txt ∧ (st :: kps.filter fun p => decide (p ≠ st)).Nodup ∧
      ∀ x v, (x, v) ∈ (txt st, v1) :: kvs → ∃ p ∈ st :: kps.filter fun p => decide (p ≠ st), x = txt p ∧ ToldOK w G (G.off [D, D + 1, td]) N p v := by
  obtain ⟨o, kvs, d1, d2, d3, d4⟩ := J.dict
  rw [List.take_length] at d3
  have n1 : (kps.filter fun p => decide (p ≠ st)).Nodup := hn.filter _
  have d5 : kvs.map (·.1) = (kps.filter fun p => decide (p ≠ st)).map txt := by rw [d3, keyed_nodup _ (map_txt_nodup n1)]
  have n2 : (st :: kps.filter fun p => decide (p ≠ st)).Nodup := List.nodup_cons.mpr ⟨fun h => by simpa using (List.mem_filter.mp h).2, n1⟩
  refine ⟨o, kvs, d1, d2, ?_, by rw [List.map_cons, List.map_cons, d5], n2, fun x v hx => ?_⟩
  · rw [stored_new (by simp), merged_new (by rw [d5]; exact map_txt_nodup n1) fun x hx => ?_]
    · simp
    · rw [d5] at hx
      obtain ⟨p, hp, rfl⟩ := List.mem_map.mp hx
      simp only [List.nil_append, List.map_cons, List.map_nil, List.mem_singleton]
      intro e
      have := (List.mem_filter.mp hp).2
      rw [txt_inj e] at this
      simp at this
  · rcases List.mem_cons.mp hx with h | h
    · cases h
      exact ⟨st, .head _, rfl, J.tst⟩
    · obtain ⟨p, e1, e2, e3, e4⟩ := d4 x v h
      exact ⟨p, .tail _ (List.mem_filter.mpr ⟨e1, by simpa using e2⟩), e3, e4⟩
theorem caller_u1 (env : Env) : (callerA.deeper env).in1.units < cLine := by
  show callerA.units + 3 + 1 < cLine
  decide +kernel
theorem caller_u2 (env : Env) : (callerA.deeper env).in1.in1.units < cLine := by
  show callerA.units + 3 + 1 + 1 < cLine
  decide +kernel
end Mine
end
section
open PySem PySem.W PySem.Calls PyProof.Rows
set_option maxRecDepth 100000
set_option maxHeartbeats 20000000
namespace Mine
local macro_rules | `(tactic| walk_at "mine 0") => `(tactic| fail "no line")
local macro_rules | `(tactic| walk_at "mine 1") => `(tactic| fail "no line")
local macro_rules | `(tactic| walk_at "mine 2") => `(tactic| fail "no line")
local macro_rules | `(tactic| walk_at "mine 3") => `(tactic| fail "no line")
local macro_rules | `(tactic| walk_at "mine 4") => `(tactic| fail "no line")
local macro_rules | `(tactic| walk_at "mine 5") => `(tactic| fail "no line")
local macro_rules | `(tactic| walk_at "mine 6") => `(tactic| fail "no line")
local macro_rules | `(tactic| walk_at "mine 7") => `(tactic| fail "no line")
local macro_rules | `(tactic| walk_at "mine 8") => `(tactic| fail "no line")
local macro_rules | `(tactic| walk_at "mine 9") => `(tactic| fail "no line")
local macro_rules | `(tactic| walk_at "mine 10") => `(tactic| fail "no line")
local macro_rules | `(tactic| walk_at "mine 11") => `(tactic| fail "no line")
local macro_rules | `(tactic| walk_at "mine 12") => `(tactic| fail "no line")
local macro_rules | `(tactic| walk_at "mine 13") => `(tactic| fail "no line")
local macro_rules | `(tactic| walk_at "mine 14") => `(tactic| fail "no line")
local macro_rules | `(tactic| walk_at "mine 15") => `(tactic| fail "no line")
local macro_rules | `(tactic| walk_at "mine 16") => `(tactic| fail "no line")
local macro_rules | `(tactic| walk_at "mine 17") => `(tactic| fail "no line")
local macro_rules | `(tactic| walk_at "mine 18") => `(tactic| fail "no line")
local macro_rules | `(tactic| walk_at "mine 19") => `(tactic| fail "no line")
local macro_rules | `(tactic| walk_at "mine 20") => `(tactic| fail "no line")
local macro_rules | `(tactic| walk_at "mine 21") => `(tactic| fail "no line")
local macro_rules | `(tactic| walk_at "mine 22") => `(tactic| fail "no line")
local macro_rules | `(tactic| walk_at "mine 23") => `(tactic| fail "no line")
local macro_rules | `(tactic| walk_at "mine 24") => `(tactic| fail "no line")
local macro_rules | `(tactic| walk_at "mine 25") => `(tactic| fail "no line")
local macro_rules | `(tactic| walk_at "mine 26") => `(tactic| fail "no line")
local macro_rules | `(tactic| k_mem) => `(tactic| assumption)
local macro_rules | `(tactic| walk_at "eval Name") => `(tactic| (k_dflt (first
  | ((with_reducible show wpAny _ _ (eval _ (compEnvC _ _ _ _)) _ _ _); refine ldVarK (by assumption) (by assumption) ?_)
  | ((with_reducible show wpAny _ _ (eval _ (compEnvC _ _ _ _)) _ _ _); refine ldCellK (c := _) rfl ⟨_, by assumption, by assumption⟩ ?_)
  | ((with_reducible show wpAny _ _ (eval _ (compEnvC _ _ _ _)) _ _ _); refine' ldV ?N ?c ?v ?_ ?k1 ?k2 ?k3; (case k1 => rfl); (case k2 => rfl); (case k3 => decide); (case N => k_asm); (case c => k_asm); (case v => (first | with_reducible assumption | exact rfl)))
  | ((with_reducible show wpAny _ _ (eval _ (compEnvC _ _ _ _)) _ _ _); refine' ldC ?N ?hc ?m ?v ?_ ?k1 ?k2 ?k3; (case k1 => rfl); (case k2 => rfl); (case k3 => decide); (case N => k_asm); (case hc => rfl); (case m => assumption); (case v => assumption))
  | ((with_reducible show wpAny _ _ (eval _ (envOfC _ _ _ _ _)) _ _ _); refine' ldCN ?N ?hc ?m ?v ?_ ?k1 ?k2; (case k1 => rfl); (case k2 => rfl); (case N => k_asm); (case hc => rfl); (case m => assumption); (case v => assumption))
  | ((with_reducible show wpAny _ _ (eval _ (compEnvC _ _ _ _)) _ _ _); refine' nameK_K ?F ?X ?T ?k ?_ ?k0 ?k1 ?k2 ?k3; (case k0 => rfl); (case k1 => rfl); (case k2 => rfl); (case k3 => decide); (case F => k_asm); (case X => k_asm); (case T => k_asm); (case k => k_is)))))
theorem law_post (args : List WData) : PySem.Challenge.rw_kl0453_01.row.claim.post args (.bool true) args = true := by wrow_post
theorem law_raises (args : List WData) : ∀ cls, PySem.Challenge.rw_kl0453_01.row.claim.raises args cls = false := raisesW_false (by wrow_none_raised)
theorem lawp : PySem.Challenge.rw_kl0453_01.Holds := hd (by
  k_go0
  rename_i w s₀ s₁ mg mb GG YY fa oo pm doc ho hgens X XX VV GL T BB TE TW w13 w12 MM w11 w10 hcd ns hs0 hlay0 hL1 hr1 hl2 as8 as7 sa vs as4 hSL ra w1 r0 hI hr hlen hc2 K0 hD h₁ tk₁ F o4 o3 o2 o1 d4 d3 d2 d1 N0 X0
  clear X0 hr w1 r0 ra hD hL1 hlay0 hr1 hl2 hs0
  dsimp only at F d4 d3 d2 d1 N0 ⊢
  obtain ⟨h₀, g₀, dr₀, t₀, os₀⟩ := s₁
  dsimp only at *
  k_fold
  iterate 13 walk1
  refine wpAny_ListComp_free (cl := []) (fun _ => true) (fun v y => ∃ (x : Int) (u u' : Tok), v = .int x u ∧ y = .int (x.fmod 1024) u') (by with_unfolding_all rfl) (by decide) rfl (by decide) rfl ?_
  iterate 16 walk1
  dsimp only
  rename_i D2 ws h2 F2 N2 hI2 hC2 hL2 l2 h3 F3 N3
  have hl3 : h3.IsList (h2.objs.size + 1) (slicePick ws.toArray none none (some 2)) := ⟨_, N3.get (.head _), rfl, _, rfl⟩
  have hi3 := hI2.pick none none (some 2)
  have hn3 := length_pickNums_le hI2 none none (some 2)
  refine wpAny_pyIter_list hl3 ?_
  refine ⟨_, [h3.objs.size, h2.objs.size + 1], [h3.objs.size], (slicePick ws.toArray none none (some 2)).size, _, _, rfl, Walks.list (prog := Challenge.rw_kl0453_01.row.prog) (w := w) rfl h3.objs.size _ (Nat.ne_of_lt (Heap.lt_size (N3.get (.head _)))) _, ?lsz, ⟨⟨_, Heap.get?_push_size _ rfl, rfl, rfl⟩, hl3.push _⟩, ?fpl, ?qu, ?fin⟩
  case lsz =>
    have h9 := hi3.length
    rw [Array.length_toList] at h9
    rw [h9, sizeLine_eq]; omega
  case fpl =>
    intro b hb
    rcases List.mem_cons.mp hb with rfl | hb
    · exact Heap.lt_size (Heap.get?_push_size _ rfl)
    · rw [List.mem_singleton.mp hb]
      exact Heap.lt_size (Heap.get?_push_of_some _ (N3.get (.head _)))
  case qu =>
    refine ⟨fun C j v s₃ m₃ E' hC hP hNs hm keep htk => tests_nil ⟨rfl, _, _, rfl, fun _ _ e => e⟩, fun C j v s₃ m₃ E' hC hP hpv hNs hm keep htk => ?_⟩
    obtain ⟨H, g', dr', tk', os'⟩ := s₃
    dsimp only at hNs
    obtain ⟨x, t, rfl⟩ := int_at hi3 hP
    iterate 4 walk1
    exact ⟨⟨x, _, _, rfl, rfl⟩, _, _, rfl, fun _ _ e => e⟩
  case fin =>
    intro D' h₇ tk₇ ys vs' hD' hL₇ hP₇ hlen₇ hPs hF keep
    rw [List.filter_eq_self.mpr fun _ _ => rfl] at hF
    obtain ⟨ks, hks, hkl, hkb⟩ := paired_mod (by decide) hF
    have kp := keep_one keep
    have F₇ := F3.kept kp
    have N₇ : News h₀ h₀.objs.size h₇ [(h₀.objs.size + 1 + 1 + 1 + 1, o4), (h₀.objs.size + 1 + 1 + 1, o3), (h₀.objs.size + 1 + 1, o2), (h₀.objs.size + 1, o1)] := fun q hq => ⟨kp _ _ (N3 q (.tail _ (.tail _ hq))).1, (N3 q (.tail _ (.tail _ hq))).2⟩
    clear F2 N2 F3 N3
    try clear N0
    iterate 1 walk1
    refine sum_led (ns := ks) rfl (by rw [Array.toArray_toList]; exact hL₇) hks fun h₈ tk₈ t₈ kp₈ => ?_
    have F₈ := F₇.kept kp₈
    have N₈ : News h₀ h₀.objs.size h₈ [(h₀.objs.size + 1 + 1 + 1 + 1, o4), (h₀.objs.size + 1 + 1 + 1, o3), (h₀.objs.size + 1 + 1, o2), (h₀.objs.size + 1, o1)] := fun q hq => ⟨kp₈ _ _ (N₇ q hq).1, (N₇ q hq).2⟩
    clear F₇ N₇
    iterate 4 walk1
    obtain ⟨n, hn⟩ : ∃ n : Nat, (687 + ks.sum).fmod 1024 = (n : Int) := Int.eq_ofNat_of_zero_le (Int.fmod_nonneg_of_pos _ (by decide))
    have hn1 : n < 1024 := by have := Int.fmod_lt_of_pos (687 + ks.sum) (b := 1024) (by decide); omega
    refine ⟨X.keeps F₈.keep, ?_⟩
    refine call_cast hn ?_
    refine links_walk X T rfl (caller_room _).depth F₈ N₈ hn1 fun h₉ tk₉ ln oln lkv ltl F₉ N₉ hdl hlk => ?_
    clear F₈ N₈
    refine st_cell F₉ N₉ rfl (.tail _ (.tail _ (.tail _ (.tail _ (.head _))))) d1 fun h₁₀ o1' F₁₀ N₁₀ d1' => ?_
    have e0 : @LT.lt Nat _ (h₀.objs.size + 1 + 1 + 1 + 1) ln := ltl _ (.head _)
    have N₁₁ : News h₀ h₀.objs.size h₁₀ [(ln, oln), (h₀.objs.size + 1 + 1 + 1 + 1, o4), (h₀.objs.size + 1 + 1 + 1, o3), (h₀.objs.size + 1 + 1, o2), (h₀.objs.size + 1, o1')] := by
      have n1 : ln ≠ h₀.objs.size + 1 := Nat.ne_of_gt (by omega)
      have n2 : h₀.objs.size + 1 + 1 ≠ h₀.objs.size + 1 := by omega
      have n3 : h₀.objs.size + 1 + 1 + 1 ≠ h₀.objs.size + 1 := by omega
      have n4 : h₀.objs.size + 1 + 1 + 1 + 1 ≠ h₀.objs.size + 1 := by omega
      intro q hq
      rcases List.mem_cons.mp hq with rfl | hq
      · exact N₁₀ _ (mem_put (.head _) n1)
      rcases List.mem_cons.mp hq with rfl | hq
      · exact N₁₀ _ (mem_put (.tail _ (.head _)) n4)
      rcases List.mem_cons.mp hq with rfl | hq
      · exact N₁₀ _ (mem_put (.tail _ (.tail _ (.head _))) n3)
      rcases List.mem_cons.mp hq with rfl | hq
      · exact N₁₀ _ (mem_put (.tail _ (.tail _ (.tail _ (.head _)))) n2)
      rw [List.mem_singleton.mp hq]
      exact N₁₀ _ (.head _)
    clear N₁₀ F₉ N₉ hL₇ hP₇ hl3 keep kp kp₈
    dsimp only
    iterate 9 walk1
    refine wpAny_ListComp_free (cl := []) (fun _ => true) (fun v y => ∃ (x : Int) (u u' : Tok), v = .int x u ∧ y = .int (x.fmod 60) u') (by with_unfolding_all rfl) (by decide) rfl (by decide) rfl ?_
    iterate 17 walk1
    dsimp only
    rename_i D2 ws h2 F2 N2 hI2 hC2 hL2 l2 h3 F3 N3
    have hl3 : h3.IsList (h2.objs.size + 1) (slicePick ws.toArray (some 1) none (some 2)) := ⟨_, N3.get (.head _), rfl, _, rfl⟩
    have hi3 := hI2.pick (some 1) none (some 2)
    have hn3 := length_pickNums_le hI2 (some 1) none (some 2)
    refine wpAny_pyIter_list hl3 ?_
    refine ⟨_, [h3.objs.size, h2.objs.size + 1], [h3.objs.size], (slicePick ws.toArray (some 1) none (some 2)).size, _, _, rfl, Walks.list (prog := Challenge.rw_kl0453_01.row.prog) (w := w) rfl h3.objs.size _ (Nat.ne_of_lt (Heap.lt_size (N3.get (.head _)))) _, ?lsz, ⟨⟨_, Heap.get?_push_size _ rfl, rfl, rfl⟩, hl3.push _⟩, ?fpl, ?qu, ?fin⟩
    case lsz =>
      have h99 := hi3.length
      rw [Array.length_toList] at h99
      rw [h99, sizeLine_eq]; omega
    case fpl =>
      intro b hb
      rcases List.mem_cons.mp hb with rfl | hb
      · exact Heap.lt_size (Heap.get?_push_size _ rfl)
      · rw [List.mem_singleton.mp hb]
        exact Heap.lt_size (Heap.get?_push_of_some _ (N3.get (.head _)))
    case qu =>
      refine ⟨fun C j v s₃ m₃ E' hC hP hNs hm keep htk => tests_nil ⟨rfl, _, _, rfl, fun _ _ e => e⟩, fun C j v s₃ m₃ E' hC hP hpv hNs hm keep htk => ?_⟩
      obtain ⟨H, g', dr', tk', os'⟩ := s₃
      dsimp only at hNs
      obtain ⟨x, t, rfl⟩ := int_at hi3 hP
      iterate 4 walk1
      exact ⟨⟨x, _, _, rfl, rfl⟩, _, _, rfl, fun _ _ e => e⟩
    case fin =>
      intro D' h₇ tk₇ ys vs' hD' hL₇ hP₇ hlen₇ hPs hF keep
      rw [List.filter_eq_self.mpr fun _ _ => rfl] at hF
      obtain ⟨ks2, hks2, hkl2, hkb2⟩ := paired_mod (by decide) hF
      have kp := keep_one keep
      have F₇ := F3.kept kp
      have N₇ : News h₀ h₀.objs.size h₇ [(ln, oln), (h₀.objs.size + 1 + 1 + 1 + 1, o4), (h₀.objs.size + 1 + 1 + 1, o3), (h₀.objs.size + 1 + 1, o2), (h₀.objs.size + 1, o1')] := fun q hq => ⟨kp _ _ (N3 q (.tail _ (.tail _ hq))).1, (N3 q (.tail _ (.tail _ hq))).2⟩
      clear F2 N2 F3 N3
      try clear N0
      iterate 1 walk1
      refine sum_led (ns := ks2) rfl (by rw [Array.toArray_toList]; exact hL₇) hks2 fun h₈ tk₈ t₈ kp₈ => ?_
      have F₈ := F₇.kept kp₈
      have N₈ : News h₀ h₀.objs.size h₈ [(ln, oln), (h₀.objs.size + 1 + 1 + 1 + 1, o4), (h₀.objs.size + 1 + 1 + 1, o3), (h₀.objs.size + 1 + 1, o2), (h₀.objs.size + 1, o1')] := fun q hq => ⟨kp₈ _ _ (N₇ q hq).1, (N₇ q hq).2⟩
      clear F₇ N₇
      iterate 3 walk1
      obtain ⟨dr, hdr⟩ : ∃ n : Nat, (51 + ks2.sum).fmod 60 = (n : Int) := Int.eq_ofNat_of_zero_le (Int.fmod_nonneg_of_pos _ (by decide))
      have hdr1 : dr < 60 := by have := Int.fmod_lt_of_pos (51 + ks2.sum) (b := 60) (by decide); omega
      refine store_cast hdr ?_
      dsimp only
      iterate 24 walk1
      refine call_cast (n := dr % 5) (fmod_nat dr 5) ?_
      refine str_digit (by omega) fun t5 k5 => ?_
      dsimp only
      iterate 16 walk1
      have e5 : ((dr : Int)).fdiv 5 = ((dr / 5 : Nat) : Int) := fdiv_nat dr 5
      have e4 : ((dr / 5 : Nat) : Int).fmod 4 = ((dr / 5 % 4 : Nat) : Int) := fmod_nat _ 4
      have e20 : ((dr : Int)).fdiv 20 = ((dr / 20 : Nat) : Int) := fdiv_nat dr 20
      refine call_cast (n := 1 + dr / 5 % 4) (by rw [e5, e4]; omega) ?_
      refine str_digit (by omega) fun t6 k6 => ?_
      dsimp only
      iterate 13 walk1
      refine call_cast (n := 2 + dr / 20) (by rw [e20]; omega) ?_
      refine str_digit (by omega) fun t7 k7 => ?_
      dsimp only
      iterate 3 walk1
      rename_i lS hS FS NS lltS
      refine sorted_N_str (vs := [.str (txt [dr % 5]) t5, .str (txt [1 + dr / 5 % 4]) t6, .str (txt [2 + dr / 20]) t7]) (ss := [dr % 5, 1 + dr / 5 % 4, 2 + dr / 20].map fun d => txt [d]) FS NS ⟨_, NS.get (.head _), rfl, _, rfl⟩ (.cons _ _ (.cons _ _ (.cons _ _ .nil))) (by show 3 < 64; decide) fun hA vsA ssA eA FA NA hA1 hA2 hA3 => ?_
      rw [sorted_digits hA2 hA3] at hA1
      generalize hst : isort [dr % 5, 1 + dr / 5 % 4, 2 + dr / 20] = st at hA1
      have hIP : IsP st := by rw [← hst]; exact place_of (by omega) (by omega) (by omega)
      clear FS NS
      dsimp only
      iterate 1 walk1
      refine join_text (ds := st) (by rw [hIP.len]; decide) (NA.get (.head _)) hA1 fun tS kS => ?_
      dsimp only
      refine st_cell FA NA rfl (.tail _ (.tail _ (.tail _ (.tail _ (.tail _ (.head _)))))) d2 fun hB o2' FB NB d2' => ?_
      have NC : News h₀ h₀.objs.size hB [(ln, oln), (h₀.objs.size + 1 + 1 + 1 + 1, o4), (h₀.objs.size + 1 + 1 + 1, o3), (h₀.objs.size + 1 + 1, o2'), (h₀.objs.size + 1, o1')] := by
        have n1 : ln ≠ h₀.objs.size + 1 + 1 := Nat.ne_of_gt (by omega)
        have n2 : h₀.objs.size + 1 ≠ h₀.objs.size + 1 + 1 := by omega
        have n3 : h₀.objs.size + 1 + 1 + 1 ≠ h₀.objs.size + 1 + 1 := by omega
        have n4 : h₀.objs.size + 1 + 1 + 1 + 1 ≠ h₀.objs.size + 1 + 1 := by omega
        intro q hq
        rcases List.mem_cons.mp hq with rfl | hq
        · exact NB _ (mem_put (.tail _ (.tail _ (.head _))) n1)
        rcases List.mem_cons.mp hq with rfl | hq
        · exact NB _ (mem_put (.tail _ (.tail _ (.tail _ (.head _)))) n4)
        rcases List.mem_cons.mp hq with rfl | hq
        · exact NB _ (mem_put (.tail _ (.tail _ (.tail _ (.tail _ (.head _))))) n3)
        rcases List.mem_cons.mp hq with rfl | hq
        · exact NB _ (.head _)
        rw [List.mem_singleton.mp hq]
        exact NB _ (mem_put (.tail _ (.tail _ (.tail _ (.tail _ (.tail _ (.tail _ (.head _))))))) n2)
      clear NB NA FA
      dsimp only
      iterate 3 walk1
      rename_i mv hC omv FC NM lomv hsmv _ _ _ lmv
      have FC : Fr h₀ h₀.objs.size hC _ := FC
      have NM : News h₀ h₀.objs.size hC [(mv, omv), (ln, oln), (h₀.objs.size + 1 + 1 + 1 + 1, o4), (h₀.objs.size + 1 + 1 + 1, o3), (h₀.objs.size + 1 + 1, o2'), (h₀.objs.size + 1, o1')] := NM
      refine st_cell FC NM rfl (.tail _ (.tail _ (.tail _ (.head _)))) d3 fun hD o3' FD ND d3' => ?_
      have lm1 : @LT.lt Nat _ ln mv := lmv.1
      have NE : News h₀ h₀.objs.size hD [(mv, omv), (ln, oln), (h₀.objs.size + 1 + 1 + 1 + 1, o4), (h₀.objs.size + 1 + 1 + 1, o3'), (h₀.objs.size + 1 + 1, o2'), (h₀.objs.size + 1, o1')] := by
        have n0 : mv ≠ h₀.objs.size + 1 + 1 + 1 := Nat.ne_of_gt (by omega)
        have n1 : ln ≠ h₀.objs.size + 1 + 1 + 1 := Nat.ne_of_gt (by omega)
        have n2 : h₀.objs.size + 1 ≠ h₀.objs.size + 1 + 1 + 1 := by omega
        have n3 : h₀.objs.size + 1 + 1 ≠ h₀.objs.size + 1 + 1 + 1 := by omega
        have n4 : h₀.objs.size + 1 + 1 + 1 + 1 ≠ h₀.objs.size + 1 + 1 + 1 := by omega
        intro q hq
        rcases List.mem_cons.mp hq with rfl | hq
        · exact ND _ (mem_put (.head _) n0)
        rcases List.mem_cons.mp hq with rfl | hq
        · exact ND _ (mem_put (.tail _ (.head _)) n1)
        rcases List.mem_cons.mp hq with rfl | hq
        · exact ND _ (mem_put (.tail _ (.tail _ (.head _))) n4)
        rcases List.mem_cons.mp hq with rfl | hq
        · exact ND _ (.head _)
        rcases List.mem_cons.mp hq with rfl | hq
        · exact ND _ (mem_put (.tail _ (.tail _ (.tail _ (.tail _ (.head _))))) n3)
        rw [List.mem_singleton.mp hq]
        exact ND _ (mem_put (.tail _ (.tail _ (.tail _ (.tail _ (.tail _ (.head _)))))) n2)
      clear FC NM ND NC FB
      dsimp only
      iterate 3 walk1
      rename_i kn hF okn FF NN' lokn hskn _ _ _ lkn
      have FF : Fr h₀ h₀.objs.size hF _ := FF
      have NN' : News h₀ h₀.objs.size hF [(kn, okn), (mv, omv), (ln, oln), (h₀.objs.size + 1 + 1 + 1 + 1, o4), (h₀.objs.size + 1 + 1 + 1, o3'), (h₀.objs.size + 1 + 1, o2'), (h₀.objs.size + 1, o1')] := NN'
      refine st_cell FF NN' rfl (.tail _ (.tail _ (.tail _ (.head _)))) d4 fun hG o4' FG NG d4' => ?_
      have lk1 : @LT.lt Nat _ mv kn := lkn.1
      have mems : (kn, okn) ∈ putAt (h₀.objs.size + 1 + 1 + 1 + 1) o4' [(kn, okn), (mv, omv), (ln, oln), (h₀.objs.size + 1 + 1 + 1 + 1, o4), (h₀.objs.size + 1 + 1 + 1, o3'), (h₀.objs.size + 1 + 1, o2'), (h₀.objs.size + 1, o1')] ∧
          (mv, omv) ∈ putAt (h₀.objs.size + 1 + 1 + 1 + 1) o4' [(kn, okn), (mv, omv), (ln, oln), (h₀.objs.size + 1 + 1 + 1 + 1, o4), (h₀.objs.size + 1 + 1 + 1, o3'), (h₀.objs.size + 1 + 1, o2'), (h₀.objs.size + 1, o1')] ∧
          (ln, oln) ∈ putAt (h₀.objs.size + 1 + 1 + 1 + 1) o4' [(kn, okn), (mv, omv), (ln, oln), (h₀.objs.size + 1 + 1 + 1 + 1, o4), (h₀.objs.size + 1 + 1 + 1, o3'), (h₀.objs.size + 1 + 1, o2'), (h₀.objs.size + 1, o1')] ∧
          (h₀.objs.size + 1 + 1 + 1 + 1, o4') ∈ putAt (h₀.objs.size + 1 + 1 + 1 + 1) o4' [(kn, okn), (mv, omv), (ln, oln), (h₀.objs.size + 1 + 1 + 1 + 1, o4), (h₀.objs.size + 1 + 1 + 1, o3'), (h₀.objs.size + 1 + 1, o2'), (h₀.objs.size + 1, o1')] ∧
          (h₀.objs.size + 1 + 1 + 1, o3') ∈ putAt (h₀.objs.size + 1 + 1 + 1 + 1) o4' [(kn, okn), (mv, omv), (ln, oln), (h₀.objs.size + 1 + 1 + 1 + 1, o4), (h₀.objs.size + 1 + 1 + 1, o3'), (h₀.objs.size + 1 + 1, o2'), (h₀.objs.size + 1, o1')] ∧
          (h₀.objs.size + 1 + 1, o2') ∈ putAt (h₀.objs.size + 1 + 1 + 1 + 1) o4' [(kn, okn), (mv, omv), (ln, oln), (h₀.objs.size + 1 + 1 + 1 + 1, o4), (h₀.objs.size + 1 + 1 + 1, o3'), (h₀.objs.size + 1 + 1, o2'), (h₀.objs.size + 1, o1')] ∧
          (h₀.objs.size + 1, o1') ∈ putAt (h₀.objs.size + 1 + 1 + 1 + 1) o4' [(kn, okn), (mv, omv), (ln, oln), (h₀.objs.size + 1 + 1 + 1 + 1, o4), (h₀.objs.size + 1 + 1 + 1, o3'), (h₀.objs.size + 1 + 1, o2'), (h₀.objs.size + 1, o1')] := by
        have n0 : kn ≠ h₀.objs.size + 1 + 1 + 1 + 1 := Nat.ne_of_gt (by omega)
        have n1 : mv ≠ h₀.objs.size + 1 + 1 + 1 + 1 := Nat.ne_of_gt (by omega)
        have n2 : ln ≠ h₀.objs.size + 1 + 1 + 1 + 1 := Nat.ne_of_gt (by omega)
        have n3 : h₀.objs.size + 1 ≠ h₀.objs.size + 1 + 1 + 1 + 1 := by omega
        have n4 : h₀.objs.size + 1 + 1 ≠ h₀.objs.size + 1 + 1 + 1 + 1 := by omega
        have n5 : h₀.objs.size + 1 + 1 + 1 ≠ h₀.objs.size + 1 + 1 + 1 + 1 := by omega
        exact ⟨mem_put (.head _) n0, mem_put (.tail _ (.head _)) n1, mem_put (.tail _ (.tail _ (.head _))) n2, .head _, mem_put (.tail _ (.tail _ (.tail _ (.tail _ (.head _))))) n5, mem_put (.tail _ (.tail _ (.tail _ (.tail _ (.tail _ (.head _)))))) n4, mem_put (.tail _ (.tail _ (.tail _ (.tail _ (.tail _ (.tail _ (.head _))))))) n3⟩
      generalize putAt (h₀.objs.size + 1 + 1 + 1 + 1) o4' [(kn, okn), (mv, omv), (ln, oln), (h₀.objs.size + 1 + 1 + 1 + 1, o4), (h₀.objs.size + 1 + 1 + 1, o3'), (h₀.objs.size + 1 + 1, o2'), (h₀.objs.size + 1, o1')] = NK at *
      obtain ⟨mkn, mmv, mln, c4, c3, c2, c1⟩ := mems
      clear FF NN' NE FD
      dsimp only
      iterate 2 walk1
      refine dict_led T.nolimit FG NG fun td hH otd ltt lotd hdtd FH NH => ?_
      clear FG NG
      have c4' : (h₀.objs.size + 1 + 1 + 1 + 1, o4') ∈ (td, otd) :: NK := .tail _ c4
      have c3' : (h₀.objs.size + 1 + 1 + 1, o3') ∈ (td, otd) :: NK := .tail _ c3
      have c2' : (h₀.objs.size + 1 + 1, o2') ∈ (td, otd) :: NK := .tail _ c2
      have c1' : (h₀.objs.size + 1, o1') ∈ (td, otd) :: NK := .tail _ c1
      iterate 1 walk1
      obtain ⟨g, hg⟩ := mx_exists (wd_ok n)
      obtain ⟨G, hG1, hG2, hG3, hG4, hG5⟩ : ∃ G : Gd, G.lw = wd n ∧ G.ln = ln ∧ G.mv = mv ∧ G.k = kn ∧ Mx G.lw G.g := ⟨⟨wd n, g, kn, mv, ln⟩, rfl, rfl, rfl, rfl, hg⟩
      subst hG2 hG3 hG4
      have hW : Lw G.lw := by rw [hG1]; exact wd_ok n
      rw [← hG1] at hlk
      have t1 : @LT.lt Nat _ G.k td := ltt _ mkn
      have ok : G.ok := ⟨hW, hG5, Nat.ne_of_gt lk1, lokn, lomv, Nat.ne_of_lt (Nat.lt_trans lm1 lk1), Nat.ne_of_lt lm1⟩
      have M0 : ∀ env : Env, env.frame = some h₀.objs.size → env.scope.kind = .function → Fm (callerA.deeper env) h₀.objs.size G [] [td] ((td, otd) :: NK) := fun env a b => caller_fm a b (.head _) (Nat.ne_of_gt t1) (Nat.ne_of_gt (Nat.lt_trans lk1 t1)) (.of (by rw [dict_cls hdtd]; intro q; cases q))
      have I0 := start_inv (w := w) (td := td) ok (.tail (td, otd) mln) hdl hlk (.tail _ mkn) hskn (.tail _ mmv) hsmv (Nat.ne_of_gt (Nat.lt_trans lm1 (Nat.lt_trans lk1 t1))) (Nat.ne_of_gt t1) (Nat.ne_of_gt (Nat.lt_trans lk1 t1))
      iterate 12 walk1
      refine ⟨X.keeps FH.keep, ?_⟩
      refine told_walk X T (moves_walk X T) ((caller_room _).le (by have := hIP.sum_le; omega)) FH NH (M0 _ rfl rfl) I0 hIP fun hI NI kv1 mv1 tkI v1 FI NNI MI II gI kgI kmI isI tI => ?_
      clear FH NH M0 I0
      have b4 : @LT.lt Nat _ (h₀.objs.size + 1 + 1 + 1 + 1) G.mv := Nat.lt_trans e0 lm1
      have b5 : @LT.lt Nat _ (h₀.objs.size + 1 + 1 + 1 + 1) G.k := Nat.lt_trans b4 lk1
      have q4 := gI.stab _ _ c4' (off_nil (Nat.ne_of_lt b5) (Nat.ne_of_lt b4)) (.cell d4')
      have q3 := gI.stab _ _ c3' (off_nil (Nat.ne_of_lt (by omega)) (Nat.ne_of_lt (by omega))) (.cell d3')
      have q2 := gI.stab _ _ c2' (off_nil (Nat.ne_of_lt (by omega)) (Nat.ne_of_lt (by omega))) (.cell d2')
      have q1 := gI.stab _ _ c1' (off_nil (Nat.ne_of_lt (by omega)) (Nat.ne_of_lt (by omega))) (.cell d1')
      have tdo : td ∉ G.off [] := off_nil (Nat.ne_of_gt t1) (Nat.ne_of_gt (Nat.lt_trans lk1 t1))
      have qt := gI.stab _ _ (.head _) tdo (.of (by rw [dict_cls hdtd]; intro q; cases q))
      dsimp only
      refine dset_led FI NNI qt hdtd (Nat.zero_le _) fun hJ otd' FJ' NJ' hdtd' => ?_
      have MJ' := MI.at_d tdo (fun a o x e => mem_put (d := td) (o'' := otd') x e) (.head _) (.of (by rw [dict_cls hdtd']; intro q; cases q)) (fun a ha => nomatch ha)
      have IJ' := II.at_off (fun a o x e => mem_put (d := td) (o'' := otd') x e)
      have tJ' : ToldOK w G (G.off [td]) (putAt td otd' NI) st v1 := tI.mono fun a o x _ => ⟨mem_put x.1 fun e => x.2 (.tail _ (.tail _ (by rw [e]; exact .head _))), x.2⟩
      clear c1' c2' c3' c4' c1 c2 c3 c4
      have c4 := mem_put (o'' := otd') q4 (Nat.ne_of_lt (Nat.lt_trans b5 t1))
      have c3 := mem_put (d := td) (o'' := otd') q3 (Nat.ne_of_lt (by omega))
      have c2 := mem_put (d := td) (o'' := otd') q2 (Nat.ne_of_lt (by omega))
      have c1 := mem_put (d := td) (o'' := otd') q1 (Nat.ne_of_lt (by omega))
      have ct : (td, otd') ∈ putAt td otd' NI := .head _
      generalize putAt td otd' NI = NJ at *
      clear FI NNI MI II gI
      dsimp only
      iterate 6 walk1
      rename_i hK FK NK'
      have NK' : News h₀ h₀.objs.size hK NJ := NK'
      refine kdl_method (knd := strKind _ _) PySem.F.slot_dict_update PySem.F.type_dict_update NK' ct hdtd' ?_
      dsimp only
      iterate 2 walk1
      refine dictcomp_free (cl := [(Str.ofString "start", h₀.objs.size + 1 + 1), (Str.ofString "moves", h₀.objs.size + 1 + 1 + 1), (Str.ofString "links", h₀.objs.size + 1), (Str.ofString "known", h₀.objs.size + 1 + 1 + 1 + 1)]) rfl (fun _ => rfl) ?hcl rfl (by decide) ?_
      case hcl => with_unfolding_all rfl
      obtain ⟨kps, hk1, hk2, hk3, hk4, hk5, hk6⟩ := snap IJ' isI
      have hk7 : kps.length ≤ 125 := by have := IJ'.kv_len; rw [← List.length_map (f := (·.1)), hk1, List.length_map] at this; exact this
      obtain ⟨okn1, kin1, kin2, kin3⟩ := id IJ'.kin
      iterate 6 walk1
      refine list_keys rfl FK NK' kin1 kin3 lokn (sl_of IJ'.kv_len) fun lk ck hL1 tkL pvs FL NL ltL hpv => ?_
      rw [hk1] at hpv
      clear FK NK'
      dsimp only
      refine wpAny_pyIter_list (items := pvs.toArray) ⟨_, NL.get (.head _), rfl, _, rfl⟩ ?_
      have ltP : ∀ q ∈ (lk, W.listOf pvs.toArray ck) :: NJ, q.1 < hL1.objs.size := fun q hq => Heap.lt_size (NL q hq).1
      have FI := FL.push { cls := .type "list_iterator", data := .fields #[.ref lk, .int 0 0] }
      have NI2 := NL.push FL { cls := .type "list_iterator", data := .fields #[.ref lk, .int 0 0] }
      refine comp_dict (fun _ _ => rfl) (fun _ _ => rfl) (fun _ _ => rfl) rfl rfl (by decide) rfl T.nolimit FI NI2 (.head _) (fun s' Q E q h => wpAny_pyIter_listiter ⟨_, q, rfl, rfl⟩ h) fun D3 h₅' oC oD3 tk₅' ltD lo3 hd3 F₅ N₅ c₅ => ?_
      clear FI NI2 FL
      have ltI3 : @LT.lt Nat _ hL1.objs.size D3 := ltD _ (.head _)
      generalize hL1.objs.size = I3 at *
      dsimp only
      obtain ⟨B, hBm, hBk, bc1, bc2, bc3, bc4, bt, bl⟩ : ∃ B : Led, (∀ q ∈ B, q ∈ (lk, W.listOf pvs.toArray ck) :: NJ) ∧ (∀ q ∈ B, q.1 ∉ G.off [] ∧ Kept q.2) ∧ (h₀.objs.size + 1, o1') ∈ B ∧ (h₀.objs.size + 1 + 1, o2') ∈ B ∧ (h₀.objs.size + 1 + 1 + 1, o3') ∈ B ∧ (h₀.objs.size + 1 + 1 + 1 + 1, o4') ∈ B ∧ (td, otd') ∈ B ∧ (lk, W.listOf pvs.toArray ck) ∈ B := by
        obtain ⟨omv1, min1, _⟩ := id IJ'.min
        refine ⟨[(h₀.objs.size + 1, o1'), (h₀.objs.size + 1 + 1, o2'), (h₀.objs.size + 1 + 1 + 1, o3'), (h₀.objs.size + 1 + 1 + 1 + 1, o4'), (td, otd'), (lk, W.listOf pvs.toArray ck)], fun q hq => ?_, fun q hq => ?_, by simp, by simp, by simp, by simp, by simp, by simp⟩
        · simp only [List.mem_cons, List.not_mem_nil, or_false] at hq
          rcases hq with rfl | rfl | rfl | rfl | rfl | rfl
          · exact .tail _ c1
          · exact .tail _ c2
          · exact .tail _ c3
          · exact .tail _ c4
          · exact .tail _ ct
          · exact .head _
        · simp only [List.mem_cons, List.not_mem_nil, or_false] at hq
          rcases hq with rfl | rfl | rfl | rfl | rfl | rfl
          · exact ⟨off_nil (Nat.ne_of_lt (by omega)) (Nat.ne_of_lt (by omega)), .cell d1'⟩
          · exact ⟨off_nil (Nat.ne_of_lt (by omega)) (Nat.ne_of_lt (by omega)), .cell d2'⟩
          · exact ⟨off_nil (Nat.ne_of_lt (by omega)) (Nat.ne_of_lt (by omega)), .cell d3'⟩
          · exact ⟨off_nil (Nat.ne_of_lt b5) (Nat.ne_of_lt b4), .cell d4'⟩
          · exact ⟨tdo, .of (by rw [dict_cls hdtd']; intro q; cases q)⟩
          · exact ⟨off_nil (Nat.ne_of_gt (ltL _ kin1)) (Nat.ne_of_gt (ltL _ min1)), .of (by intro q; cases q)⟩
      have hBlt : ∀ q ∈ B, q.1 < I3 := fun q hq => ltP q (hBm q hq)
      have ltlk : @LT.lt Nat _ lk I3 := hBlt _ bl
      have htd : ∃ o, (td, o) ∈ B ∧ Kept o := ⟨_, bt, (hBk _ bt).2⟩
      refine comp_led (T := .type "list_iterator") (Walks.list (prog := PP) (w := w) rfl I3 lk (Nat.ne_of_lt ltlk) pvs.toArray) rfl rfl rfl (compTurn_dict1 _ _ _ _ _ _ _ _ _ _)
        (fun i h st => let ⟨o, ho, hc, _⟩ := st.1; ⟨o, ho, hc⟩) (fun j mc N' => WJ w G _ h₀.objs.size B D3 td kv1 kps st v1 j N') (fun j m m' N N' J hI hs _ hC _ => J.step hBlt ltI3 htd hI hC.there hs) rfl rfl (Nat.ne_of_lt (Nat.lt_succ_of_lt ltI3)) (fun q => ?hfC) F₅ N₅ ?hfp (c₅ _) ?hst (wj_start IJ' MJ' tJ' (fun q hq => .tail _ hq) hBm ltP ltI3 hd3 (c₅ _).there) ?turn ?done
      case hfC =>
        rcases List.mem_cons.mp q with q | q
        · exact absurd q (Nat.ne_of_gt (Nat.lt_succ_of_lt ltI3))
        · exact absurd (List.mem_singleton.mp q) (Nat.ne_of_gt (Nat.lt_trans ltlk (Nat.lt_succ_of_lt ltI3)))
      case hfp =>
        intro b hb
        rcases List.mem_cons.mp hb with rfl | hb
        · exact ⟨_, .tail _ (.tail _ (.head _))⟩
        · rw [List.mem_singleton.mp hb]
          exact ⟨_, .tail _ (.tail _ (.tail _ (.head _)))⟩
      case hst => exact ⟨⟨_, N₅.get (.tail _ (.tail _ (.head _))), rfl, rfl⟩, ⟨_, N₅.get (.tail _ (.tail _ (.tail _ (.head _)))), rfl, _, rfl⟩⟩
      case turn =>
        clear F₅ N₅
        intro j v s₂ mm N₂ hj hP2 J2 F₂ NN₂ cn₂ fpt₂ old₂ cI₂ rs₂
        obtain ⟨h₆', tk₆', rfl⟩ := rs₂
        have F₂ : Fr h₀ h₀.objs.size h₆' _ := F₂
        have NN₂ : News h₀ h₀.objs.size h₆' N₂ := NN₂
        obtain ⟨p, u', hp, rfl⟩ := text_at hpv hP2
        clear hP2 c1 c2 c3 c4
        have c1 := J2.base _ bc1
        have c2 := J2.base _ bc2
        have c3 := J2.base _ bc3
        have c4 := J2.base _ bc4
        dsimp only
        refine wpAny_bind ?_
        iterate 4 walk1
        by_cases hps : p = st
        · refine if_no (by rw [hps]; simp) ?_
          subst hps
          exact wpAny_pure ⟨⟨_, _, rfl⟩, _, N₂, F₂, NN₂, cn₂, fun b hb o h => h, J2.skip hp⟩
        · refine if_yes (bne_iff_ne.mpr fun e => hps (txt_inj e)) ?_
          refine wpAny_bind ?_
          iterate 1 walk1
          refine wpAny_bind (wpAny_holding ?_)
          obtain ⟨kv2, mv2, I2, hkg2⟩ := J2.inv
          have hIP2 : IsP p := hk2 p (List.mem_of_getElem? hp)
          obtain ⟨okn2, kin2a, _⟩ := id I2.kin
          obtain ⟨omv2, min2a, _⟩ := id I2.min
          have lt₂ : ∀ r ∈ N₂, @LT.lt Nat _ r.1 h₆'.objs.size := fun r hr => Heap.lt_size (NN₂ r hr).1
          iterate 13 walk1
          refine ⟨X.keeps F₂.keep, ?_⟩
          refine told_walk X T (moves_walk X T) ((caller_room _).le (by have := hIP2.sum_le; omega)) F₂ NN₂ J2.fm I2 hIP2 fun h₇' N₇ kv3 mv3 tk₇' v3 F₇ NN₇ M₇ I₇ g₇ kg₇ kgm₇ is₇ t₇ => ?_
          show wpAny _ _ (standAt _ >>= fun _ => holding _ (dictSet D3 _ _)) _ _ _
          refine wpAny_bind (wpAny_standAt (wpAny_holding ?_))
          have hDoff : D3 ∉ G.off [] := off_nil (Nat.ne_of_gt (Nat.lt_trans (ltP _ (.tail _ kin1)) ltI3)) (Nat.ne_of_gt (Nat.lt_trans (let ⟨_, h, _⟩ := IJ'.min; ltP _ (.tail _ h)) ltI3))
          have hCoff : D3 + 1 ∉ G.off [] := off_nil (Nat.ne_of_gt (Nat.lt_succ_of_lt (Nat.lt_trans (ltP _ (.tail _ kin1)) ltI3))) (Nat.ne_of_gt (Nat.lt_succ_of_lt (Nat.lt_trans (let ⟨_, h, _⟩ := IJ'.min; ltP _ (.tail _ h)) ltI3)))
          have hIoff : I3 ∉ G.off [] := off_nil (Nat.ne_of_gt (ltP _ (.tail _ kin1))) (Nat.ne_of_gt (let ⟨_, h, _⟩ := IJ'.min; ltP _ (.tail _ h)))
          have J3 := J2.grow hBk hDoff M₇ I₇ (hkg2.trans kg₇) g₇
          have cn₇ := cn₂.mono (N' := N₇) fun o h => g₇.stab _ _ h hCoff (let ⟨o', h', k'⟩ := cn₂.there; (News.same NN₂ h h') ▸ k')
          obtain ⟨o3d, kvs3, e1, e2, e3, e4⟩ := J3.dict
          have ksz : kvs3.length ≤ 125 := small_of (dict_nodup e2) fun x v hx => let ⟨q, q1, _, q3, _⟩ := e4 x v hx; ⟨q, hk2 q q1, q3⟩
          refine dset_led F₇ NN₇ e1 e2 (sl_of ksz) fun h₉' o₉' F₉' N₉' hd₉ => ?_
          refine ⟨⟨_, _, rfl⟩, _, _, F₉', N₉', cn₇.mono fun o ho => mem_put ho (Nat.succ_ne_self D3), fun b hb o ho => ?_, J3.store (fun q hq => Nat.ne_of_lt (Nat.lt_trans (hBlt q hq) ltI3)) htd cn₇.there hp hps e3 e4 t₇ hd₉⟩
          rcases List.mem_cons.mp hb with rfl | hb
          · exact mem_put (g₇.stab _ _ ho hIoff (.of (by rw [cI₂ o ho]; intro q; cases q))) (Nat.ne_of_lt ltI3)
          · obtain rfl := List.mem_singleton.mp hb
            exact mem_put (g₇.stab _ _ ho (hBk _ bl).1 (News.same NN₂ (J2.base _ bl) ho ▸ (hBk _ bl).2)) (Nat.ne_of_lt (Nat.lt_trans ltlk ltI3))
      case done =>
        clear F₅ N₅
        intro s₂ mm N₂ J2 F₂ NN₂ cn₂ rs₂
        obtain ⟨h₆', tk₆', rfl⟩ := rs₂
        refine ⟨mm, cn₂.ns NN₂, fun h₇' hs₇ => ?_⟩
        have F₂ : Fr h₀ h₀.objs.size h₆' _ := F₂
        have NN₂ : News h₀ h₀.objs.size h₆' N₂ := NN₂
        have hJe : pvs.toArray.size = kps.length := by rw [List.size_toArray, StrsAre.length hpv, List.length_map]
        rw [hJe] at J2
        obtain ⟨oc', hc', _⟩ := id cn₂.there
        have hC3 := (NN₂ _ hc').2
        have F₇' : Fr h₀ h₀.objs.size h₇' _ := F₂.change hs₇ hC3.1 hC3.2
        have N₇' : News h₀ h₀.objs.size h₇' (N₂.filter fun q => !(q.1 == D3 + 1)) := fun q hq => by
          obtain ⟨h1, h2⟩ := List.mem_filter.mp hq
          have hne : q.1 ≠ D3 + 1 := by simpa using h2
          exact ⟨(hs₇.2 _ hne).trans (NN₂ q h1).1, (NN₂ q h1).2⟩
        have upf : ∀ q, q ∈ N₂ → q.1 ≠ D3 + 1 → q ∈ N₂.filter fun q => !(q.1 == D3 + 1) := fun q h1 hne => List.mem_filter.mpr ⟨h1, by simpa using hne⟩
        generalize (N₂.filter fun q => !(q.1 == D3 + 1)) = NF at *
        clear F₂
        clear c1 c2 c3 c4
        obtain ⟨o3d, kvs3, e1, e2, e3, e4, e5, e6⟩ := told_all J2 hk3
        obtain ⟨kvF, mvF, IF, hkgF⟩ := J2.inv
        have hltD : ∀ q ∈ B, @LT.lt Nat _ q.1 D3 := fun q hq => Nat.lt_trans (hBlt q hq) ltI3
        have mBF : ∀ q ∈ B, q ∈ NF := fun q hq => upf q (J2.base q hq) (Nat.ne_of_lt (Nat.lt_succ_of_lt (hltD q hq)))
        have upA : ∀ a o, (a, o) ∈ N₂ → a ∉ [D3, D3 + 1, td] → (a, o) ∈ NF := fun a o h hne => upf _ h fun e => hne (by rw [show a = D3 + 1 from e]; exact .tail _ (.head _))
        have hD3F := upf _ e1 (Nat.ne_of_lt (Nat.lt_succ_self _))
        generalize hps : (st :: kps.filter fun p => decide (p ≠ st)) = ps at *
        have hpsP : ∀ p ∈ ps, IsP p ∧ (valueAt kv1 (txt p)).isSome = true := fun p hp => by
          have : p ∈ kps := by
            rw [← hps] at hp
            rcases List.mem_cons.mp hp with rfl | hp
            · exact hk4
            · exact (List.mem_filter.mp hp).1
          exact ⟨hk2 p this, hk6 p this⟩
        have hcl : ∀ p ∈ ps, nim G.g p = 0 → ∀ q ∈ mvs G.lw p, q ∈ ps := fun p hp h0 q hq => by
          have : p ∈ kps := by
            rw [← hps] at hp
            rcases List.mem_cons.mp hp with rfl | hp
            · exact hk4
            · exact (List.mem_filter.mp hp).1
          have hq2 := hk5 p this h0 q hq
          rw [← hps]
          by_cases e : q = st
          · rw [e]; exact .head _
          · exact .tail _ (List.mem_filter.mpr ⟨hq2, by simpa using e⟩)
        have hlps : kvs3.length + 1 = ps.length := by
          have := congrArg List.length e4
          rw [List.length_map, List.length_map] at this
          simpa using this
        have hps125 : ps.length ≤ 125 := by
          have := len_of_sub (ps.map txt) allPl (map_txt_nodup e5) (fun x hx => by
            obtain ⟨p, hp, rfl⟩ := List.mem_map.mp hx
            exact mem_allPl (hpsP p hp).1)
          rwa [List.length_map, allPl_len] at this
        clear J2 F₂ NN₂ cn₂
        show wpAny _ _ (spliced _) _ _ _
        dsimp only
        iterate 1 walk1
        refine upd_led F₇' N₇' (mBF _ bt) hdtd' hD3F e2 lo3 (Nat.ne_of_lt (hltD _ bt)) (by have h1 := stored_len (kvs := []) (x := txt st) (v := v1); rw [sizeLine_eq]; simp only [List.length_nil] at h1; omega) fun hU otU FU NU hdU => ?_
        rw [e3] at hdU
        have c4 := mem_put (d := td) (o'' := otU) (mBF _ bc4) (Nat.ne_of_lt (Nat.lt_trans b5 t1))
        have c3 := mem_put (d := td) (o'' := otU) (mBF _ bc3) (Nat.ne_of_lt (by omega))
        have c2 := mem_put (d := td) (o'' := otU) (mBF _ bc2) (Nat.ne_of_lt (by omega))
        have c1 := mem_put (d := td) (o'' := otU) (mBF _ bc1) (Nat.ne_of_lt (by omega))
        have ctU : (td, otU) ∈ putAt td otU NF := .head _
        have hsU : ∀ a o, (a, o) ∈ N₂ → a ∉ [D3, D3 + 1, td] → (a, o) ∈ putAt td otU NF := fun a o h hne => mem_put (upA a o h hne) fun e => hne (by rw [e]; exact .tail _ (.tail _ (.head _)))
        generalize putAt td otU NF = NG2 at *
        clear F₇' N₇'
        dsimp only
        iterate 18 walk1
        refine list_keys rfl FU NU ctU hdU lotd (sl_of (by rw [List.length_cons]; omega)) fun pl cp hV tkV qvs FV NV ltV hqv => ?_
        rw [e4] at hqv
        clear FU NU
        dsimp only
        iterate 1 walk1
        refine ⟨X.keeps FV.keep, ?_⟩
        have DI := due_in IF hkgF (fun a o h hne => .tail (pl, W.listOf qvs.toArray cp) (hsU a o h hne)) hpsP (.head _) hqv hps125
        refine due_walk X T rfl (caller_room _).depth FV NV hW hG5 DI hcl fun hX tkX dD odD kdD NX upX FX NX' mdD lodD hdD hkD hiD => ?_
        dsimp only
        have hitX : ∀ x v, (x, v) ∈ (txt st, v1) :: kvs3 → ∃ p ∈ ps, x = txt p ∧ ToldOK w G (G.off [D3, D3 + 1, td]) NX p v := fun x v hx => by
          obtain ⟨p, r1, r2, r3⟩ := e6 x v hx
          exact ⟨p, r1, r2, r3.mono fun a o y _ => ⟨upX _ (.tail _ (hsU a o y.1 fun e => y.2 (.tail _ (.tail _ e)))), y.2⟩⟩
        have hkk : ((txt st, v1) :: kvs3).map (·.1) = kdD.map (·.1) := by rw [e4, hkD, keyed_nodup _ (map_txt_nodup e5)]
        refine dict_eq (w := w) lotd lodD (kda_dict NX' (upX _ (.tail _ ctU)) hdU) (kda_dict NX' mdD hdD) (by rw [← List.length_map (f := (·.1)), hkk, List.length_map]) (caller_room _).units (tables_hit NX' (caller_u1 _) (caller_u2 _) hitX hdD hkk hiD) ?_
        show GoodW _ _ _ _ _ (.ok (.ret (.bool true))) _
        exact goodW_bool FX hgens (law_raises _) (law_post _))
end Mine
end
theorem PySem.Challenge.cw_kl0453_01_holds : PySem.Challenge.rw_kl0453_01.Holds :=
  Mine.lawp
