import PyProof.Rows.All
import Wide.All
import OpenK.AllK
import Wide.FinOn
import Lean
import PySem.Challenge.RW_hi0002_01
open PySem PySem.W PyProof.Rows PySem.Calls
set_option Elab.async false
set_option maxRecDepth 100000
set_option maxHeartbeats 8000000
namespace Mine
open_top hd for PySem.Challenge.rw_hi0002_01
end Mine
/- part P0 -/
section
namespace Mine
def bitsN (x : Int) : Nat → List Int
  | 0 => []
  | n + 1 => x % 2 :: bitsN (x / 2) n

theorem bitsN_length : ∀ (n : Nat) (x : Int), (bitsN x n).length = n
  | 0, _ => rfl
  | n + 1, x => by simp [bitsN, bitsN_length n]

theorem bitsN_add : ∀ (s n : Nat) (x : Int), bitsN x (s + n) = bitsN (x % 2 ^ s) s ++ bitsN (x / 2 ^ s) n
  | 0, n, x => by simp [bitsN]
  | s + 1, n, x => by
    have e : s + 1 + n = (s + n) + 1 := by omega
    rw [e]
    show x % 2 :: bitsN (x / 2) (s + n) = _
    rw [bitsN_add s n (x / 2)]
    have hp : (2 : Int) ^ (s + 1) = 2 * 2 ^ s := by rw [Int.pow_succ, Int.mul_comm]
    have hpos : (0 : Int) < 2 ^ s := Int.pow_pos (by decide)
    have h1 : x % 2 ^ (s + 1) % 2 = x % 2 := Int.emod_emod_of_dvd x ⟨2 ^ s, hp⟩
    have h2 : x % 2 ^ (s + 1) / 2 = x / 2 % 2 ^ s := by
      have a1 := Int.mul_ediv_add_emod x (2 ^ (s + 1))
      have a2 := Int.mul_ediv_add_emod (x / 2) (2 ^ s)
      have a3 : x / 2 / 2 ^ s = x / 2 ^ (s + 1) := by rw [hp, Int.ediv_ediv_of_nonneg (by decide)]
      have a4 := Int.emod_lt_of_pos (x / 2) hpos
      have a5 := Int.emod_nonneg (x / 2) (Int.ne_of_gt hpos)
      rw [a3] at a2
      have a6 : 2 ^ (s + 1) * (x / 2 ^ (s + 1)) = 2 * (2 ^ s * (x / 2 ^ (s + 1))) := by rw [hp, Int.mul_assoc]
      generalize hq : (2 : Int) ^ s * (x / 2 ^ (s + 1)) = q at *
      rw [a6] at a1
      omega
    have h3 : x / 2 / 2 ^ s = x / 2 ^ (s + 1) := by rw [hp, Int.ediv_ediv_of_nonneg (by decide)]
    show _ = (x % 2 ^ (s + 1) % 2 :: bitsN (x % 2 ^ (s + 1) / 2) s) ++ bitsN (x / 2 ^ (s + 1)) n
    rw [h1, h2, h3]
    rfl

theorem and_high (a s : Nat) : a &&& (a / 2 ^ s * 2 ^ s) = a / 2 ^ s * 2 ^ s := by
  apply Nat.eq_of_testBit_eq
  intro i
  rw [Nat.testBit_and, Nat.testBit_mul_two_pow, Nat.testBit_div_two_pow]
  by_cases h : s ≤ i
  · rw [show i - s + s = i by omega]
    simp [h]
  · simp [h]

theorem xor_low (x : Int) (s : Nat) (h : 0 ≤ x) : Builtin.bitXor x (Int.fdiv x (2 ^ s) * 2 ^ s) = x % 2 ^ s := by
  rw [bitXor_and]
  have hpos : (0 : Int) < 2 ^ s := Int.pow_pos (by decide)
  have e0 : Int.fdiv x (2 ^ s) = x / 2 ^ s := Int.fdiv_eq_ediv_of_nonneg _ (Int.le_of_lt hpos)
  rw [e0]
  have hy : 0 ≤ x / 2 ^ s * 2 ^ s := Int.mul_nonneg (Int.ediv_nonneg h (Int.le_of_lt hpos)) (Int.le_of_lt hpos)
  have e1 : Builtin.bitAnd x (x / 2 ^ s * 2 ^ s) = x / 2 ^ s * 2 ^ s := by
    unfold Builtin.bitAnd
    rw [decide_eq_true h, decide_eq_true hy]
    obtain ⟨a, rfl⟩ := Int.eq_ofNat_of_zero_le h
    have e2 : ((a : Int) / 2 ^ s * 2 ^ s) = ((a / 2 ^ s * 2 ^ s : Nat) : Int) := by
      rw [Int.natCast_mul, Int.natCast_ediv]; simp
    rw [e2]
    simp only [Int.toNat_natCast]
    exact congrArg _ (and_high a s)
  rw [e1]
  have := Int.mul_ediv_add_emod x (2 ^ s)
  rw [Int.mul_comm] at this
  omega
theorem pow2_le {a b : Nat} (h : a ≤ b) : (2 : Int) ^ a ≤ 2 ^ b := by
  have h1 : (2 : Nat) ^ a ≤ 2 ^ b := Nat.pow_le_pow_right (by decide) h
  have h2 : ((2 ^ a : Nat) : Int) ≤ ((2 ^ b : Nat) : Int) := Int.ofNat_le.mpr h1
  simpa using h2
theorem put_length (ns bs : List Int) (l mid : Nat) (h1 : l ≤ mid) (h2 : mid ≤ ns.length) (hb : bs.length = mid - l) : (ns.take l ++ bs ++ ns.drop mid).length = ns.length := by
  simp only [List.length_append, List.length_take, List.length_drop, hb]
  omega
theorem two_puts (ns bs cs : List Int) (l mid r : Nat) (h1 : l ≤ mid) (h2 : mid ≤ r) (h3 : r ≤ ns.length) (hb : bs.length = mid - l) :
    (ns.take l ++ bs ++ ns.drop mid).take mid ++ cs ++ (ns.take l ++ bs ++ ns.drop mid).drop r = ns.take l ++ (bs ++ cs) ++ ns.drop r := by
  have e : (ns.take l ++ bs).length = mid := by
    simp only [List.length_append, List.length_take, hb]; omega
  have e1 : (ns.take l ++ bs ++ ns.drop mid).take mid = ns.take l ++ bs := List.take_left' e
  have e2 : (ns.take l ++ bs ++ ns.drop mid).drop r = ns.drop r := by
    have e3 : r = mid + (r - mid) := by omega
    rw [e3, ← List.drop_drop, List.drop_left' e, List.drop_drop]
  rw [e1, e2]
  simp only [List.append_assoc]
theorem bits_halves (x l r : Int) (h0 : 0 ≤ l) (h1 : l + 1 < r) (hx : 0 ≤ x) :
    bitsN (x % 2 ^ ((l + r) / 2 - l).toNat) ((l + r) / 2 - l).toNat ++ bitsN (x / 2 ^ ((l + r) / 2 - l).toNat) (r - (l + r) / 2).toNat = bitsN x (r - l).toNat := by
  rw [← bitsN_add]
  congr 1
  omega
theorem high_lt (x : Int) (a b : Nat) (h : x < 2 ^ (a + b)) : x / 2 ^ a < 2 ^ b := by
  have hp : (0 : Int) < 2 ^ a := Int.pow_pos (by decide)
  rw [Int.pow_add, Int.mul_comm] at h
  exact Int.ediv_lt_of_lt_mul hp h
def valN : List Int → Int
  | [] => 0
  | d :: r => d + 2 * valN r
theorem valN_append : ∀ (a b : List Int), valN (a ++ b) = valN a + 2 ^ a.length * valN b
  | [], b => by simp [valN]
  | d :: a, b => by
    have e : (2 : Int) ^ (a.length + 1) = 2 * 2 ^ a.length := by rw [Int.pow_succ, Int.mul_comm]
    rw [List.cons_append, valN, valN, valN_append a b, List.length_cons, e]
    rw [Int.mul_add, ← Int.mul_assoc, Int.add_assoc]
theorem valN_nonneg : ∀ (a : List Int), (∀ d ∈ a, 0 ≤ d ∧ d ≤ 1) → 0 ≤ valN a ∧ valN a < 2 ^ a.length
  | [], _ => by simp [valN]
  | d :: a, h => by
    have h1 := h d List.mem_cons_self
    have h2 := valN_nonneg a fun x hx => h x (List.mem_cons_of_mem _ hx)
    have e : (2 : Int) ^ (a.length + 1) = 2 * 2 ^ a.length := by rw [Int.pow_succ, Int.mul_comm]
    rw [valN, List.length_cons, e]
    omega
/-- the figures from place l to place r -/
def seg (ns : List Int) (l r : Int) : List Int := (ns.drop l.toNat).take (r - l).toNat
theorem seg_length {ns : List Int} {l r : Int} (h0 : 0 ≤ l) (h1 : l ≤ r) (h2 : r ≤ ns.length) : (seg ns l r).length = (r - l).toNat := by
  simp only [seg, List.length_take, List.length_drop]; omega
theorem seg_split {ns : List Int} {l k r : Int} (h0 : 0 ≤ l) (h1 : l ≤ k) (h2 : k ≤ r) : seg ns l r = seg ns l k ++ seg ns k r := by
  unfold seg
  have e : (r - l).toNat = (k - l).toNat + (r - k).toNat := by omega
  rw [e, List.take_add, List.drop_drop]
  congr 3
  omega
theorem seg_one {ns : List Int} {l r : Int} (h0 : 0 ≤ l) (h1 : l + 1 = r) (h2 : r ≤ ns.length) : valN (seg ns l r) = ns.getD l.toNat 0 := by
  unfold seg
  have e : (r - l).toNat = 1 := by omega
  have hlt : l.toNat < ns.length := by omega
  have h4 : ∀ (zs : List Int) (i : Nat) (hl : i < zs.length), valN ((zs.drop i).take 1) = zs.getD i 0 := by
    intro zs i hl
    rw [List.drop_eq_getElem_cons hl]
    show valN [zs[i]] = _
    rw [List.getD_eq_getElem?_getD, List.getElem?_eq_getElem hl]
    show zs[i] + 2 * 0 = zs[i]
    omega
  rw [e]
  exact h4 ns _ hlt
theorem seg_mem {ns : List Int} {l r d : Int} (h : d ∈ seg ns l r) : d ∈ ns := List.mem_of_mem_drop (List.mem_of_mem_take h)
theorem seg_all (ns : List Int) : seg ns 0 ns.length = ns := by
  unfold seg
  simp
/-- the figures of a lot, one at each number's place -/
def figs (ns : List Int) (k : Nat) : List Int := ns.foldl (fun f n => f.set n.toNat 1) (List.replicate k 0)
def mx (ns : List Int) : Int := ns.foldl max 0
/-- the number of a lot of numbers -/
def lotF (ns : List Int) : Int := valN (figs ns (1 + mx ns).toNat)
theorem sets_len (ns f : List Int) : (ns.foldl (fun f n => f.set n.toNat 1) f).length = f.length := by
  induction ns generalizing f with
  | nil => rfl
  | cons a r ih => rw [List.foldl_cons, ih, List.length_set]
theorem sets_bits (ns : List Int) : ∀ f : List Int, (∀ d ∈ f, 0 ≤ d ∧ d ≤ 1) → ∀ d ∈ ns.foldl (fun f n => f.set n.toNat 1) f, 0 ≤ d ∧ d ≤ 1 := by
  induction ns with
  | nil => intro f h; exact h
  | cons a r ih =>
    intro f h
    refine ih _ fun d hd => ?_
    rcases List.mem_or_eq_of_mem_set hd with hd | hd
    · exact h d hd
    · subst hd; exact ⟨by decide, by decide⟩
theorem figs_bits (ns : List Int) (k : Nat) : ∀ d ∈ figs ns k, 0 ≤ d ∧ d ≤ 1 :=
  sets_bits ns _ fun d hd => by rw [List.eq_of_mem_replicate hd]; exact ⟨by decide, by decide⟩
theorem figs_len (ns : List Int) (k : Nat) : (figs ns k).length = k := by rw [figs, sets_len, List.length_replicate]
theorem foldl_max_ge (ns : List Int) : ∀ z : Int, z ≤ ns.foldl max z ∧ ∀ a ∈ ns, a ≤ ns.foldl max z := by
  induction ns with
  | nil => intro z; exact ⟨Int.le_refl _, fun a h => nomatch h⟩
  | cons b r ih =>
    intro z
    obtain ⟨h1, h2⟩ := ih (max z b)
    refine ⟨Int.le_trans (Int.le_max_left z b) h1, fun a ha => ?_⟩
    rcases List.mem_cons.mp ha with rfl | ha
    · exact Int.le_trans (Int.le_max_right z a) h1
    · exact h2 a ha
theorem foldl_max_mem (ns : List Int) : ∀ z : Int, ns.foldl max z = z ∨ ns.foldl max z ∈ ns := by
  induction ns with
  | nil => intro z; exact .inl rfl
  | cons b r ih =>
    intro z
    rcases ih (max z b) with h | h
    · rw [List.foldl_cons, h]
      rcases Int.le_total z b with q | q
      · rw [Int.max_eq_right q]; exact .inr List.mem_cons_self
      · rw [Int.max_eq_left q]; exact .inl rfl
    · exact .inr (List.mem_cons_of_mem _ h)
theorem mx_is {ns : List Int} {M : Int} (a : M ∈ [0] ++ ns) (b : ∀ x ∈ [0] ++ ns, x ≤ M) : M = mx ns := by
  obtain ⟨h1, h2⟩ := foldl_max_ge ns 0
  refine Int.le_antisymm ?_ ?_
  · rcases List.mem_append.mp a with h | h
    · rw [List.mem_singleton.mp h]; exact h1
    · exact h2 M h
  · rcases foldl_max_mem ns 0 with h | h
    · exact (show mx ns = 0 from h) ▸ b 0 (by simp)
    · exact b _ (List.mem_append_right _ h)
/-- how many are less -/
def bisF (ns : List Int) (x : Int) : Int := ((ns.filter fun a => decide (a < x)).length : Nat)
theorem bisF_is {ns : List Int} {x : Int} {k : Nat} (hk : k ≤ ns.length) (h1 : ∀ i, i < k → ns.getD i 0 < x) (h2 : ∀ i, k ≤ i → i < ns.length → x ≤ ns.getD i 0) : bisF ns x = (k : Int) := by
  have e : ns = ns.take k ++ ns.drop k := (List.take_append_drop k ns).symm
  have a1 : (ns.take k).filter (fun a => decide (a < x)) = ns.take k := by
    rw [List.filter_eq_self]
    intro a ha
    obtain ⟨i, hi, rfl⟩ := List.getElem_of_mem ha
    rw [List.length_take] at hi
    have := h1 i (by omega)
    rw [List.getD_eq_getElem?_getD, List.getElem?_eq_getElem (by omega)] at this
    simpa using this
  have a2 : (ns.drop k).filter (fun a => decide (a < x)) = [] := by
    rw [List.filter_eq_nil_iff]
    intro a ha
    obtain ⟨i, hi, rfl⟩ := List.getElem_of_mem ha
    rw [List.length_drop] at hi
    have := h2 (k + i) (by omega) (by omega)
    rw [List.getD_eq_getElem?_getD, List.getElem?_eq_getElem (by omega)] at this
    simp only [Option.getD_some] at this
    rw [List.getElem_drop]
    simp only [decide_eq_true_eq]
    omega
  have a3 : ns.filter (fun a => decide (a < x)) = ns.take k := by
    conv => lhs; rw [e, List.filter_append, a1, a2, List.append_nil]
  rw [bisF, a3, List.length_take, Nat.min_eq_left hk]
/-- laid in order -/
def Upw (ns : List Int) : Prop := ∀ i j, i ≤ j → j < ns.length → ns.getD i 0 ≤ ns.getD j 0
end Mine

end
/- part A1 -/
section
namespace Mine

theorem int_at {Q : Value → Shared → Prop} {a b : Int} {t : Tok} {s : Shared} (e : a = b) (h : Q (.int a t) s) : Q (.int b t) s := e ▸ h

/-- what stands around a frame: the caller's frame, the written part, the top's facts -/
structure Cx (K : Frag) (p : Program) (loose : List Str) (mean : ExcName → Option Value) (mg mb : Str → Option Value) (A : Around) (h₀ : Heap) (L : Addr) : Prop where
  hh : A.handled = none
  fr : ∃ env outer A₀ base, A.frames = some (env :: outer) ∧ env.frame = some L ∧ env.scope.kind = .function ∧ Below A₀ base outer h₀
  X : K.In h₀
  T : Top p loose mean mg mb h₀
  CA : CodeHd h₀ 20 16
  CB : CodeHd h₀ 27 23

theorem Cx.into {K : Frag} {p : Program} {loose : List Str} {mean : ExcName → Option Value} {mg mb : Str → Option Value} {A : Around} {base h₀ g : Heap} {env : Env} {outer : List Env} {qual : Str} {scope : Scope} {L L' f : Addr} {cdv : Value} {cl : List (Str × Addr)}
    (c : Cx K p loose mean mg mb A h₀ L) (st : h₀.StaysIn g) (hA : A.frames = some (env :: outer)) (B : Below A base (env :: outer) g) (hk : scope.kind = .function) : Cx K p loose mean mg mb (A.deeper (envX qual scope L' f cdv cl)) g L' :=
  ⟨c.hh, ⟨envX qual scope L' f cdv cl, env :: outer, A, base, by simp [Around.deeper, hA], rfl, hk, B⟩, fun b o e => st b o (c.X b o e), c.T.keeps st, c.CA.keeps st, c.CB.keeps st⟩

section
variable {prog : Program} {w : World} {K : Frag} {p : Program} {loose : List Str} {mean : ExcName → Option Value} {mg mb : Str → Option Value}
  {A : Around} {E : Value → Shared → Prop} {s : Shared} {h₀ : Heap} {L : Addr} {m : Str → Option Value} {Q : Value → Shared → Prop}
  {name qual : Str} {params : Arguments} {body : List Stmt} {scope : Scope} {cl : List (Str × Addr)} {dV kV doc pm cdv ct : Value} {an : Option Addr} {fo : Obj} {f : Addr} {args : List Value} {binds : List (Str × Value)} {nw others : List (Addr × Obj)}

/-- what a call hands back, told of the ledger's untouched rows too -/
abbrev Back (h₀ : Heap) (L : Addr) (others : List (Addr × Obj)) (Q : Value → Shared → Prop) (E : Value → Shared → Prop) : Result → Shared → Prop :=
  fun r s' => News h₀ L s'.heap others → match r with | .ok (.ret v) => Q v s' | .ok _ => False | .error e => E e s'

theorem ground (c : Cx K p loose mean mg mb A h₀ L) (F : Fr h₀ L s.heap m) (N : News h₀ L s.heap (nw ++ others)) (dis : ∀ q ∈ others, q.1 ∉ nw.map (·.1)) :
    ∃ g, g.objs.size = s.heap.objs.size ∧ GSub s.heap g (nw.map (·.1)) ∧ (∀ b o, g.get? b = some o → s.heap.get? b = some o) ∧ (∀ q ∈ nw, g.get? q.1 = none) ∧ h₀.StaysIn g ∧
      (∀ env' : Env, Cx K p loose mean mg mb (A.deeper env') h₀ L → True) ∧
      (∃ env outer A₀ base, A.frames = some (env :: outer) ∧ Below A₀ base outer h₀ ∧ Below A base (env :: outer) g) ∧
      ∀ L' s' v, g.objs.size ≤ L' → LeaveK h₀ L m g (Back h₀ L others Q E) v s' → Q v s' := by
  obtain ⟨hh, ⟨env, outer, A₀, base, hA, hf, hke, B⟩, X, T, -, -⟩ := c
  have N1 : News h₀ L s.heap nw := fun q hq => N q (List.mem_append_left _ hq)
  obtain ⟨FG, BG, st, lv⟩ := groundX (R := Back h₀ L others Q E) B F N1 hA hf hke
  refine ⟨hideAll s.heap (nw.map (·.1)), hideAll_size _ _, fun b o e n => hideAll_get _ e n, fun b o e => of_hideAll _ e, fun q hq => hideAll_none _ (List.mem_map_of_mem hq), st, fun _ _ => trivial, ⟨env, outer, A₀, base, hA, B, BG⟩, ?_⟩
  intro L' s' v _ hl
  refine lv v s' hl ?_
  obtain ⟨L₁, m₁, n₁, F₁, -, -⟩ := hl
  intro q hq
  obtain ⟨a1, a2, a3⟩ := N q (List.mem_append_right _ hq)
  exact ⟨F₁.keep _ _ (hideAll_get _ a1 (dis q hq)), a2, a3⟩

/-- the call of a def without cells: entered over a part of the ledger, the rest laid into the ground -/
theorem enter_plain (c : Cx K p loose mean mg mb A h₀ L) (F : Fr h₀ L s.heap m) (N : News h₀ L s.heap (nw ++ others)) (dis : ∀ q ∈ others, q.1 ∉ nw.map (·.1))
    (ho : s.heap.get? f = some fo) (hd : fo.data = .func (fnX name qual params body scope cl dV kV doc pm an cdv ct)) (hcd : s.heap.CodeRec cdv qual) (hroom : A.depth < recursionLimit)
    (hbind : BindsTo s (fnX name qual params body scope cl dV kV doc pm an cdv ct) ⟨args, []⟩ binds) (hloc : ∀ y ∈ binds, scope.names.lookup y.1 = some .local)
    (h : ∀ g L' h₁ env outer A₀ base, A.frames = some (env :: outer) → Below A₀ base outer h₀ → Cx K p loose mean mg mb (A.deeper (envX qual scope L' f cdv cl)) g L' → Fr g L' h₁ (fun y => binds.reverse.lookup y) → News g L' h₁ nw → Below A base (env :: outer) g → K.In g → Top p loose mean mg mb g → GSub s.heap g (nw.map (·.1)) → h₀.StaysIn g → (∀ q ∈ nw ++ others, q.1 < L') → L < L' →
      wpAny (model prog w) (A.deeper (envX qual scope L' f cdv cl)) (execs body (envX qual scope L' f cdv cl))
        (fun fl s' => LeaveK h₀ L m g (Back h₀ L others Q E) (match fl with | .ret v => v | _ => .none) s')
        (fun e s' => wpAny (model prog w) (A.deeper (envX qual scope L' f cdv cl)) (leaving (envX qual scope L' f cdv cl) e) (fun _ s'' => E e s'') (fun e' s'' => E e' s'') s')
        { s with heap := h₁, toks := s.toks + binds.length })
    (hcell : ∀ x ∈ scope.names, x.2 ≠ .cell) (hco : scope.isCoroutine = false := by rfl) (hgen : scope.isGenerator = false := by rfl) (hk : scope.kind = .function := by rfl) :
    wpAny (model prog w) A (call (.ref f) args) Q E s := by
  obtain ⟨g, hsz, sub, old, hid, st, -, ⟨env, outer, A₀, base, hA, B, BG⟩, lv⟩ := ground (Q := Q) (E := E) c F N dis
  refine wpAny_call (codeAny_call_def (fd := fnX name qual params body scope cl dV kV doc pm an cdv ct) (body := body) (binds := binds) hroom ho hd (c.T.nolimit.keeps F.keep) hcd rfl hbind hcell hloc (fun h₁ hns hk₁ => ?_) hco hgen hk)
  exact wpAny_mono (h g s.heap.objs.size h₁ env outer A₀ base hA B (c.into st hA BG hk) ⟨hns, fun b o e => hk₁ b o (old b o e), Nat.le_of_eq hsz⟩
    (fun q hq => ⟨hk₁ _ _ (N q (List.mem_append_left _ hq)).1, Nat.ne_of_lt (Heap.lt_size (N q (List.mem_append_left _ hq)).1), hid q hq⟩) BG (fun b o e => st b o (c.X b o e)) (c.T.keeps st) sub st
    (fun q hq => Heap.lt_size (N q hq).1) F.ns.lt) (fun fl s' hl => lv s.heap.objs.size s' _ (Nat.le_of_eq hsz) hl) fun _ _ y => y

/-- the same, of a def with cells -/
theorem enter_cells (c : Cx K p loose mean mg mb A h₀ L) (F : Fr h₀ L s.heap m) (N : News h₀ L s.heap (nw ++ others)) (dis : ∀ q ∈ others, q.1 ∉ nw.map (·.1))
    (ho : s.heap.get? f = some fo) (hd : fo.data = .func (fnX name qual params body scope [] dV kV doc pm an cdv ct)) (hcd : s.heap.CodeRec cdv qual) (hroom : A.depth < recursionLimit)
    (hbind : BindsTo s (fnX name qual params body scope [] dV kV doc pm an cdv ct) ⟨args, []⟩ binds) (hkind : (binds.all fun y => scope.names.lookup y.1 == some .local || scope.names.lookup y.1 == some .cell) = true)
    (hnd : ((cellsFrom 0 scope.names []).map (·.1)).Nodup)
    (h : ∀ g L' h₁ tk cells env outer A₀ base, A.frames = some (env :: outer) → Below A₀ base outer h₀ → Cx K p loose mean mg mb (A.deeper (envOfC qual scope L' f cdv)) g L' → Fr g L' h₁ (bindL (envOfC qual scope L' f cdv).kindOf binds fun _ => none) → News g L' h₁ (cells ++ nw) → CellsAre (bindC (envOfC qual scope L' f cdv).kindOf binds fun _ => none) (cellsFrom (L' + 1) scope.names []) cells →
      Below A base (env :: outer) g → K.In g → Top p loose mean mg mb g → GSub s.heap g (nw.map (·.1)) → h₀.StaysIn g → (∀ q ∈ nw ++ others, q.1 < L') → L < L' →
      wpAny (model prog w) (A.deeper (envOfC qual scope L' f cdv)) (execs body (envOfC qual scope L' f cdv))
        (fun fl s' => LeaveK h₀ L m g (Back h₀ L others Q E) (match fl with | .ret v => v | _ => .none) s')
        (fun e s' => wpAny (model prog w) (A.deeper (envOfC qual scope L' f cdv)) (leaving (envOfC qual scope L' f cdv) e) (fun _ s'' => E e s'') (fun e' s'' => E e' s'') s')
        { s with heap := h₁, toks := tk })
    (hco : scope.isCoroutine = false := by rfl) (hgen : scope.isGenerator = false := by rfl) (hk : scope.kind = .function := by rfl) :
    wpAny (model prog w) A (call (.ref f) args) Q E s := by
  obtain ⟨g, hsz, sub, old, hid, st, -, ⟨env, outer, A₀, base, hA, B, BG⟩, lv⟩ := ground (Q := Q) (E := E) c F N dis
  refine wpAny_call (codeAny_call_function hroom ho hd hco hgen rfl hcd (hbind _ _ _ _ ?_))
  refine wpAny_newFunctionEnv_cells hk (kindsX hkind _) fun env' he s' x => ?_
  subst he
  refine ⟨(c.T.nolimit.keeps F.keep).keeps x.toInCall.keep, codeAny_func ?_⟩
  obtain ⟨h₁, tk, rfl, _⟩ := x.done
  have hk₁ := x.toInCall.keep
  have hup : g.objs.size ≤ s.heap.objs.size := Nat.le_of_eq hsz
  obtain ⟨cells, NC, Y⟩ := Cl.news (h₀ := g) hup fun n c hm => ⟨x.cell n c (lookup_of_mem_nodup (cellsFrom_names scope.names 0 (s.heap.objs.size + 1) [] [] rfl ▸ hnd) hm), x.above n c hm⟩
  refine wpAny_mono (h g s.heap.objs.size h₁ tk cells env outer A₀ base hA B (c.into st hA BG hk) ⟨x.toInCall.ns, fun b o e => hk₁ b o (old b o e), hup⟩ (fun q hq => ?_) Y BG (fun b o e => st b o (c.X b o e)) (c.T.keeps st) sub st
    (fun q hq => Heap.lt_size (N q hq).1) F.ns.lt) (fun fl s' hl => lv s.heap.objs.size s' _ hup hl) fun _ _ y => y
  rcases List.mem_append.mp hq with hq | hq
  · exact NC q hq
  · exact ⟨hk₁ _ _ (N q (List.mem_append_left _ hq)).1, Nat.ne_of_lt (Heap.lt_size (N q (List.mem_append_left _ hq)).1), hid q hq⟩

theorem enterK_plain {oc : Value} {od : Option Addr} {osl : Array (Option Value)} (c : Cx K p loose mean mg mb A h₀ L) (F : Fr h₀ L s.heap m) (N : News h₀ L s.heap (nw ++ others)) (dis : ∀ q ∈ others, q.1 ∉ nw.map (·.1))
    (hl : K.lookup f = some ⟨oc, od, .func (fnX name qual params body scope cl dV kV doc pm an cdv ct), osl⟩) (hcd : codeIn K cdv qual = true) (hroom : A.depth < recursionLimit)
    (hbind : BindsTo s (fnX name qual params body scope cl dV kV doc pm an cdv ct) ⟨args, []⟩ binds) (hloc : ∀ y ∈ binds, scope.names.lookup y.1 = some .local)
    (h : ∀ g L' h₁ env outer A₀ base, A.frames = some (env :: outer) → Below A₀ base outer h₀ → Cx K p loose mean mg mb (A.deeper (envX qual scope L' f cdv cl)) g L' → Fr g L' h₁ (fun y => binds.reverse.lookup y) → News g L' h₁ nw → Below A base (env :: outer) g → K.In g → Top p loose mean mg mb g → GSub s.heap g (nw.map (·.1)) → h₀.StaysIn g → (∀ q ∈ nw ++ others, q.1 < L') → L < L' →
      wpAny (model prog w) (A.deeper (envX qual scope L' f cdv cl)) (execs body (envX qual scope L' f cdv cl))
        (fun fl s' => LeaveK h₀ L m g (Back h₀ L others Q E) (match fl with | .ret v => v | _ => .none) s')
        (fun e s' => wpAny (model prog w) (A.deeper (envX qual scope L' f cdv cl)) (leaving (envX qual scope L' f cdv cl) e) (fun _ s'' => E e s'') (fun e' s'' => E e' s'') s')
        { s with heap := h₁, toks := s.toks + binds.length })
    (hcell : ∀ x ∈ scope.names, x.2 ≠ .cell) (hco : scope.isCoroutine = false := by rfl) (hgen : scope.isGenerator = false := by rfl) (hk : scope.kind = .function := by rfl) :
    wpAny (model prog w) A (call (.ref f) args) Q E s :=
  enter_plain c F N dis (F.keep _ _ (c.X _ _ hl)) rfl (codeRec_of (fun b o e => F.keep _ _ (c.X b o e)) hcd) hroom hbind hloc h hcell hco hgen hk

theorem enterK_cells {oc : Value} {od : Option Addr} {osl : Array (Option Value)} (c : Cx K p loose mean mg mb A h₀ L) (F : Fr h₀ L s.heap m) (N : News h₀ L s.heap (nw ++ others)) (dis : ∀ q ∈ others, q.1 ∉ nw.map (·.1))
    (hl : K.lookup f = some ⟨oc, od, .func (fnX name qual params body scope [] dV kV doc pm an cdv ct), osl⟩) (hcd : codeIn K cdv qual = true) (hroom : A.depth < recursionLimit)
    (hbind : BindsTo s (fnX name qual params body scope [] dV kV doc pm an cdv ct) ⟨args, []⟩ binds) (hkind : (binds.all fun y => scope.names.lookup y.1 == some .local || scope.names.lookup y.1 == some .cell) = true)
    (hnd : ((cellsFrom 0 scope.names []).map (·.1)).Nodup)
    (h : ∀ g L' h₁ tk cells env outer A₀ base, A.frames = some (env :: outer) → Below A₀ base outer h₀ → Cx K p loose mean mg mb (A.deeper (envOfC qual scope L' f cdv)) g L' → Fr g L' h₁ (bindL (envOfC qual scope L' f cdv).kindOf binds fun _ => none) → News g L' h₁ (cells ++ nw) → CellsAre (bindC (envOfC qual scope L' f cdv).kindOf binds fun _ => none) (cellsFrom (L' + 1) scope.names []) cells →
      Below A base (env :: outer) g → K.In g → Top p loose mean mg mb g → GSub s.heap g (nw.map (·.1)) → h₀.StaysIn g → (∀ q ∈ nw ++ others, q.1 < L') → L < L' →
      wpAny (model prog w) (A.deeper (envOfC qual scope L' f cdv)) (execs body (envOfC qual scope L' f cdv))
        (fun fl s' => LeaveK h₀ L m g (Back h₀ L others Q E) (match fl with | .ret v => v | _ => .none) s')
        (fun e s' => wpAny (model prog w) (A.deeper (envOfC qual scope L' f cdv)) (leaving (envOfC qual scope L' f cdv) e) (fun _ s'' => E e s'') (fun e' s'' => E e' s'') s')
        { s with heap := h₁, toks := tk })
    (hco : scope.isCoroutine = false := by rfl) (hgen : scope.isGenerator = false := by rfl) (hk : scope.kind = .function := by rfl) :
    wpAny (model prog w) A (call (.ref f) args) Q E s :=
  enter_cells c F N dis (F.keep _ _ (c.X _ _ hl)) rfl (codeRec_of (fun b o e => F.keep _ _ (c.X b o e)) hcd) hroom hbind hkind hnd h hco hgen hk
end
theorem ints_zeros (t : Tok) : ∀ n : Nat, IntsAre (List.replicate n (.int 0 t)) (List.replicate n 0)
  | 0 => .nil
  | n + 1 => .cons 0 t (ints_zeros t n)
theorem flat_one (x : Value) : ∀ n : Nat, (List.replicate n [x]).flatten = List.replicate n x
  | 0 => rfl
  | n + 1 => by rw [List.replicate_succ, List.flatten_cons, flat_one x n]; rfl
section
variable {prog : Program} {w : World} {A : Around} {E : Value → Shared → Prop} {s : Shared} {h₀ : Heap} {L : Addr} {m : Str → Option Value} {news : List (Addr × Obj)} {l : Addr} {x : Int} {t u : Tok} {Q : Value → Shared → Prop}
theorem mul_zeros (F : Fr h₀ L s.heap m) (N : News h₀ L s.heap news) (hl : s.heap.IsList l [Value.int 0 t].toArray) (h0 : 0 ≤ x) (h1 : x ≤ 256)
    (h : ∀ D h' vs, Fr h₀ L h' m → News h₀ L h' ((D, listOf vs.toArray 0) :: news) → (∀ q ∈ news, q.1 < D) → IntsAre vs (List.replicate x.toNat 0) → Q (.ref D) { s with heap := h' }) :
    wpAny (model prog w) A (binaryOp .Mult (.ref l) (.int x u)) Q E s :=
  KMa.mul F N hl (by omega) (by omega) (by simp only [List.length_cons, List.length_nil]; omega) (flat_one _ _) fun D h' F' N' l1 => h D h' _ F' N' l1 (ints_zeros t _)
theorem len_ints {D : Addr} {vs : List Value} {ns : List Int} {ep : Nat} (N : News h₀ L s.heap news) (hm : (D, listOf vs.toArray ep) ∈ news) (hi : IntsAre vs ns) (hb : ns.length ≤ 1000000)
    (h : ∀ t tk, Q (.int (ns.length : Nat) t) { s with toks := tk }) : wpAny (model prog w) A (call (.builtin "len") [.ref D]) Q E s :=
  KM.len_K N hm (by rw [List.size_toArray, hi.length]) (by omega) (h _ _)
theorem news_3 {h : Heap} {a b d : Addr × Obj} {r : List (Addr × Obj)} (N : News h₀ L h (a :: b :: d :: r)) : News h₀ L h (d :: a :: b :: r) := fun q hq => by
  simp only [List.mem_cons] at hq
  apply N
  simp only [List.mem_cons]
  rcases hq with h | h | h | h
  · exact .inr (.inr (.inl h))
  · exact .inl h
  · exact .inr (.inl h)
  · exact .inr (.inr (.inr h))
theorem news_2 {h : Heap} {a d : Addr × Obj} {r : List (Addr × Obj)} (N : News h₀ L h (a :: d :: r)) : News h₀ L h (d :: a :: r) := fun q hq => by
  simp only [List.mem_cons] at hq
  apply N
  simp only [List.mem_cons]
  rcases hq with h | h | h
  · exact .inr (.inl h)
  · exact .inl h
  · exact .inr (.inr h)
theorem news_pick3 {h : Heap} {a b d : Addr × Obj} {l others : List (Addr × Obj)} (N : News h₀ L h l) (hN : News h₀ L h others) (ha : a ∈ l) (hb : b ∈ l) (hd : d ∈ l) : News h₀ L h (a :: b :: d :: others) := fun q hq => by
  simp only [List.mem_cons] at hq
  rcases hq with rfl | rfl | rfl | h
  · exact N _ ha
  · exact N _ hb
  · exact N _ hd
  · exact hN _ h
theorem news_pick2 {h : Heap} {a b : Addr × Obj} {l others : List (Addr × Obj)} (N : News h₀ L h l) (hN : News h₀ L h others) (ha : a ∈ l) (hb : b ∈ l) : News h₀ L h (a :: b :: others) := fun q hq => by
  simp only [List.mem_cons] at hq
  rcases hq with rfl | rfl | h
  · exact N _ ha
  · exact N _ hb
  · exact hN _ h
theorem news_pick1 {h : Heap} {a : Addr × Obj} {l others : List (Addr × Obj)} (N : News h₀ L h l) (hN : News h₀ L h others) (ha : a ∈ l) : News h₀ L h (a :: others) := fun q hq => by
  simp only [List.mem_cons] at hq
  rcases hq with rfl | h
  · exact N _ ha
  · exact hN _ h
end
section
variable {M : Model} {A : Around} {E : Value → Shared → Prop} {s : Shared} {h₀ : Heap} {L a c P : Addr} {m mg mb : Str → Option Value} {cn : Str} {cs : Scope} {ccd : Value} {cl : List (Str × Addr)} {news : List (Addr × Obj)}
  {p : Program} {loose : List Str} {mean : ExcName → Option Value} {name qual : Str} {params : Arguments} {body : List Stmt} {scope : Scope} {ps : Array Value} {pos : Pos} {firstLine : Nat} {clos : List (Str × Addr)}
/-- a def made in a body whose code stands already in the table, the table in the ground -/
theorem made_again {Q : Value → Shared → Prop} {c' : Addr} (F : Fr h₀ L s.heap m) (N : News h₀ L s.heap news) (T : Top p loose mean mg mb h₀) (C : CodeHd h₀ c P) (hcd : ccd = .ref c) (hP : h₀.get? P = some (tabObj ps)) (ht : TriplesOk ps.toList) (hf : codeAmong pos ps.toList = some (.ref c'))
    (hcl : closureFor scope (envX cn cs L a ccd cl) = pure clos)
    (h : ∀ f ctv doc h' tk, Fr h₀ L h' m → News h₀ L h' ((f, fnMade name qual params body scope clos doc ((mg "__name__").getD .none) c' ctv) :: news) → (∀ q ∈ news, q.1 < f) → Q (.ref f) { s with heap := h', toks := tk }) :
    wpAny M A (makeFunction name qual params (.stmts body) scope (envX cn cs L a ccd cl) [] [] [] pos firstLine) Q E s := by
  obtain ⟨bm, ob, b1, b2, b3, b4, b5, b6⟩ := T.bmain
  have n1 : bm ≠ P := by rintro rfl; rw [hP] at b3; cases b3; cases b4
  have n2 : bm ≠ mainGlobals := by
    rintro rfl
    obtain ⟨o, es, ep, e, e2, -⟩ := T.g
    rw [e] at b3; cases b3; rw [e2] at b6; cases b6
  refine makeFunction_hit (mg := mg) hcl rfl (T.g.keeps F.keep) hcd (C.keeps F.keep) (F.keep _ _ hP) ht hf ⟨bm, ob, b1, b2, n2, n1, F.keep _ _ b3, b4, b5, b6⟩ fun ctv doc h' tk up hsz => ?_
  have F1 : Fr h₀ L h' m := ⟨F.ns.keeps up, fun b o e => up b o (F.keep b o e), F.above⟩
  have N1 : News h₀ L h' news := fun q hq => ⟨up _ _ (N q hq).1, (N q hq).2⟩
  exact h h'.objs.size ctv doc _ tk (F1.push _) (News.push F1 N1 _) fun q hq => Heap.lt_size (N1 q hq).1
end
end Mine

end
/- part A2 -/
section
set_option maxRecDepth 100000
set_option maxHeartbeats 1000000
namespace Mine

def sAt (l : List Stmt) (i : Nat) : Stmt := (l[i]?).getD (.Pass ⟨0, 0, 0, 0⟩)
def sBody : Stmt → List Stmt
  | .FunctionDef _ _ b _ _ _ _ _ _ _ => b
  | _ => []
def sArgs : Stmt → Arguments
  | .FunctionDef _ a _ _ _ _ _ _ _ _ => a
  | _ => default
def sScope : Stmt → Scope
  | .FunctionDef _ _ _ _ _ _ s _ _ _ => s
  | _ => default
abbrev pTop : List Stmt := PySem.Challenge.pw_hi0002_01.main.body
/-- the def inside _int2digits -/
abbrev inA : Stmt := sAt (sBody (sAt pTop 1)) 1
/-- the def inside _digits2int -/
abbrev inB : Stmt := sAt (sBody (sAt pTop 2)) 0

theorem nameX_FB {M : Model} {A : Around} {E : Value → Shared → Prop} {s : Shared} {h₀ : Heap} {L a : Addr} {m : Str → Option Value} {cn : Str} {cs : Scope} {ccd : Value} {cl : List (Str × Addr)} {x : Str} {pos : Pos} {v : Value} {Q : Value → Shared → Prop} {c : Addr} {o : Obj}
    (F : Fr h₀ L s.heap m) (hc : cl.lookup x = some c) (hv : h₀.get? c = some o) (hd : o.data = .cell (some v)) (h : Q v s)
    (hk : cs.kind = .function := by rfl) (hx : (envX cn cs L a ccd cl).kindOf x = some .free := by rfl) (hb : (x == ("__debug__" : Str)) = false := by decide) (hn : (x == ("__classdict__" : Str)) = false := by decide) :
    wpAny M A (eval (.Name x pos) (envX cn cs L a ccd cl)) Q E s := wpAny_Name (wpAny_loadName_free hk hx hc ⟨_, F.keep _ _ hv, hd⟩ h hn) hb

local macro_rules | `(tactic| walk_at "eval Name") => `(tactic| (k_here; k_dflt (refine' nameX_FB ?F ?c ?v ?d ?_ ?a ?b; (case a => rfl); (case b => rfl); (case F => k_asm); (case c => rfl); (case v => assumption); (case d => assumption); k_whole)))

/-- the objects that a call of the inner def reads -/
structure InA (qual : Str) (f c' cN cD cI D : Addr) (h : Heap) : Prop where
  fo : ∃ o doc pm ctv, h.get? f = some o ∧ o.data = .func (fnX "inner" qual (sArgs inA) (sBody inA) (sScope inA) [("n", cN), ("inner", cI), ("a_digits", cD)] .none .none doc pm none (.ref c') ctv)
  code : h.CodeRec (.ref c') qual
  n : ∃ o t, h.get? cN = some o ∧ o.data = .cell (some (.int 1 t))
  d : ∃ o, h.get? cD = some o ∧ o.data = .cell (some (.ref D))
  i : ∃ o, h.get? cI = some o ∧ o.data = .cell (some (.ref f))

theorem InA.keeps {qual : Str} {f c' cN cD cI D : Addr} {h h' : Heap} (x : InA qual f c' cN cD cI D h) (k : ∀ b o, h.get? b = some o → h'.get? b = some o) : InA qual f c' cN cD cI D h' :=
  ⟨let ⟨o, a, b, c, e, r⟩ := x.fo; ⟨o, a, b, c, k _ _ e, r⟩, x.code.keeps k, let ⟨o, t, e, r⟩ := x.n; ⟨o, t, k _ _ e, r⟩, let ⟨o, e, r⟩ := x.d; ⟨o, k _ _ e, r⟩, let ⟨o, e, r⟩ := x.i; ⟨o, k _ _ e, r⟩⟩

/-- a code record, a function, a cell is no list -/
theorem InA.off {qual : Str} {f c' cN cD cI D : Addr} {h g : Heap} {its : Array Value} {ep : Nat} (x : InA qual f c' cN cD cI D h) (hD : h.get? D = some (listOf its ep)) (k : ∀ b o, h.get? b = some o → b ∉ [D] → g.get? b = some o) : InA qual f c' cN cD cI D g := by
  have k' : ∀ b o, h.get? b = some o → (∀ xs n, o.data ≠ .seq xs n) → g.get? b = some o := fun b o e hn => k b o e fun q => by
    rw [List.mem_singleton.mp q, hD] at e
    cases e
    exact hn _ _ rfl
  obtain ⟨⟨o, a, b, c, e, r⟩, hc, ⟨o2, t, e2, r2⟩, ⟨o3, e3, r3⟩, ⟨o4, e4, r4⟩⟩ := x
  refine ⟨⟨o, a, b, c, k' _ _ e (fun _ _ q => by rw [q] at r; cases r), r⟩, ?_, ⟨o2, t, k' _ _ e2 (fun _ _ q => by rw [q] at r2; cases r2), r2⟩, ⟨o3, k' _ _ e3 (fun _ _ q => by rw [q] at r3; cases r3), r3⟩, ⟨o4, k' _ _ e4 (fun _ _ q => by rw [q] at r4; cases r4), r4⟩⟩
  obtain ⟨c2, oc, vs, t, e5, e6, e7, e8⟩ := hc
  exact ⟨c2, oc, vs, t, e5, k' _ _ e6 (fun _ _ q => by rw [q] at e7; cases e7), e7, e8⟩

section
variable {prog : Program} {w : World} {K : Frag} {p : Program} {loose : List Str} {mean : ExcName → Option Value} {mg mb : Str → Option Value}
  {qual : Str} {f c' cN cD cI D : Addr} {ep : Nat}

theorem set_bits (ns : List Int) (l r x : Int) (h0 : 0 ≤ l) (h1 : l + 1 = r) (h2 : r ≤ ns.length) (hx0 : 0 ≤ x) (hx1 : x < 2) : ns.set l.toNat x = ns.take l.toNat ++ bitsN x (r - l).toNat ++ ns.drop r.toNat := by
  have e : (r - l).toNat = 1 := by omega
  have e2 : r.toNat = l.toNat + 1 := by omega
  rw [e, e2, List.set_eq_take_append_cons_drop, if_pos (by omega)]
  have : x % 2 = x := Int.emod_eq_of_lt hx0 hx1
  simp [bitsN, this]

theorem innerA_spec (k : Nat) : ∀ {A : Around} {h₀ : Heap} {L : Addr} {m : Str → Option Value} {s : Shared} {Q E : Value → Shared → Prop} {others : List (Addr × Obj)} {vs : List Value} {ns : List Int} {x l r : Int} {tx tl tr : Tok},
    Cx K p loose mean mg mb A h₀ L → Fr h₀ L s.heap m → News h₀ L s.heap ((D, listOf vs.toArray ep) :: others) → (∀ q ∈ others, q.1 ≠ D) → InA qual f c' cN cD cI D s.heap →
    IntsAre vs ns → A.depth + k < recursionLimit → A.units + 8 * k < cLine → 0 ≤ l → l < r → r ≤ ns.length → r ≤ 16 → r - l ≤ k → 0 ≤ x → x < 2 ^ (r - l).toNat →
    (∀ h' tk' vs', Fr h₀ L h' m → News h₀ L h' ((D, listOf vs'.toArray ep) :: others) → IntsAre vs' (ns.take l.toNat ++ bitsN x (r - l).toNat ++ ns.drop r.toNat) → Q .none { s with heap := h', toks := tk' }) →
    wpAny (model prog w) A (call (.ref f) [.int x tx, .int l tl, .int r tr]) Q E s := by
  induction k with
  | zero => intros; omega
  | succ k ih =>
    intro A h₀ L m s Q E others vs ns x l r tx tl tr c F N dis I hi hdp hun hl0 hlr hrn hr16 hk hx0 hx hret
    obtain ⟨⟨o, doc, pm, ctv, ho, hd⟩, hcd, -⟩ := id I
    refine enter_plain (nw := [(D, listOf vs.toArray ep)]) c F N (fun q hq e => dis q hq (by simpa using e)) ho hd hcd (by omega) (BindsTo.of_eq rfl) (locs rfl) ?_ (by decide) rfl rfl rfl
    intro g L' h₁ env outer A₀ base hA B c2 F' N' B' X' T' sub st lt ltL
    have IG : InA qual f c' cN cD cI D g := I.off (N _ List.mem_cons_self).1 sub
    have hh := c.hh
    obtain ⟨hnd, dp, frs, gd, un⟩ := A
    simp only at hA hh hdp hun
    subst hA hh
    have eB : sBody inA = sBody inA := rfl
    conv at eB => rhs; whnf
    have eS : sScope inA = sScope inA := rfl
    conv at eS => rhs; whnf
    rw [eB, eS]
    clear eB eS
    clear ho hd
    obtain ⟨⟨oF, doc', pm', ctv', hF, dF⟩, -, ⟨oN, tN, hN, dN⟩, ⟨oD, hD, dD⟩, ⟨oI, hI, dI⟩⟩ := id IG
    have hmid : (l + r).fdiv (2 ^ Int.toNat 1) = (l + r) / 2 := by rw [show ((2 : Int) ^ Int.toNat 1) = 2 from rfl]; exact Int.fdiv_eq_ediv_of_nonneg _ (by decide)
    have hs0 : 0 ≤ ((l + r).fdiv (2 ^ Int.toNat 1) - l) * 1 := by rw [hmid]; omega
    have hs1 : ((l + r).fdiv (2 ^ Int.toNat 1) - l) * 1 ≤ 1000000 := by rw [hmid]; omega
    have hxb : x < 2 ^ 16 := Int.lt_of_lt_of_le hx (pow2_le (by omega))
    have hs2 : (x.fdiv (2 ^ (((l + r).fdiv (2 ^ Int.toNat 1) - l) * 1).toNat)).natAbs < 2 ^ 64 := by
      have hp : (0 : Int) < 2 ^ (((l + r).fdiv (2 ^ Int.toNat 1) - l) * 1).toNat := Int.pow_pos (by decide)
      rw [Int.fdiv_eq_ediv_of_nonneg _ (Int.le_of_lt hp)]
      have h1 := Int.ediv_le_self (2 ^ (((l + r).fdiv (2 ^ Int.toNat 1) - l) * 1).toNat) hx0
      have h2 := Int.ediv_nonneg hx0 (Int.le_of_lt hp)
      omega
    k_unmd; (try dsimp only); k_fold
    k_steps
    · dsimp only
      k_steps
      rename_i i2 _ _
      refine leaveK_ (by assumption) (by assumption) fun F3 N3 hN => hret _ _ _ F3 (fun q hq => (List.mem_cons.mp hq).elim (fun e => e ▸ N3 _ List.mem_cons_self) (hN q)) ?_
      rw [← set_bits ns l r x hl0 (by omega) hrn hx0 (by rw [show (r - l).toNat = 1 by omega] at hx; simpa using hx)]
      exact i2
    · refine ih (others := []) c2 (by assumption) (by assumption) (fun _ hq => nomatch hq) (IG.keeps (Fr.keep (by assumption))) hi (by show dp + 1 + k < _; omega) (by show un + 3 + 8 * k < _; omega) hl0 (by omega) (by omega) (by omega) (by omega) ?_ ?_ ?_
      · rw [xor_low _ _ hx0]; exact Int.emod_nonneg _ (Int.ne_of_gt (Int.pow_pos (by decide)))
      · rw [xor_low _ _ hx0, hmid, Int.mul_one]; exact Int.emod_lt_of_pos _ (Int.pow_pos (by decide))
      intro h2 tk2 vs2 F2 N2 i2
      (try dsimp only); (try k_fold)
      k_steps
      rw [xor_low _ _ hx0, hmid, Int.mul_one] at i2
      rw [Int.fdiv_eq_ediv_of_nonneg _ (Int.le_of_lt (Int.pow_pos (by decide))), hmid, Int.mul_one]
      have e1 : ((l + r) / 2 - l).toNat = ((l + r) / 2).toNat - l.toNat := by omega
      have e2 : (r - (l + r) / 2).toNat = r.toNat - ((l + r) / 2).toNat := by omega
      have e4 := bitsN_length ((l + r) / 2 - l).toNat (x % 2 ^ ((l + r) / 2 - l).toNat)
      refine ih (others := []) c2 (by assumption) (by assumption) (fun _ hq => nomatch hq) (IG.keeps (Fr.keep (by assumption))) i2 (by show dp + 1 + k < _; omega) (by show un + 3 + 8 * k < _; omega) (by omega) (by omega) ?_ (by omega) (by omega) ?_ ?_ ?_
      · rw [put_length _ _ _ _ (by omega) (by omega) (e4.trans e1)]; exact hrn
      · exact Int.ediv_nonneg hx0 (Int.le_of_lt (Int.pow_pos (by decide)))
      · refine high_lt _ _ _ ?_
        rw [show ((l + r) / 2 - l).toNat + (r - (l + r) / 2).toNat = (r - l).toNat by omega]
        exact hx
      intro h3 tk3 vs3 F3 N3 i3
      (try dsimp only); (try k_fold)
      k_steps
      refine leaveK_ F3 N3 fun F4 N4 hN => hret _ _ _ F4 (fun q hq => (List.mem_cons.mp hq).elim (fun e => e ▸ N4 _ List.mem_cons_self) (hN q)) ?_
      rw [two_puts _ _ _ _ _ _ (by omega) (by omega) (by omega) (e4.trans e1), bits_halves x l r hl0 (by omega) hx0] at i3
      exact i3
end
end Mine

end
/- part A3 -/
section
set_option maxRecDepth 100000
set_option maxHeartbeats 1000000
namespace Mine
local macro_rules | `(tactic| walk_at "idle 0") => `(tactic| skip)
local macro_rules | `(tactic| walk_at "idle 1") => `(tactic| skip)
local macro_rules | `(tactic| walk_at "eval Name") => `(tactic| (k_here; k_dflt (refine' nameX_FB ?F ?c ?v ?d ?_ ?a ?b; (case a => rfl); (case b => rfl); (case F => k_asm); (case c => rfl); (case v => assumption); (case d => assumption); k_whole)))

/-- the objects that a call of the inner def reads -/
structure InB (qual : Str) (f c' cN cD cI D : Addr) (its : Array Value) (h : Heap) : Prop where
  fo : ∃ o doc pm ctv, h.get? f = some o ∧ o.data = .func (fnX "inner" qual (sArgs inB) (sBody inB) (sScope inB) [("n", cN), ("inner", cI), ("digits", cD)] .none .none doc pm none (.ref c') ctv)
  code : h.CodeRec (.ref c') qual
  n : ∃ o t, h.get? cN = some o ∧ o.data = .cell (some (.int 1 t))
  d : ∃ o, h.get? cD = some o ∧ o.data = .cell (some (.ref D))
  i : ∃ o, h.get? cI = some o ∧ o.data = .cell (some (.ref f))
  l : h.IsList D its

theorem InB.keeps {qual : Str} {f c' cN cD cI D : Addr} {its : Array Value} {h h' : Heap} (x : InB qual f c' cN cD cI D its h) (k : ∀ b o, h.get? b = some o → h'.get? b = some o) : InB qual f c' cN cD cI D its h' :=
  ⟨let ⟨o, a, b, c, e, r⟩ := x.fo; ⟨o, a, b, c, k _ _ e, r⟩, x.code.keeps k, let ⟨o, t, e, r⟩ := x.n; ⟨o, t, k _ _ e, r⟩, let ⟨o, e, r⟩ := x.d; ⟨o, k _ _ e, r⟩, let ⟨o, e, r⟩ := x.i; ⟨o, k _ _ e, r⟩, let ⟨o, e, r⟩ := x.l; ⟨o, k _ _ e, r⟩⟩

section
variable {prog : Program} {w : World} {K : Frag} {p : Program} {loose : List Str} {mean : ExcName → Option Value} {mg mb : Str → Option Value}
  {qual : Str} {f c' cN cD cI D : Addr} {vs : List Value} {ns : List Int}

theorem innerB_spec (hi : IntsAre vs ns) (hbit : ∀ d ∈ ns, 0 ≤ d ∧ d ≤ 1) (k : Nat) : ∀ {A : Around} {h₀ : Heap} {L : Addr} {m : Str → Option Value} {s : Shared} {Q E : Value → Shared → Prop} {others : List (Addr × Obj)} {l r : Int} {tl tr : Tok},
    Cx K p loose mean mg mb A h₀ L → Fr h₀ L s.heap m → News h₀ L s.heap others → InB qual f c' cN cD cI D vs.toArray s.heap →
    A.depth + k < recursionLimit → A.units + 8 * k < cLine → 0 ≤ l → l < r → r ≤ ns.length → r ≤ 16 → r - l ≤ k →
    (∀ h' tk' t, Fr h₀ L h' m → News h₀ L h' others → Q (.int (valN (seg ns l r)) t) { s with heap := h', toks := tk' }) →
    wpAny (model prog w) A (call (.ref f) [.int l tl, .int r tr]) Q E s := by
  induction k with
  | zero => intros; omega
  | succ k ih =>
    intro A h₀ L m s Q E others l r tl tr c F N I hdp hun hl0 hlr hrn hr16 hk hret
    obtain ⟨⟨o, doc, pm, ctv, ho, hd⟩, hcd, -⟩ := id I
    refine enter_plain (nw := []) c F N (fun q hq e => nomatch e) ho hd hcd (by omega) (BindsTo.of_eq rfl) (locs rfl) ?_ (by decide) rfl rfl rfl
    intro g L' h₁ env outer A₀ base hA B c2 F' N' B' X' T' sub st lt ltL
    have IG : InB qual f c' cN cD cI D vs.toArray g := I.keeps fun b o e => sub b o e (fun q => nomatch q)
    have hh := c.hh
    obtain ⟨hnd, dp, frs, gd, un⟩ := A
    simp only at hA hh hdp hun
    subst hA hh
    have eB : sBody inB = sBody inB := rfl
    conv at eB => rhs; whnf
    have eS : sScope inB = sScope inB := rfl
    conv at eS => rhs; whnf
    rw [eB, eS]
    clear eB eS
    clear ho hd
    obtain ⟨⟨oF, doc', pm', ctv', hF, dF⟩, -, ⟨oN, tN, hN, dN⟩, ⟨oD, hD, dD⟩, ⟨oI, hI, dI⟩, hDl⟩ := id IG
    have hmid : (l + r).fdiv (2 ^ Int.toNat 1) = (l + r) / 2 := by rw [show ((2 : Int) ^ Int.toNat 1) = 2 from rfl]; exact Int.fdiv_eq_ediv_of_nonneg _ (by decide)
    have hs0 : 0 ≤ ((l + r).fdiv (2 ^ Int.toNat 1) - l) * 1 := by rw [hmid]; omega
    have hs1 : ((l + r).fdiv (2 ^ Int.toNat 1) - l) * 1 ≤ 1000000 := by rw [hmid]; omega
    k_unmd; (try dsimp only); k_fold
    k_steps
    · dsimp only
      k_steps
      refine leaveK_ (by assumption) (by assumption) fun F3 N3 hN => int_at (seg_one hl0 (by omega) hrn) (hret _ _ _ F3 hN)
    · refine ih (others := []) c2 (by assumption) (by assumption) (IG.keeps (Fr.keep (by assumption))) (by show dp + 1 + k < _; omega) (by show un + 3 + 8 * k < _; omega) (by omega) (by omega) hrn (by omega) (by omega) ?_
      intro h2 tk2 t2 F2 N2
      (try dsimp only); (try k_fold)
      have hb1 := valN_nonneg (seg ns ((l + r).fdiv (2 ^ Int.toNat 1)) r) fun d hd => hbit d (seg_mem hd)
      rw [seg_length (by omega) (by omega) hrn] at hb1
      have hb2 : (2 : Int) ^ (r - (l + r).fdiv (2 ^ Int.toNat 1)).toNat ≤ 2 ^ 16 := pow2_le (by omega)
      have hb3 : (valN (seg ns ((l + r).fdiv (2 ^ Int.toNat 1)) r)).natAbs < 2 ^ 64 := by omega
      k_steps
      refine ih (others := []) c2 (by assumption) (by assumption) (IG.keeps (Fr.keep (by assumption))) (by show dp + 1 + k < _; omega) (by show un + 3 + 8 * k < _; omega) (by omega) (by omega) (by omega) (by omega) (by omega) ?_
      intro h3 tk3 t3 F3 N3
      (try dsimp only); (try k_fold)
      k_steps
      refine leaveK_ (by assumption) (by assumption) fun F4 N4 hN => int_at ?_ (hret _ _ _ F4 hN)
      rw [seg_split (k := (l + r).fdiv (2 ^ Int.toNat 1)) hl0 (by omega) (by omega), valN_append, seg_length hl0 (by omega) (by omega), Int.mul_one, Int.add_comm, Int.mul_comm]
end
end Mine

end
/- part B1 -/
section
set_option maxHeartbeats 1000000
namespace Mine
/-- where the walk is to halt -/
def Stop (P : Prop) : Prop := P
theorem stop {P : Prop} (h : Stop P) : P := h
/-- the places of the ones -/
def onesAt (k : Int) : List Int → List Int
  | [] => []
  | a :: r => if a = 1 then k :: onesAt (k + 1) r else onesAt (k + 1) r
theorem onesAt_snoc : ∀ (l : List Int) (k a : Int), onesAt k (l ++ [a]) = onesAt k l ++ (if a = 1 then [k + (l.length : Int)] else [])
  | [], k, a => by simp [onesAt]
  | b :: l, k, a => by
    have e : k + 1 + (l.length : Int) = k + ((l.length + 1 : Nat) : Int) := by omega
    rw [List.cons_append, onesAt, onesAt_snoc l (k + 1) a, onesAt, List.length_cons, e]
    split <;> rfl
theorem onesAt_len : ∀ (l : List Int) (k : Int), (onesAt k l).length ≤ l.length
  | [], _ => Nat.le_refl _
  | a :: l, k => by
    have := onesAt_len l (k + 1)
    unfold onesAt
    split <;> simp only [List.length_cons] <;> omega

section
variable {prog : Program} {w : World} {A : Around} {E : Value → Shared → Prop} {s : Shared} {h₀ : Heap} {L : Addr} {env : Env}

/-- what the rows of an enumerated list of ints are to the block behind them -/
def EnumSrc (h₀ : Heap) (L : Addr) (Q : Value → Shared → Prop) (x : Value) (s₁ : Shared) : Prop :=
  ∃ (e it l : Addr) (vs : List Value) (ns : List Int) (m : Str → Option Value) (news : List (Addr × Obj)), x = .ref e ∧ IsEnum s₁.heap e it 0 .none ∧ s₁.heap.IsListIter it l 0 ∧ s₁.heap.IsList l vs.toArray ∧ IntsAre vs ns ∧ ns.length ≤ 1000 ∧
      Fr h₀ L s₁.heap m ∧ News h₀ L s₁.heap news ∧ (e ≠ it ∧ l ≠ e ∧ l ≠ it ∧ e ≠ L ∧ it ≠ L) ∧ h₀.get? e = none ∧ h₀.get? it = none ∧ (∀ q ∈ news, q.1 ≠ e ∧ q.1 ≠ it) ∧
      ∀ D h' tk ys ep, Fr h₀ L h' m → News h₀ L h' ((D, listOf ys.toArray ep) :: news) → (∀ q ∈ news, q.1 < D) → L < D → IntsAre ys (onesAt 0 ns) → Q (.ref D) { s₁ with heap := h', toks := tk }

theorem comp_enum {xi xv : Str} {p1 p2 p3 p4 pa pb pt : Pos} {kt kc : Nat} {iter : Expr} {scope : Scope} {pos : Pos} {Q : Value → Shared → Prop}
    {m₀ : Str → Option Value} (Fz : Fr h₀ L s.heap m₀) (hh : A.handled = none) (hxx : xi ≠ xv) (hcell : ∀ y ∈ scope.names, y.2 ≠ .cell) (hclos : closureFor scope env = pure []) (hkind : scope.kind = .function)
    (hnames : ∀ y ∈ scope.names, y.2 = .local → scope.names.lookup y.1 = some .local) (hxi : scope.names.lookup xi = some .local) (hxv : scope.names.lookup xv = some .local)
    (hdi : (xi == ("__debug__" : Str)) = false) (hdv : (xv == ("__debug__" : Str)) = false)
    (hs : ∀ x, foldedSetIterable iter env x = pure x)
    (h : wpAny (model prog w) A (eval iter env) (EnumSrc h₀ L Q) E s) :
    wpAny (model prog w) A (eval (.ListComp (.Name xi p1) [⟨.Tuple [.Name xi pa, .Name xv pb] kt pt, iter, [.Compare (.Name xv p2) [.Eq] [.Constant (.int 1) kc p3] p4], 0⟩] scope pos) env) Q E s := by
  rw [eval_ListComp]
  refine wpAny_comprehension_free (use := none) rfl hs hclos hkind hnames (wpAny_mono h (fun x s₁ h₁ => ?_) fun _ _ e => e)
  obtain ⟨e, it, l, vs, ns, m, news, rfl, he, hit, hl, hi, hlen, F, N, ⟨hei, hle, hli, heL, hiL⟩, he0, hi0, hnw, hQ⟩ := h₁
  have W := WalksT.enumerate (prog := prog) (w := w) hh e it l hei hle hli vs.toArray
  refine wpAny_pyIter_enum he ?_
  refine wpAny_newObj_type (wpAny_newFunctionEnv hcell (by intro y hy; simp at hy) (fun h₁ hns₁ hsb₁ => ?_) hkind)
  dsimp only at hns₁ hsb₁ ⊢
  generalize hH2 : s₁.heap.push { cls := .type "list", dict := none, data := .seq ([] : List Value).toArray } = H2 at hns₁ hsb₁ ⊢
  have hC : H2.objs.size = s₁.heap.objs.size + 1 := by rw [← hH2, Heap.size_push]
  generalize hD : s₁.heap.objs.size = D at *
  generalize hCe : H2.objs.size = C at *
  have hlt : ∀ b o, s₁.heap.get? b = some o → b < D := fun b o q => hD ▸ Heap.lt_size q
  have hDC : D ≠ C := by rw [hC]; exact Nat.ne_of_lt (Nat.lt_succ_self _)
  have old : ∀ b o, s₁.heap.get? b = some o → h₁.get? b = some o := fun b o q => by
    have := hlt b o q
    refine hsb₁.extBut b o ?_ (Heap.get?_push_of_some _ (hH2 ▸ Heap.get?_push_of_some _ q))
    rw [hC]; exact Nat.ne_of_lt (Nat.lt_succ_of_lt this)
  have hacc : h₁.get? D = some (listOf ([] : List Value).toArray 0) := by
    refine hsb₁.extBut _ _ hDC (Heap.get?_push_of_some _ (hH2 ▸ ?_))
    rw [← hD]; exact Heap.get?_push_size _ rfl
  have heD : e < D := hlt e _ he
  have hiD : it < D := by obtain ⟨o, q, _⟩ := hit; exact hlt it o q
  have hlD : l < D := by obtain ⟨o, q, _⟩ := hl; exact hlt l o q
  have hLD : L < D := by rw [← hD]; exact F.ns.lt
  have neC : ∀ b, b < D → b ≠ C := fun b hb => by rw [hC]; exact Nat.ne_of_lt (Nat.lt_succ_of_lt hb)
  have neD : ∀ b, b < D → b ≠ D := fun b hb => Nat.ne_of_lt hb
  have fresh₀ : ∀ a, D ≤ a → h₀.get? a = none := fun a ha => by
    cases q : h₀.get? a with
    | none => rfl
    | some o' => exact absurd (hlt _ _ (F.keep a o' q)) (Nat.not_lt.mpr ha)
  have hfp : ∀ b ∈ [e, it, l], b < D := fun b hb => by
    simp only [List.mem_cons, List.not_mem_nil, or_false] at hb
    rcases hb with rfl | rfl | rfl <;> assumption
  have hCf : C ∉ [e, it, l] := fun hm => neC _ (hfp _ hm) rfl
  have hDf : D ∉ [e, it, l] := fun hm => neD _ (hfp _ hm) rfl
  have hCw : C ∉ [e, it] := fun hm => hCf (W.sub _ hm)
  have hDw : D ∉ [e, it] := fun hm => hDf (W.sub _ hm)
  have hki : Env.kindOf (compEnvC scope [] C env) xi = some .local := lookup_relabel_local hxi
  have hkv : Env.kindOf (compEnvC scope [] C env) xv = some .local := lookup_relabel_local hxv
  have hp : ((compEnvC scope [] C env).scope.kind == .class || ((compEnvC scope [] C env).scope.kind == .module && (compEnvC scope [] C env).locals != (compEnvC scope [] C env).globals)) = false := by simp [compEnvC, relabel, hkind]
  have hkf : (compEnvC scope [] C env).scope.kind = .function := by simp [compEnvC, relabel, hkind]
  have hst₁ : (∃ old, IsEnum h₁ e it ((0 : Nat) : Int) old) ∧ h₁.IsListIter it l 0 ∧ h₁.IsList l vs.toArray :=
    ⟨⟨.none, old _ _ he⟩, let ⟨o, q, r⟩ := hit; ⟨o, old _ _ q, r⟩, let ⟨o, q, r⟩ := hl; ⟨o, old _ _ q, r⟩⟩
  have hvl : vs.length = ns.length := hi.length
  have loop : ∀ s₃ : Shared, s₃ = { s₁ with heap := h₁, toks := s₁.toks + ([] : List (Str × Value)).length } →
      codeAny (model prog w) A (.compLoop (.ListComp (.Name xi p1) [⟨.Tuple [.Name xi pa, .Name xv pb] kt pt, iter, [.Compare (.Name xv p2) [.Eq] [.Constant (.int 1) kc p3] p4], 0⟩] scope pos) 0 (.ref e) (.ref D) (compEnvC scope [] C env))
        (compPost (model prog w) A E none Q (.ref D) C) s₃ := by
    rintro s₃ rfl
    refine codeAny_loop rfl
      (fun k s' => ∃ h' tk i ys ep m', s' = { s₁ with heap := h', toks := tk } ∧ i ≤ ns.length ∧ k = ns.length + 1 - i ∧ ((∃ old, IsEnum h' e it ((i : Nat) : Int) old) ∧ h'.IsListIter it l i ∧ h'.IsList l vs.toArray) ∧ h'.Ns C m' ∧
        h'.get? D = some (listOf ys.toArray ep) ∧ IntsAre ys (onesAt 0 (ns.take i)) ∧ (∀ b o, b ≠ C → b ≠ D → b ∉ [e, it] → s₁.heap.get? b = some o → h'.get? b = some o)) ?_ (ns.length + 1)
      ⟨h₁, _, 0, [], 0, _, rfl, Nat.zero_le _, rfl, hst₁, hns₁, hacc, .nil, fun b o _ _ _ q => old b o q⟩
    rintro k s' ⟨H, tk, i, ys, ep, m', rfl, hin, rfl, hst, hn, hDl, hys, hk⟩
    show wpAny _ A ((compTurn _ 0 (.ref e) (.ref D) (compEnvC scope [] C env)).onRaise (fun x => do noteFrame x _; theTreesLotGoes x)) _ _ _
    refine wpAny_noted ?_
    rw [compTurn_list]
    refine wpAny_bind (wpAny_standAt (wpAny_bind ?_))
    by_cases hlt' : i < ns.length
    · refine W.item i _ _ _ (by simpa [hvl] using hlt') hst fun T vals H1 tk1 hPt hTs hT hmid hk1 => ?_
      obtain ⟨ti, x, hx, rfl⟩ := hPt
      obtain ⟨a, ta, rfl, hna⟩ := IntsAre.at hi i x (by simpa using hx)
      refine wpAny_bind (W.go _ _ _ i T _ _ _ hmid fun H2' hst2 hk2 => ?_)
      have hT2 : IsTup H2' T #[.int i ti, .int a ta] := by
        obtain ⟨o, q, r⟩ := hT
        exact ⟨o, hk2 T o (W.apart i T _ hmid) q, r⟩
      refine wpAny_bind (assign_Tuple_tuple hh hT2 rfl rfl fun H3 hx3 => ?_)
      have up3 : ∀ b o, b ∉ [e, it] → H.get? b = some o → H3.get? b = some o := fun b o hb q => by
        have q2 := hk2 b o hb (hk1 b o hb q)
        exact hx3 b o (Nat.ne_of_lt (Heap.lt_size q2)) q2
      have st3 : (∃ old, IsEnum H3 e it ((i + 1 : Nat) : Int) old) ∧ H3.IsListIter it l (i + 1) ∧ H3.IsList l vs.toArray := W.frame _ _ _ hst2 fun b _ o q => hx3 b o (Nat.ne_of_lt (Heap.lt_size q)) q
      refine assignInOrder_cons (wpAny_assign_Name (wpAny_storeName_local hki (hn.at' fun o q => up3 _ o hCw q) (fun H4 hn4 hs4 => ?_) hp))
      refine assignInOrder_cons (wpAny_assign_Name (wpAny_storeName_local hkv hn4 (fun H5 hn5 hs5 => ?_) hp))
      refine assignInOrder_nil ?_
      have up5 : ∀ b o, b ≠ C → H3.get? b = some o → H5.get? b = some o := fun b o hb q => hs5.extBut b o hb (hs4.extBut b o hb q)
      have st5 := W.frame _ _ _ st3 fun b hb o q => up5 b o (fun z => hCf (by rw [← z]; exact hb)) q
      have hD5 : H5.get? D = some (listOf ys.toArray ep) := up5 _ _ hDC (up3 _ _ hDw hDl)
      have hk5 : ∀ b o, b ≠ C → b ≠ D → b ∉ [e, it] → s₁.heap.get? b = some o → H5.get? b = some o := fun b o c1 c2 c3 q => up5 b o c1 (up3 b o c3 (hk b o c1 c2 c3 q))
      have htake : ns.take (i + 1) = ns.take i ++ [a] := by rw [List.take_add_one, hna]; rfl
      have hlen' : (ns.take i).length = i := by rw [List.length_take]; omega
      refine wpAny_bind (wpAny_tests_one (wpAny_isTrue_Compare1 (wpAny_Name (wpAny_loadName_local hkf hkv hn5 (v := .int a ta) (by simp) ?_) hdv) rfl))
      refine wpAny_Constant_int (eq_int (wpAny_truthy_bool ?_))
      by_cases ha : a = 1
      · rw [if_pos (by simp [ha])]
        refine wpAny_bind (wpAny_bind (wpAny_Name (wpAny_loadName_local hkf hki hn5 (v := .int i ti) (by simp [hxx]) ?_) hdi))
        refine wpAny_bind (append_at (hsz := ?_) hD5 fun H6 hs6 hD6 => wpAny_pure (wpAny_pure ⟨rfl, ns.length + 1 - (i + 1), by omega, H6, _, i + 1, ys ++ [.int i ti], ep + 1, _, rfl, hlt', rfl, ?_, hn5.sameBut hs6 (Ne.symm hDC), ?_, ?_, ?_⟩))
        · exact W.frame _ _ _ st5 fun b hb o q => hs6.extBut b o (fun z => hDf (z ▸ hb)) q
        · rw [hD6]; simp
        · rw [htake, onesAt_snoc, if_pos ha, hlen', Int.zero_add]
          exact IntsAre.append hys (.cons _ _ .nil)
        · exact fun b o c1 c2 c3 q => hs6.extBut b o c2 (hk5 b o c1 c2 c3 q)
        · rw [List.size_toArray, hys.length]
          have := onesAt_len (ns.take i) 0
          rw [PySem.sizeLine_eq]
          omega
      · rw [if_neg (by simp [ha])]
        refine wpAny_pure ⟨rfl, ns.length + 1 - (i + 1), by omega, H5, _, i + 1, ys, ep, _, rfl, hlt', rfl, st5, hn5, hD5, ?_, hk5⟩
        rw [htake, onesAt_snoc, if_neg ha, List.append_nil]
        exact hys
    · have hie : i = ns.length := by omega
      subst hie
      refine W.done _ _ _ (by simpa [hvl] using hst) fun H1 tk1 hk1 => wpAny_pure ?_
      show compPost _ _ _ _ _ _ _ _ _
      refine ⟨_, hn.at' fun o q => hk1 _ o hCw q, fun H2' hs2 => hQ D H2' tk1 ys ep ?_ ?_ ?_ hLD ?_⟩
      · have kk : ∀ b o, b ≠ C → b ≠ D → b ∉ [e, it] → s₁.heap.get? b = some o → H2'.get? b = some o := fun b o c1 c2 c3 q => hs2.extBut b o c1 (hk1 b o c3 (hk b o c1 c2 c3 q))
        obtain ⟨oL, es, epL, q, r⟩ := F.ns
        refine ⟨⟨oL, es, epL, kk L oL (neC _ hLD) (neD _ hLD) (fun hm => ?_) q, r⟩, fun b o q2 => ?_, F.above⟩
        · simp only [List.mem_cons, List.not_mem_nil, or_false] at hm
          rcases hm with z | z
          · exact heL z.symm
          · exact hiL z.symm
        · have q3 := F.keep b o q2
          have hb := hlt b o q3
          refine kk b o (neC _ hb) (neD _ hb) (fun hm => ?_) q3
          simp only [List.mem_cons, List.not_mem_nil, or_false] at hm
          rcases hm with rfl | rfl
          · rw [he0] at q2; cases q2
          · rw [hi0] at q2; cases q2
      · intro q hq
        rcases List.mem_cons.mp hq with rfl | hq
        · exact ⟨hs2.extBut _ _ hDC (hk1 _ _ hDw hDl), Nat.ne_of_gt hLD, fresh₀ _ (Nat.le_refl _)⟩
        · have n1 := N q hq
          have hb := hlt _ _ n1.1
          refine ⟨hs2.extBut _ _ (neC _ hb) (hk1 _ _ ?_ (hk _ _ (neC _ hb) (neD _ hb) ?_ n1.1)), n1.2⟩ <;>
          · intro hm
            simp only [List.mem_cons, List.not_mem_nil, or_false] at hm
            rcases hm with z | z
            · exact (hnw q hq).1 z
            · exact (hnw q hq).2 z
      · exact fun q hq => hlt _ _ (N q hq).1
      · rwa [List.take_length] at hys
  exact codeAny_compStart_list (loop _ rfl) (W.self 0 _ _ _ hst₁ (loop _ rfl))

theorem enum_made {D : Addr} {vs : List Value} {ns : List Int} {ep : Nat} {m : Str → Option Value} {news : List (Addr × Obj)} {Q : Value → Shared → Prop} (F : Fr h₀ L s.heap m) (N : News h₀ L s.heap news) (hm : (D, listOf vs.toArray ep) ∈ news) (hz : IntsAre vs ns)
    (h : ∀ (e it : Addr) h', IsEnum h' e it 0 .none → h'.IsListIter it D 0 → h'.IsList D vs.toArray → Fr h₀ L h' m → News h₀ L h' news → (e ≠ it ∧ D ≠ e ∧ D ≠ it ∧ e ≠ L ∧ it ≠ L) → h₀.get? e = none → h₀.get? it = none → (∀ q ∈ news, q.1 ≠ e ∧ q.1 ≠ it) → Q (.ref e) { s with heap := h' }) :
    wpAny (model prog w) A (call (.type "enumerate") [.ref D]) Q E s := by
  have hL : s.heap.IsList D vs.toArray := ⟨_, (N _ hm).1, rfl, ep, rfl⟩
  refine call_enumerate_list hL fun h' he hit hsz hk => ?_
  have lt : ∀ b o, s.heap.get? b = some o → b < s.heap.objs.size := fun b o q => Heap.lt_size q
  have hLs : L < s.heap.objs.size := F.ns.lt
  have none₀ : ∀ a, s.heap.objs.size ≤ a → h₀.get? a = none := fun a ha => Heap.get?_none_of_le (Nat.le_trans F.above (Nat.le_trans (Nat.le_of_lt hLs) ha))
  have hDl := lt _ _ (N _ hm).1
  refine h _ _ h' he hit (let ⟨o, q, r⟩ := hL; ⟨o, hk _ _ q, r⟩) ⟨F.ns.keeps hk, fun b o q => hk b o (F.keep b o q), F.above⟩ (fun q hq => ⟨hk _ _ (N q hq).1, (N q hq).2⟩)
    ⟨Nat.succ_ne_self _, Nat.ne_of_lt (Nat.lt_succ_of_lt hDl), Nat.ne_of_lt hDl, Nat.ne_of_gt (Nat.lt_succ_of_lt hLs), Nat.ne_of_gt hLs⟩ (none₀ _ (Nat.le_succ _)) (none₀ _ (Nat.le_refl _)) fun q hq => ?_
  have hq' := lt _ _ (N q hq).1
  exact ⟨Nat.ne_of_lt (Nat.lt_succ_of_lt hq'), Nat.ne_of_lt hq'⟩

/-- a for's head, walked to its iterable -/
def ForSrc (prog : Program) (w : World) (A : Around) (h₀ : Heap) (env : Env) (x : Str) (body : List Stmt) (Q : Flow → Shared → Prop) (E : Value → Shared → Prop) (xv : Value) (s₁ : Shared) : Prop :=
  wpAny (model prog w) A (pyIter xv) (fun it s₂ => LoopAtV prog w A h₀ env x body Q E it s₂) E s₁
theorem for_stop {x : Str} {px pos : Pos} {iter : Expr} {body : List Stmt} {Q : Flow → Shared → Prop} {m₀ : Str → Option Value} (Fz : Fr h₀ env.locals s.heap m₀) (hx : env.kindOf x = some .local)
    (hp : (env.scope.kind == .class || (env.scope.kind == .module && env.locals != env.globals)) = false)
    (h : wpAny (model prog w) A (eval iter env) (ForSrc prog w A h₀ env x body Q E) E s)
    (hs : ∀ x, foldedSetIterable iter env x = pure x) (hE : PassesOwn (model prog w) A env E) :
    wpAny (model prog w) A (exec (.For (.Name x px) iter body [] pos) env) Q E s := For_invV h₀ hx hp h hs hE
end
end Mine

end
/- part C0 -/
section
set_option maxRecDepth 100000
set_option maxHeartbeats 1000000
namespace Mine
def sPos : Stmt → Pos
  | .FunctionDef _ _ _ _ _ _ _ _ _ q => q
  | _ => ⟨0, 0, 0, 0⟩
/-- the table of a def's own codes, when its one inner def was made -/
abbrev tabFor (st : Stmt) (c' : Addr) : Obj := tabObj (#[] ++ #[rawInt (sPos st).line, rawInt (sPos st).col, .ref c'])
abbrev qualA : Str := Str.ofString "_int2digits.<locals>.inner"
abbrev qualB : Str := Str.ofString "_digits2int.<locals>.inner"

/-- the figures of a number, the least first -/
def digs (v : Int) : List Int := bitsN v (Builtin.Int.intBits v)
theorem bits_small : ∀ n : Fin 64, Builtin.Int.intBits (n.val : Int) ≤ 6 ∧ ((n.val : Int) < 2 ^ Builtin.Int.intBits (n.val : Int)) ∧ (n.val ≠ 0 → 0 < Builtin.Int.intBits (n.val : Int)) := by decide +kernel
theorem bits_of {v : Int} (h0 : 0 ≤ v) (h1 : v < 64) : Builtin.Int.intBits v ≤ 6 ∧ v < 2 ^ Builtin.Int.intBits v ∧ (v ≠ 0 → 0 < Builtin.Int.intBits v) := by
  obtain ⟨n, rfl⟩ := Int.eq_ofNat_of_zero_le h0
  have := bits_small ⟨n, by omega⟩
  simp only at this
  refine ⟨this.1, this.2.1, fun h => this.2.2 (by omega)⟩

/-- a code record's name -/
def CodeOk (oc : Obj) (qual : Str) : Prop := ∃ vs t, oc.data = .fields vs ∧ (vs[1]? : Option Value) = some (.str qual t)
/-- the table of a def's codes holds its inner def's -/
def Warm (T : Addr) (st : Stmt) (qual : Str) (c' : Addr) (h : Heap) : Prop := h.get? T = some (tabFor st c') ∧ h.CodeRec (.ref c') qual
theorem Warm.keeps {T : Addr} {st : Stmt} {qual : Str} {c' : Addr} {h h' : Heap} (x : Warm T st qual c' h) (k : ∀ b o, h.get? b = some o → h'.get? b = some o) : Warm T st qual c' h' := ⟨k _ _ x.1, x.2.keeps k⟩

/-- the places of a number's ones -/
def heldL (v : Int) : List Int := onesAt 0 (digs v)
theorem Warm.of {T c' L : Addr} {st : Stmt} {qual : Str} {h₀ h : Heap} {oc : Obj} {news : List (Addr × Obj)} (N : News h₀ L h news) (h1 : (T, tabFor st c') ∈ news) (h2 : (c', oc) ∈ news) (h3 : CodeOk oc qual) : Warm T st qual c' h :=
  ⟨(N _ h1).1, let ⟨vs, t, a, b⟩ := h3; ⟨c', oc, vs, t, rfl, (N _ h2).1, a, b⟩⟩
end Mine

end
/- part C1 -/
section
set_option maxRecDepth 100000
set_option maxHeartbeats 1000000
namespace Mine
local macro_rules | `(tactic| walk_at "idle 0") => `(tactic| skip)
local macro_rules | `(tactic| walk_at "idle 1") => `(tactic| skip)
local macro_rules | `(tactic| walk_at "idle 2") => `(tactic| skip)
local macro_rules | `(tactic| walk_at "idle 3") => `(tactic| skip)
local macro_rules | `(tactic| walk_at "binaryOp Mult ref int") => `(tactic| (k_here; (with_reducible show wpAny _ _ (binaryOp Operator.Mult (Value.ref _) (Value.int _ _)) _ _ _); (refine mul_zeros (by k_asm) (by k_asm) (by is_list) (by omega) (by omega) ?_); (intro D' h' vs' F' N' l1 i1); (try k_lt l1); (try k_sweep)))
local macro_rules | `(tactic| walk_at "call builtin:len") => `(tactic| (k_here; (with_reducible show wpAny _ _ (call (Value.builtin "len") [Value.ref _]) _ _ _); (refine len_ints (by k_asm) (by k_dflt k_mem) (by assumption) (by (simp only [List.length_replicate]); omega) ?_); intro _ _))

section
variable {prog : Program} {w : World} {p : Program} {loose : List Str} {mean : ExcName → Option Value} {mg mb : Str → Option Value}
  {A : Around} {h₀ : Heap} {L : Addr} {m : Str → Option Value} {s : Shared} {Q E : Value → Shared → Prop} {others : List (Addr × Obj)} {v : Int} {t1 t2 : Tok}

theorem i2d_cold (c : Cx (hd.heap_39 w.params) p loose mean mg mb A h₀ L) (F : Fr h₀ L s.heap m) (N : News h₀ L s.heap ((16, tabObj #[]) :: others)) (dis : ∀ q ∈ others, q.1 ≠ 16)
    (hdp : A.depth + 20 < recursionLimit) (hun : A.units + 100 < cLine) (hv0 : 0 ≤ v) (hv : v < 64)
    (hret : ∀ D c' oc vs h' tk', Fr h₀ L h' m → News h₀ L h' ((D, listOf vs.toArray 0) :: (c', oc) :: (16, tabFor inA c') :: others) → IntsAre vs (digs v) → CodeOk oc qualA → (∀ q ∈ (16, tabObj #[]) :: others, q.1 < D) → D < c' → L < D → Q (.ref D) { s with heap := h', toks := tk' }) :
    wpAny (model prog w) A (call (.ref 21) [.int v t1, .int 1 t2]) Q E s := by
  k_dflt (refine' enterK_cells (nw := [(16, tabObj #[])]) c F N (fun q hq e => dis q hq (by simpa using e)) ?hl ?hcd ?hroom ?hbind ?hkind ?hnd ?_ ?c1 ?c2 ?c3; (case hl => k_is); (case hcd => k_is); (case hroom => omega); (case hbind => exact BindsTo.of_eq rfl); (case hkind => exact rfl); (case hnd => decide +kernel); (case c1 => exact rfl); (case c2 => exact rfl); (case c3 => exact rfl))
  intro g L' h₁ tk cells env outer A₀ base hA B c2 F' N' Y' B' X' T' sub st lt ltL
  have hh := c.hh
  obtain ⟨hnd, dp, frs, gd, un⟩ := A
  simp only at hA hh hdp hun
  subst hA hh
  k_cells Y'
  have lt16 : (16 : Nat) < L' := lt _ List.mem_cons_self
  (try simp only [List.cons_append, List.nil_append] at N')
  have CA' := c2.CA
  obtain ⟨hb1, hb2, hb3⟩ := bits_of hv0 hv
  have hx0 : (↑(Builtin.Int.intBits v) + 1 - 1 : Int).fdiv 1 = Builtin.Int.intBits v := by rw [Int.fdiv_one]; omega
  k_unmd; (try dsimp only); k_fold
  have hN0 : ((↑(Builtin.Int.intBits v) + 1 - 1 : Int).fdiv 1).toNat = Builtin.Int.intBits v := by rw [hx0]; rfl
  have hlen : ((List.replicate ((↑(Builtin.Int.intBits v) + 1 - 1 : Int).fdiv 1).toNat (0 : Int)).length : Int) = Builtin.Int.intBits v := by rw [List.length_replicate, hN0]
  k_steps
  · rw [hlen]
    have hne : v ≠ 0 := by assumption
    refine innerA_spec (qual := qualA) (ns := List.replicate (Builtin.Int.intBits v) 0) 8 c2 (by k_asm) (news_3 (by k_asm)) (by k_all) ⟨⟨_, _, _, _, News.get (by k_asm) (by k_mem), rfl⟩, ⟨_, _, _, _, rfl, News.get (by k_asm) (by k_mem), by assumption, by assumption⟩, ⟨_, _, News.get (by k_asm) (by k_mem), by k_asm⟩, ⟨_, News.get (by k_asm) (by k_mem), by k_asm⟩, ⟨_, News.get (by k_asm) (by k_mem), by k_asm⟩⟩ (by rw [← hN0]; assumption)
      (by show dp + 1 + 8 < _; omega) (by show un + 3 + 8 * 8 < _; omega) (by decide) (by have := hb3 hne; omega) (by rw [List.length_replicate]; omega) (by omega) (by omega) hv0 (by rw [Int.sub_zero, Int.toNat_natCast]; exact hb2) ?_
    intro h2 tk2 vs2 F2 N2 i2
    (try dsimp only); (try k_fold)
    k_steps
    refine leaveK_ (by k_asm) (by k_asm) fun F4 N4 hN => ?_
    refine' hret _ _ _ _ _ _ F4 (news_pick3 N4 hN ?ha ?hb ?hd) ?hi ⟨_, _, by assumption, by assumption⟩ (fun q hq => Nat.lt_trans (lt q hq) ?lt1) ?lt2 (Nat.lt_trans ltL ?lt1)
    case hd => k_mem
    case ha => k_mem
    case hb => k_mem
    case lt1 => (refine ltN ?_; omega)
    case lt2 => (refine ltN ?_; omega)
    case hi =>
    rw [Int.sub_zero, Int.toNat_natCast, Int.toNat_zero, List.take_zero, List.nil_append, List.drop_eq_nil_of_le (by rw [List.length_replicate]; omega), List.append_nil] at i2
    exact i2
  · dsimp only
    k_steps
    have hz : v = 0 := by assumption
    refine leaveK_ (by k_asm) (by k_asm) fun F4 N4 hN => ?_
    refine' hret _ _ _ _ _ _ F4 (news_pick3 N4 hN ?ha ?hb ?hd) ?hi ⟨_, _, by assumption, by assumption⟩ (fun q hq => Nat.lt_trans (lt q hq) ?lt1) ?lt2 (Nat.lt_trans ltL ?lt1)
    case hd => k_mem
    case ha => k_mem
    case hb => k_mem
    case lt1 => (refine ltN ?_; omega)
    case lt2 => (refine ltN ?_; omega)
    case hi =>
    rw [show digs v = List.replicate (Builtin.Int.intBits v) 0 by rw [hz]; rfl, ← hN0]
    assumption
end
end Mine

end
/- part C2 -/
section
set_option maxRecDepth 100000
set_option maxHeartbeats 1000000
namespace Mine
local macro_rules | `(tactic| walk_at "binaryOp Mult ref int") => `(tactic| (k_here; (with_reducible show wpAny _ _ (binaryOp Operator.Mult (Value.ref _) (Value.int _ _)) _ _ _); (refine mul_zeros (by k_asm) (by k_asm) (by is_list) (by omega) (by omega) ?_); (intro D' h' vs' F' N' l1 i1); (try k_lt l1); (try k_sweep)))
local macro_rules | `(tactic| walk_at "call builtin:len") => `(tactic| (k_here; (with_reducible show wpAny _ _ (call (Value.builtin "len") [Value.ref _]) _ _ _); (refine len_ints (by k_asm) (by k_dflt k_mem) (by assumption) (by (simp only [List.length_replicate]); omega) ?_); intro _ _))

local macro_rules | `(tactic| walk_at "exec FunctionDef") => `(tactic| (k_here; kn_here; k_dflt (refine' nestDef_K ?d0 ?k0 ?a0 ?_; (case d0 => exact rfl); (case k0 => exact rfl); (case a0 => exact rfl)); k_dflt (refine' made_again ?F ?N ?T ?C ?cd ?P ?t ?n ?cl ?_; (case F => k_asm); (case N => k_asm); (case T => k_asm); (case cd => exact rfl); (case C => assumption); (case P => assumption); (case t => kn_triples); (case n => kn_hit); (case cl => exact rfl); k_whole); intro f' ct' dc' h' tk' F' N' l1; (try dsimp only at N'); (try k_lt l1)))

section
variable {prog : Program} {w : World} {p : Program} {loose : List Str} {mean : ExcName → Option Value} {mg mb : Str → Option Value}
  {A : Around} {h₀ : Heap} {L : Addr} {m : Str → Option Value} {s : Shared} {Q E : Value → Shared → Prop} {others : List (Addr × Obj)} {v : Int} {t1 t2 : Tok}

theorem i2d_warm {c' : Addr} (c : Cx (hd.heap_39 w.params) p loose mean mg mb A h₀ L) (F : Fr h₀ L s.heap m) (N : News h₀ L s.heap others) (W : Warm 16 inA qualA c' s.heap)
    (hdp : A.depth + 20 < recursionLimit) (hun : A.units + 100 < cLine) (hv0 : 0 ≤ v) (hv : v < 64)
    (hret : ∀ D vs h' tk', Fr h₀ L h' m → News h₀ L h' ((D, listOf vs.toArray 0) :: others) → IntsAre vs (digs v) → (∀ q ∈ others, q.1 < D) → L < D → Q (.ref D) { s with heap := h', toks := tk' }) :
    wpAny (model prog w) A (call (.ref 21) [.int v t1, .int 1 t2]) Q E s := by
  k_dflt (refine' enterK_cells (nw := []) c F N (fun q hq e => nomatch e) ?hl ?hcd ?hroom ?hbind ?hkind ?hnd ?_ ?c1 ?c2 ?c3; (case hl => k_is); (case hcd => k_is); (case hroom => omega); (case hbind => exact BindsTo.of_eq rfl); (case hkind => exact rfl); (case hnd => decide +kernel); (case c1 => exact rfl); (case c2 => exact rfl); (case c3 => exact rfl))
  intro g L' h₁ tk cells env outer A₀ base hA B c2 F' N' Y' B' X' T' sub st lt ltL
  have hh := c.hh
  obtain ⟨hnd, dp, frs, gd, un⟩ := A
  simp only at hA hh hdp hun
  subst hA hh
  k_cells Y'
  have WG : Warm 16 inA qualA c' g := W.keeps fun b o e => sub b o e (fun q => nomatch q)
  have hP16 : g.get? 16 = some (tabFor inA c') := WG.1
  (try simp only [List.cons_append, List.nil_append, List.append_nil] at N')
  have CA' := c2.CA
  obtain ⟨hb1, hb2, hb3⟩ := bits_of hv0 hv
  have hx0 : (↑(Builtin.Int.intBits v) + 1 - 1 : Int).fdiv 1 = Builtin.Int.intBits v := by rw [Int.fdiv_one]; omega
  k_unmd; (try dsimp only); k_fold
  have hN0 : ((↑(Builtin.Int.intBits v) + 1 - 1 : Int).fdiv 1).toNat = Builtin.Int.intBits v := by rw [hx0]; rfl
  have hlen : ((List.replicate ((↑(Builtin.Int.intBits v) + 1 - 1 : Int).fdiv 1).toNat (0 : Int)).length : Int) = Builtin.Int.intBits v := by rw [List.length_replicate, hN0]
  k_steps
  · rw [hlen]
    have hne : v ≠ 0 := by assumption
    refine innerA_spec (qual := qualA) (ns := List.replicate (Builtin.Int.intBits v) 0) 8 c2 (by k_asm) (news_2 (by k_asm)) (by k_all) ⟨⟨_, _, _, _, News.get (by k_asm) (by k_mem), rfl⟩, (WG.2.keeps (Fr.keep (by k_asm))), ⟨_, _, News.get (by k_asm) (by k_mem), by k_asm⟩, ⟨_, News.get (by k_asm) (by k_mem), by k_asm⟩, ⟨_, News.get (by k_asm) (by k_mem), by k_asm⟩⟩ (by rw [← hN0]; assumption)
      (by show dp + 1 + 8 < _; omega) (by show un + 3 + 8 * 8 < _; omega) (by decide) (by have := hb3 hne; omega) (by rw [List.length_replicate]; omega) (by omega) (by omega) hv0 (by rw [Int.sub_zero, Int.toNat_natCast]; exact hb2) ?_
    intro h2 tk2 vs2 F2 N2 i2
    (try dsimp only); (try k_fold)
    k_steps
    refine leaveK_ (by k_asm) (by k_asm) fun F4 N4 hN => ?_
    refine' hret _ _ _ _ F4 (news_pick1 N4 hN ?ha) ?hi (fun q hq => Nat.lt_trans (lt q hq) ?lt1) (Nat.lt_trans ltL ?lt1)
    case ha => k_mem
    case lt1 => (refine ltN ?_; omega)
    case hi =>
    rw [Int.sub_zero, Int.toNat_natCast, Int.toNat_zero, List.take_zero, List.nil_append, List.drop_eq_nil_of_le (by rw [List.length_replicate]; omega), List.append_nil] at i2
    exact i2
  · dsimp only
    k_steps
    have hz : v = 0 := by assumption
    refine leaveK_ (by k_asm) (by k_asm) fun F4 N4 hN => ?_
    refine' hret _ _ _ _ F4 (news_pick1 N4 hN ?ha) ?hi (fun q hq => Nat.lt_trans (lt q hq) ?lt1) (Nat.lt_trans ltL ?lt1)
    case ha => k_mem
    case lt1 => (refine ltN ?_; omega)
    case hi =>
    rw [show digs v = List.replicate (Builtin.Int.intBits v) 0 by rw [hz]; rfl, ← hN0]
    assumption
end
end Mine

end
/- part C3 -/
section
set_option maxRecDepth 100000
set_option maxHeartbeats 1000000
namespace Mine
local macro_rules | `(tactic| walk_at "idle 0") => `(tactic| skip)
local macro_rules | `(tactic| walk_at "idle 1") => `(tactic| skip)
local macro_rules | `(tactic| walk_at "idle 2") => `(tactic| skip)
local macro_rules | `(tactic| walk_at "idle 3") => `(tactic| skip)
local macro_rules | `(tactic| walk_at "binaryOp Mult ref int") => `(tactic| (k_here; (with_reducible show wpAny _ _ (binaryOp Operator.Mult (Value.ref _) (Value.int _ _)) _ _ _); (refine mul_zeros (by k_asm) (by k_asm) (by is_list) (by omega) (by omega) ?_); (intro D' h' vs' F' N' l1 i1); (try k_lt l1); (try k_sweep)))
local macro_rules | `(tactic| walk_at "call builtin:len") => `(tactic| (k_here; (with_reducible show wpAny _ _ (call (Value.builtin "len") [Value.ref _]) _ _ _); (refine len_ints (by k_asm) (by k_dflt k_mem) (by assumption) (by (simp only [List.length_replicate]); omega) ?_); intro _ _))

local macro_rules | `(tactic| walk_at "exec FunctionDef") => `(tactic| (k_here; kn_here; k_dflt (refine' nestDef_K ?d0 ?k0 ?a0 ?_; (case d0 => exact rfl); (case k0 => exact rfl); (case a0 => exact rfl)); k_dflt (refine' made_again ?F ?N ?T ?C ?cd ?P ?t ?n ?cl ?_; (case F => k_asm); (case N => k_asm); (case T => k_asm); (case cd => exact rfl); (case C => assumption); (case P => assumption); (case t => kn_triples); (case n => kn_hit); (case cl => exact rfl); k_whole); intro f' ct' dc' h' tk' F' N' l1; (try dsimp only at N'); (try k_lt l1)))

section
variable {prog : Program} {w : World} {p : Program} {loose : List Str} {mean : ExcName → Option Value} {mg mb : Str → Option Value}
  {A : Around} {h₀ : Heap} {L : Addr} {m : Str → Option Value} {s : Shared} {Q E : Value → Shared → Prop} {others : List (Addr × Obj)} {D : Addr} {vs : List Value} {ns : List Int} {t2 : Tok}

theorem d2i_warm {c' : Addr} (c : Cx (hd.heap_39 w.params) p loose mean mg mb A h₀ L) (F : Fr h₀ L s.heap m) (N : News h₀ L s.heap others) (W : Warm 23 inB qualB c' s.heap)
    (hdp : A.depth + 30 < recursionLimit) (hun : A.units + 200 < cLine) (hl : s.heap.IsList D vs.toArray) (hi : IntsAre vs ns) (hbit : ∀ d ∈ ns, 0 ≤ d ∧ d ≤ 1) (hlen : ns.length ≤ 16)
    (hret : ∀ t h' tk', Fr h₀ L h' m → News h₀ L h' others → Q (.int (valN ns) t) { s with heap := h', toks := tk' }) :
    wpAny (model prog w) A (call (.ref 28) [.ref D, .int 1 t2]) Q E s := by
  k_dflt (refine' enterK_cells (nw := []) c F N (fun q hq e => nomatch e) ?hl ?hcd ?hroom ?hbind ?hkind ?hnd ?_ ?c1 ?c2 ?c3; (case hl => k_is); (case hcd => k_is); (case hroom => omega); (case hbind => exact BindsTo.of_eq rfl); (case hkind => exact rfl); (case hnd => decide +kernel); (case c1 => exact rfl); (case c2 => exact rfl); (case c3 => exact rfl))
  intro g L' h₁ tk cells env outer A₀ base hA B c2 F' N' Y' B' X' T' sub st lt ltL
  have hh := c.hh
  obtain ⟨hnd, dp, frs, gd, un⟩ := A
  simp only at hA hh hdp hun
  subst hA hh
  k_cells Y'
  have WG : Warm 23 inB qualB c' g := W.keeps fun b o e => sub b o e (fun q => nomatch q)
  have hlG : g.IsList D vs.toArray := let ⟨o, e, r⟩ := hl; ⟨o, sub _ _ e (fun q => nomatch q), r⟩
  have hP16 : g.get? 23 = some (tabFor inB c') := WG.1
  (try simp only [List.cons_append, List.nil_append, List.append_nil] at N')
  have CA' := c2.CB
  k_unmd; (try dsimp only); k_fold
  k_steps
  · refine innerB_spec (qual := qualB) (D := D) hi hbit 16 c2 (by k_asm) (by k_asm) ⟨⟨_, _, _, _, News.get (by k_asm) (by k_mem), rfl⟩, (WG.2.keeps (Fr.keep (by k_asm))), ⟨_, _, News.get (by k_asm) (by k_mem), by k_asm⟩, ⟨_, News.get (by k_asm) (by k_mem), by k_asm⟩, ⟨_, News.get (by k_asm) (by k_mem), by k_asm⟩, let ⟨o, e, r⟩ := hlG; ⟨o, Fr.keep (by k_asm) _ _ e, r⟩⟩
      (by show dp + 1 + 16 < _; omega) (by show un + 3 + 8 * 16 < _; omega) (by decide) (by omega) (by omega) (by omega) (by omega) ?_
    intro h2 tk2 t3 F2 N2
    k_unfold
    dsimp only
    refine leaveK_ F2 N2 fun F4 N4 hN => int_at (by rw [seg_all]) (hret _ _ _ F4 hN)
  · refine leaveK_ (by k_asm) (by k_asm) fun F4 N4 hN => int_at ?_ (hret _ _ _ F4 hN)
    have hz : ¬ 0 < ns.length := by assumption
    rw [List.eq_nil_of_length_eq_zero (by omega : ns.length = 0)]
    rfl
end
end Mine

end
/- part C4 -/
section
set_option maxRecDepth 100000
set_option maxHeartbeats 1000000
namespace Mine
local macro_rules | `(tactic| walk_at "binaryOp Mult ref int") => `(tactic| (k_here; (with_reducible show wpAny _ _ (binaryOp Operator.Mult (Value.ref _) (Value.int _ _)) _ _ _); (refine mul_zeros (by k_asm) (by k_asm) (by is_list) (by omega) (by omega) ?_); (intro D' h' vs' F' N' l1 i1); (try k_lt l1); (try k_sweep)))
local macro_rules | `(tactic| walk_at "call builtin:len") => `(tactic| (k_here; (with_reducible show wpAny _ _ (call (Value.builtin "len") [Value.ref _]) _ _ _); (refine len_ints (by k_asm) (by k_dflt k_mem) (by assumption) (by (simp only [List.length_replicate]); omega) ?_); intro _ _))

section
variable {prog : Program} {w : World} {p : Program} {loose : List Str} {mean : ExcName → Option Value} {mg mb : Str → Option Value}
  {A : Around} {h₀ : Heap} {L : Addr} {m : Str → Option Value} {s : Shared} {Q E : Value → Shared → Prop} {others : List (Addr × Obj)} {D : Addr} {vs : List Value} {ns : List Int} {t2 : Tok}

theorem d2i_cold (c : Cx (hd.heap_39 w.params) p loose mean mg mb A h₀ L) (F : Fr h₀ L s.heap m) (N : News h₀ L s.heap ((23, tabObj #[]) :: others)) (dis : ∀ q ∈ others, q.1 ≠ 23)
    (hdp : A.depth + 30 < recursionLimit) (hun : A.units + 200 < cLine) (hl : s.heap.IsList D vs.toArray) (hi : IntsAre vs ns) (hbit : ∀ d ∈ ns, 0 ≤ d ∧ d ≤ 1) (hlen : ns.length ≤ 16)
    (hret : ∀ c' oc t h' tk', Fr h₀ L h' m → News h₀ L h' ((c', oc) :: (23, tabFor inB c') :: others) → CodeOk oc qualB → (∀ q ∈ (23, tabObj #[]) :: others, q.1 < c') → L < c' → Q (.int (valN ns) t) { s with heap := h', toks := tk' }) :
    wpAny (model prog w) A (call (.ref 28) [.ref D, .int 1 t2]) Q E s := by
  k_dflt (refine' enterK_cells (nw := [(23, tabObj #[])]) c F N (fun q hq e => dis q hq (by simpa using e)) ?hl ?hcd ?hroom ?hbind ?hkind ?hnd ?_ ?c1 ?c2 ?c3; (case hl => k_is); (case hcd => k_is); (case hroom => omega); (case hbind => exact BindsTo.of_eq rfl); (case hkind => exact rfl); (case hnd => decide +kernel); (case c1 => exact rfl); (case c2 => exact rfl); (case c3 => exact rfl))
  intro g L' h₁ tk cells env outer A₀ base hA B c2 F' N' Y' B' X' T' sub st lt ltL
  have hh := c.hh
  obtain ⟨hnd, dp, frs, gd, un⟩ := A
  simp only at hA hh hdp hun
  subst hA hh
  k_cells Y'
  have lt16 : (23 : Nat) < L' := lt _ List.mem_cons_self
  have hlG : g.IsList D vs.toArray := by
    obtain ⟨o, e, r1, r2⟩ := hl
    refine ⟨o, sub _ _ e (fun q => ?_), r1, r2⟩
    have e2 := (N _ List.mem_cons_self).1
    rw [List.mem_singleton.mp q, e2] at e
    cases e
    cases r1
  (try simp only [List.cons_append, List.nil_append, List.append_nil] at N')
  have CA' := c2.CB
  k_unmd; (try dsimp only); k_fold
  k_steps
  · refine innerB_spec (qual := qualB) (D := D) hi hbit 16 c2 (by k_asm) (by k_asm) ⟨⟨_, _, _, _, News.get (by k_asm) (by k_mem), rfl⟩, ⟨_, _, _, _, rfl, News.get (by k_asm) (by k_mem), by assumption, by assumption⟩, ⟨_, _, News.get (by k_asm) (by k_mem), by k_asm⟩, ⟨_, News.get (by k_asm) (by k_mem), by k_asm⟩, ⟨_, News.get (by k_asm) (by k_mem), by k_asm⟩, let ⟨o, e, r⟩ := hlG; ⟨o, Fr.keep (by k_asm) _ _ e, r⟩⟩
      (by show dp + 1 + 16 < _; omega) (by show un + 3 + 8 * 16 < _; omega) (by decide) (by omega) (by omega) (by omega) (by omega) ?_
    intro h2 tk2 t3 F2 N2
    k_unfold
    dsimp only
    refine leaveK_ F2 N2 fun F4 N4 hN => int_at (by rw [seg_all]) ?_
    refine' hret _ _ _ _ _ F4 (news_pick2 N4 hN ?hb ?hd) ⟨_, _, by assumption, by assumption⟩ (fun q hq => Nat.lt_trans (lt q hq) ?lt1) (Nat.lt_trans ltL ?lt1)
    case hd => k_mem
    case hb => k_mem
    case lt1 => (refine ltN ?_; omega)
  · refine leaveK_ (by k_asm) (by k_asm) fun F4 N4 hN => int_at (a := valN ns) ?hz ?_
    case hz =>
      have hz : ¬ 0 < ns.length := by assumption
      rw [List.eq_nil_of_length_eq_zero (by omega : ns.length = 0)]
      rfl
    refine' hret _ _ _ _ _ F4 (news_pick2 N4 hN ?hb ?hd) ⟨_, _, by assumption, by assumption⟩ (fun q hq => Nat.lt_trans (lt q hq) ?lt1) (Nat.lt_trans ltL ?lt1)
    case hd => k_mem
    case hb => k_mem
    case lt1 => (refine ltN ?_; omega)
end
end Mine

end
/- part C5 -/
section
set_option maxRecDepth 100000
set_option maxHeartbeats 1000000
namespace Mine
local macro_rules | `(tactic| walk_at "idle 0") => `(tactic| skip)
local macro_rules | `(tactic| walk_at "idle 1") => `(tactic| skip)
local macro_rules | `(tactic| walk_at "idle 2") => `(tactic| skip)
section
variable {prog : Program} {w : World} {p : Program} {loose : List Str} {mean : ExcName → Option Value} {mg mb : Str → Option Value}
local macro_rules | `(tactic| walk_at "call ref") => `(tactic| (k_here; (refine i2d_warm (by assumption) (by k_asm) (by k_asm) (Warm.keeps (by assumption) (Fr.keep (by k_asm))) (by assumption) (by assumption) (by assumption) (by assumption) ?_); (intro D' vs' h' tk' F' N' i1 l1 lD'); (try k_lt l1); (try dsimp only); (try k_fold)))


local macro_rules | `(tactic| walk_at "eval ListComp") => `(tactic| (k_here; k_dflt (refine' comp_enum ?g0 ?g1 ?g2 ?g3 ?g4 ?g5 ?g6 ?g7 ?g8 ?g9 ?g10 ?g11 ?_; (case g0 => k_asm); (case g1 => exact rfl); (case g2 => decide); (case g3 => decide); (case g4 => exact rfl); (case g5 => exact rfl); (case g6 => decide); (case g7 => exact rfl); (case g8 => exact rfl); (case g9 => decide); (case g10 => decide); (case g11 => (intro _; rfl)))))
local macro_rules | `(tactic| walk_at "call type:enumerate") => `(tactic| (k_here; (refine enum_made (by k_asm) (by k_asm) (by k_dflt k_mem) (by assumption) ?_); intro e' it' h' he' hit' hl' F' N' d1' d2' d3' d4'; (try dsimp only)))
variable {A : Around} {h₀ : Heap} {L : Addr} {m : Str → Option Value} {s : Shared} {Q E : Value → Shared → Prop} {others : List (Addr × Obj)} {v : Int} {t1 t2 : Tok}
theorem held_warm {c' : Addr} (c : Cx (hd.heap_39 w.params) p loose mean mg mb A h₀ L) (F : Fr h₀ L s.heap m) (N : News h₀ L s.heap others) (W : Warm 16 inA qualA c' s.heap)
    (hdp : A.depth + 30 < recursionLimit) (hun : A.units + 200 < cLine) (hv0 : 0 ≤ v) (hv : v < 64)
    (hret : ∀ D (vs : List Value) ep h' tk', Fr h₀ L h' m → News h₀ L h' ((D, listOf vs.toArray ep) :: others) → IntsAre vs (heldL v) → (∀ q ∈ others, q.1 < D) → L < D → Q (.ref D) { s with heap := h', toks := tk' }) :
    wpAny (model prog w) A (call (.ref 51) [.int v t1]) Q E s := by
  k_dflt (refine' enterK_plain (nw := []) c F N (fun q hq e => nomatch e) ?hl ?hcd ?hroom ?hbind ?hloc ?_ ?hcell ?c1 ?c2 ?c3; (case hl => k_is); (case hcd => k_is); (case hroom => omega); (case hbind => exact BindsTo.of_eq rfl); (case hloc => exact locs rfl); (case hcell => decide); (case c1 => exact rfl); (case c2 => exact rfl); (case c3 => exact rfl))
  intro g L' h₁ env outer A₀ base hA B c2 F' N' B' X' T' sub st lt ltL
  have hh := c.hh
  obtain ⟨hnd, dp, frs, gd, un⟩ := A
  simp only at hA hh hdp hun
  subst hA hh
  have WG : Warm 16 inA qualA c' g := W.keeps fun b o e => sub b o e (fun q => nomatch q)
  have hdp2 : dp + 1 + 20 < recursionLimit := by omega
  have hun2 : un + 3 + 100 < cLine := by omega
  k_unmd; (try dsimp only); k_fold
  k_steps
  refine ⟨_, _, _, _, digs v, _, _, rfl, by assumption, by assumption, by assumption, by assumption, ?_, by k_asm, by k_asm, by assumption, by assumption, by assumption, by assumption, ?_⟩
  · rw [digs, bitsN_length]; have := (bits_of hv0 hv).1; omega
  intro D2 h2 tk2 ys ep2 F2 N2 l2 lD i2
  k_unfold
  dsimp only
  refine leaveK_ F2 N2 fun F4 N4 hN => ?_
  refine' hret _ _ _ _ _ F4 (news_pick1 N4 hN ?ha) i2 (fun q hq => Nat.lt_trans (lt q hq) ?lt1) (Nat.lt_trans ltL ?lt1)
  case ha => k_mem
  case lt1 => exact lD
end
end Mine

end
/- part C6 -/
section
set_option maxRecDepth 100000
set_option maxHeartbeats 1000000
namespace Mine
local macro_rules | `(tactic| walk_at "idle 0") => `(tactic| skip)
local macro_rules | `(tactic| walk_at "idle 1") => `(tactic| skip)
local macro_rules | `(tactic| walk_at "idle 2") => `(tactic| skip)
local macro_rules | `(tactic| walk_at "idle 3") => `(tactic| skip)
local macro_rules | `(tactic| walk_at "idle 4") => `(tactic| skip)
local macro_rules | `(tactic| walk_at "idle 5") => `(tactic| skip)
local macro_rules | `(tactic| walk_at "idle 6") => `(tactic| skip)
section
variable {prog : Program} {w : World} {p : Program} {loose : List Str} {mean : ExcName → Option Value} {mg mb : Str → Option Value}
local macro_rules | `(tactic| walk_at "call ref") => `(tactic| (k_here; (refine i2d_cold (others := []) (by assumption) (by k_asm) (by k_asm) (fun _ hq => nomatch hq) (by assumption) (by assumption) (by assumption) (by assumption) ?_); (intro D' c' oc' vs' h' tk' F' N' i1 cr1 l1 l2 lD'); (try k_lt l1); (try dsimp only); (try k_fold)))


local macro_rules | `(tactic| walk_at "eval ListComp") => `(tactic| (k_here; k_dflt (refine' comp_enum ?g0 ?g1 ?g2 ?g3 ?g4 ?g5 ?g6 ?g7 ?g8 ?g9 ?g10 ?g11 ?_; (case g0 => k_asm); (case g1 => exact rfl); (case g2 => decide); (case g3 => decide); (case g4 => exact rfl); (case g5 => exact rfl); (case g6 => decide); (case g7 => exact rfl); (case g8 => exact rfl); (case g9 => decide); (case g10 => decide); (case g11 => (intro _; rfl)))))
local macro_rules | `(tactic| walk_at "call type:enumerate") => `(tactic| (k_here; (refine enum_made (by k_asm) (by k_asm) (by k_dflt k_mem) (by assumption) ?_); intro e' it' h' he' hit' hl' F' N' d1' d2' d3' d4'; (try dsimp only)))
variable {A : Around} {h₀ : Heap} {L : Addr} {m : Str → Option Value} {s : Shared} {Q E : Value → Shared → Prop} {others : List (Addr × Obj)} {v : Int} {t1 t2 : Tok}
theorem held_cold (c : Cx (hd.heap_39 w.params) p loose mean mg mb A h₀ L) (F : Fr h₀ L s.heap m) (N : News h₀ L s.heap ((16, tabObj #[]) :: others)) (dis : ∀ q ∈ others, q.1 ≠ 16)
    (hdp : A.depth + 30 < recursionLimit) (hun : A.units + 200 < cLine) (hv0 : 0 ≤ v) (hv : v < 64)
    (hret : ∀ D c' oc (vs : List Value) ep h' tk', Fr h₀ L h' m → News h₀ L h' ((D, listOf vs.toArray ep) :: (c', oc) :: (16, tabFor inA c') :: others) → IntsAre vs (heldL v) → CodeOk oc qualA → (∀ q ∈ (16, tabObj #[]) :: others, q.1 < c') → (∀ q ∈ (16, tabObj #[]) :: others, q.1 < D) → c' < D → L < c' → Q (.ref D) { s with heap := h', toks := tk' }) :
    wpAny (model prog w) A (call (.ref 51) [.int v t1]) Q E s := by
  k_dflt (refine' enterK_plain (nw := [(16, tabObj #[])]) c F N (fun q hq e => dis q hq (by simpa using e)) ?hl ?hcd ?hroom ?hbind ?hloc ?_ ?hcell ?c1 ?c2 ?c3; (case hl => k_is); (case hcd => k_is); (case hroom => omega); (case hbind => exact BindsTo.of_eq rfl); (case hloc => exact locs rfl); (case hcell => decide); (case c1 => exact rfl); (case c2 => exact rfl); (case c3 => exact rfl))
  intro g L' h₁ env outer A₀ base hA B c2 F' N' B' X' T' sub st lt ltL
  have hh := c.hh
  obtain ⟨hnd, dp, frs, gd, un⟩ := A
  simp only at hA hh hdp hun
  subst hA hh
  have hdp2 : dp + 1 + 20 < recursionLimit := by omega
  have hun2 : un + 3 + 100 < cLine := by omega
  k_unmd; (try dsimp only); k_fold
  k_steps
  refine ⟨_, _, _, _, digs v, _, _, rfl, by assumption, by assumption, by assumption, by assumption, ?_, by k_asm, by k_asm, by assumption, by assumption, by assumption, by assumption, ?_⟩
  · rw [digs, bitsN_length]; have := (bits_of hv0 hv).1; omega
  intro D2 h2 tk2 ys ep2 F2 N2 l2 lD i2
  k_unfold
  dsimp only
  refine leaveK_ F2 N2 fun F4 N4 hN => ?_
  refine' hret _ _ _ _ _ _ _ F4 (news_pick3 N4 hN ?ha ?hb ?hd) i2 (by assumption) (fun q hq => Nat.lt_trans (lt q hq) ?lt1) (fun q hq => Nat.lt_trans (lt q hq) lD) ?lt2 (Nat.lt_trans ltL ?lt1)
  case hd => k_mem
  case ha => k_mem
  case hb => k_mem
  case lt1 =>
    refine Nat.lt_trans (m := ?mm) ?q1 ?q2
    case q2 => assumption
    case q1 => assumption
  case lt2 => exact l2 _ (List.mem_cons_of_mem _ List.mem_cons_self)
end
end Mine

end
/- part D1 -/
section
set_option maxRecDepth 100000
set_option maxHeartbeats 1000000
namespace Mine
local macro_rules | `(tactic| walk_at "exec For") => `(tactic| (k_here; k_dflt (refine' for_stop ?g1 ?g2 ?g3 ?_ ?g5 ?g6; (case g1 => k_asm); (case g2 => exact rfl); (case g3 => exact rfl); (case g5 => (intro _; rfl)); (case g6 => passes_own))))
local macro_rules | `(tactic| walk_at "eval Name") => `(tactic| (k_here; k_dflt (refine' nameX_L ?F ?v ?_ ?a ?b; (case F => k_asm); (case a => rfl); (case b => rfl); (case v => first | rfl | assumption); k_whole)))
section
variable {prog : Program} {w : World} {p : Program} {loose : List Str} {mean : ExcName → Option Value} {mg mb : Str → Option Value}
  {A : Around} {h₀ : Heap} {L : Addr} {m : Str → Option Value} {s : Shared} {Q E : Value → Shared → Prop} {others : List (Addr × Obj)} {l : Addr} {vs : List Value} {ns : List Int}
theorem lot_warm {c' : Addr} (c : Cx (hd.heap_39 w.params) p loose mean mg mb A h₀ L) (F : Fr h₀ L s.heap m) (N : News h₀ L s.heap others) (W : Warm 23 inB qualB c' s.heap)
    (hdp : A.depth + 40 < recursionLimit) (hun : A.units + 300 < cLine) (hl : s.heap.IsList l vs.toArray) (hi : IntsAre vs ns) (hb : ∀ n ∈ ns, 0 ≤ n ∧ n ≤ 15) (hlen : ns.length ≤ 100)
    (hret : ∀ t h' tk', Fr h₀ L h' m → News h₀ L h' others → Q (.int (lotF ns) t) { s with heap := h', toks := tk' }) :
    wpAny (model prog w) A (call (.ref 58) [.ref l]) Q E s := by
  k_dflt (refine' enterK_plain (nw := []) c F N (fun q hq e => nomatch e) ?hl ?hcd ?hroom ?hbind ?hloc ?_ ?hcell ?c1 ?c2 ?c3; (case hl => k_is); (case hcd => k_is); (case hroom => omega); (case hbind => exact BindsTo.of_eq rfl); (case hloc => exact locs rfl); (case hcell => decide); (case c1 => exact rfl); (case c2 => exact rfl); (case c3 => exact rfl))
  intro g L' h₁ env outer A₀ base hA B c2 F' N' B' X' T' sub st lt ltL
  have hh := c.hh
  obtain ⟨hnd, dp, frs, gd, un⟩ := A
  simp only at hA hh hdp hun
  subst hA hh
  have WG : Warm 23 inB qualB c' g := W.keeps fun b o e => sub b o e (fun q => nomatch q)
  have hlG : g.IsList l vs.toArray := let ⟨o, e, r⟩ := hl; ⟨o, sub _ _ e (fun q => nomatch q), r⟩
  k_unmd; (try dsimp only); k_fold
  k_steps
  rename_i M t9 k9 F9 N9 a9 b9
  have hM0 : 0 ≤ M := b9 0 (by simp)
  have hM1 : M ≤ 15 := by
    rcases List.mem_append.mp a9 with h | h
    · rw [List.mem_singleton.mp h]; decide
    · exact (hb _ h).2
  refine mul_zeros (by k_asm) (by k_asm) (by is_list) (by omega) (by omega) ?_
  intro D1 h2 vs2 F2 N2 l2 i2
  (try k_lt l2); (try dsimp only); (try k_fold)
  k_steps
  rename_i h5 F5 N5
  have N6 : News g L' h5 [(D1, listOf vs2.toArray 0)] := fun q hq => N5 q (by rw [List.mem_singleton.mp hq]; exact List.mem_cons_self)
  obtain ⟨m5, hfig, F6⟩ : ∃ m5, m5 (Str.ofString "figures") = some (Value.ref D1) ∧ Fr g L' h5 m5 := ⟨_, rfl, F5⟩
  clear F5 N5
  unfold ForSrc
  refine iter_invN (fun i m₁ news₁ => (∃ f, m₁ = fun y => if y = Str.ofString "number" then f else m5 y) ∧ ∃ vs3, news₁ = [(D1, listOf vs3.toArray 0)] ∧ IntsAre vs3 ((ns.take i).foldl (fun f n => f.set n.toNat 1) (List.replicate (1 + M).toNat 0))) rfl hlG hi F6 N6 ⟨⟨m5 (Str.ofString "number"), funext fun y => ?_⟩, vs2, rfl, i2⟩ ?_ ?_
  · by_cases hy : y = Str.ofString "number"
    · rw [if_pos hy, hy]
    · rw [if_neg hy]
  · rintro i n t m₁ news₁ h7 tk7 own hn hadr hoff ⟨⟨f, rfl⟩, vs3, rfl, i3⟩ F7 N7
    have hn2 := hb n (List.mem_of_getElem? hn)
    have hn3 := b9 n (List.mem_append_right _ (List.mem_of_getElem? hn))
    have hlen3 := sets_len (ns.take i) (List.replicate (1 + M).toNat 0)
    rw [List.length_replicate] at hlen3
    (try k_fold)
    k_steps
    refine ⟨_, _, _, _, [(D1, listOf (vs3.set n.toNat (Value.int 1 _)).toArray 0)], rfl, by k_asm, by k_asm, fun q hq => List.mem_append_left own hq, fun q hq => List.mem_append_right _ hq, rfl, ⟨some (Value.int n t), funext fun y => ?_⟩, _, rfl, ?_⟩
    · by_cases hy : y = Str.ofString "number"
      · rw [if_pos hy, if_pos hy]
      · simp only [if_neg hy]
    · rw [List.take_add_one, hn, List.foldl_append]; assumption
  · rintro m₁ news₁ h7 tk7 ⟨⟨f, rfl⟩, vs3, rfl, i3⟩ F7 N7
    rw [List.take_length] at i3
    (try dsimp only); (try k_fold)
    k_steps
    have hM := mx_is a9 b9
    refine d2i_warm c2 (by k_asm) (by k_asm) (WG.keeps (Fr.keep (by k_asm))) (by show dp + 1 + 30 < _; omega) (by show un + 3 + 200 < _; omega) ⟨_, (N7 _ List.mem_cons_self).1, rfl, 0, rfl⟩ i3 (figs_bits ns _) (by rw [sets_len, List.length_replicate]; omega) ?_
    intro t8 h8 tk8 F8 N8
    k_unfold
    dsimp only
    refine leaveK_ F8 N8 fun F4 N4 hN => int_at ?_ (hret _ _ _ F4 hN)
    rw [lotF, ← hM]; rfl
end
end Mine

end
/- part D2 -/
section
set_option maxRecDepth 100000
set_option maxHeartbeats 1000000
namespace Mine
local macro_rules | `(tactic| walk_at "idle 0") => `(tactic| skip)
local macro_rules | `(tactic| walk_at "idle 1") => `(tactic| skip)
local macro_rules | `(tactic| walk_at "idle 2") => `(tactic| skip)
local macro_rules | `(tactic| walk_at "exec For") => `(tactic| (k_here; k_dflt (refine' for_stop ?g1 ?g2 ?g3 ?_ ?g5 ?g6; (case g1 => k_asm); (case g2 => exact rfl); (case g3 => exact rfl); (case g5 => (intro _; rfl)); (case g6 => passes_own))))
local macro_rules | `(tactic| walk_at "eval Name") => `(tactic| (k_here; k_dflt (refine' nameX_L ?F ?v ?_ ?a ?b; (case F => k_asm); (case a => rfl); (case b => rfl); (case v => first | rfl | assumption); k_whole)))
section
variable {prog : Program} {w : World} {p : Program} {loose : List Str} {mean : ExcName → Option Value} {mg mb : Str → Option Value}
  {A : Around} {h₀ : Heap} {L : Addr} {m : Str → Option Value} {s : Shared} {Q E : Value → Shared → Prop} {others : List (Addr × Obj)} {l : Addr} {vs : List Value} {ns : List Int}
theorem lot_cold (c : Cx (hd.heap_39 w.params) p loose mean mg mb A h₀ L) (F : Fr h₀ L s.heap m) (N : News h₀ L s.heap ((23, tabObj #[]) :: others)) (dis : ∀ q ∈ others, q.1 ≠ 23)
    (hdp : A.depth + 40 < recursionLimit) (hun : A.units + 300 < cLine) (hl : s.heap.IsList l vs.toArray) (hi : IntsAre vs ns) (hb : ∀ n ∈ ns, 0 ≤ n ∧ n ≤ 15) (hlen : ns.length ≤ 100)
    (hret : ∀ c' oc t h' tk', Fr h₀ L h' m → News h₀ L h' ((c', oc) :: (23, tabFor inB c') :: others) → CodeOk oc qualB → (∀ q ∈ (23, tabObj #[]) :: others, q.1 < c') → L < c' → Q (.int (lotF ns) t) { s with heap := h', toks := tk' }) :
    wpAny (model prog w) A (call (.ref 58) [.ref l]) Q E s := by
  k_dflt (refine' enterK_plain (nw := [(23, tabObj #[])]) c F N (fun q hq e => dis q hq (by simpa using e)) ?hl ?hcd ?hroom ?hbind ?hloc ?_ ?hcell ?c1 ?c2 ?c3; (case hl => k_is); (case hcd => k_is); (case hroom => omega); (case hbind => exact BindsTo.of_eq rfl); (case hloc => exact locs rfl); (case hcell => decide); (case c1 => exact rfl); (case c2 => exact rfl); (case c3 => exact rfl))
  intro g L' h₁ env outer A₀ base hA B c2 F' N' B' X' T' sub st lt ltL
  have hh := c.hh
  obtain ⟨hnd, dp, frs, gd, un⟩ := A
  simp only at hA hh hdp hun
  subst hA hh
  have lt23 : (23 : Nat) < L' := lt _ List.mem_cons_self
  have hlG : g.IsList l vs.toArray := by
    obtain ⟨o, e, r1, r2⟩ := hl
    refine ⟨o, sub _ _ e (fun q => ?_), r1, r2⟩
    have e2 := (N _ List.mem_cons_self).1
    rw [List.mem_singleton.mp q, e2] at e
    cases e
    cases r1
  k_unmd; (try dsimp only); k_fold
  k_steps
  rename_i M t9 k9 F9 N9 a9 b9
  have hM0 : 0 ≤ M := b9 0 (by simp)
  have hM1 : M ≤ 15 := by
    rcases List.mem_append.mp a9 with h | h
    · rw [List.mem_singleton.mp h]; decide
    · exact (hb _ h).2
  refine mul_zeros (by k_asm) (by k_asm) (by is_list) (by omega) (by omega) ?_
  intro D1 h2 vs2 F2 N2 l2 i2
  (try k_lt l2); (try dsimp only); (try k_fold)
  k_steps
  rename_i h5 F5 N5
  have N6 : News g L' h5 [(D1, listOf vs2.toArray 0), (23, tabObj #[])] := fun q hq => N5 q (by
    simp only [List.mem_cons, List.not_mem_nil, or_false] at hq ⊢
    rcases hq with h | h
    · exact .inl h
    · simp [h])
  obtain ⟨m5, hfig, F6⟩ : ∃ m5, m5 (Str.ofString "figures") = some (Value.ref D1) ∧ Fr g L' h5 m5 := ⟨_, rfl, F5⟩
  clear F5 N5
  unfold ForSrc
  refine iter_invN (fun i m₁ news₁ => (∃ f, m₁ = fun y => if y = Str.ofString "number" then f else m5 y) ∧ ∃ vs3, news₁ = [(D1, listOf vs3.toArray 0), (23, tabObj #[])] ∧ IntsAre vs3 ((ns.take i).foldl (fun f n => f.set n.toNat 1) (List.replicate (1 + M).toNat 0))) rfl hlG hi F6 N6 ⟨⟨m5 (Str.ofString "number"), funext fun y => ?_⟩, vs2, rfl, i2⟩ ?_ ?_
  · by_cases hy : y = Str.ofString "number"
    · rw [if_pos hy, hy]
    · rw [if_neg hy]
  · rintro i n t m₁ news₁ h7 tk7 own hn hadr hoff ⟨⟨f, rfl⟩, vs3, rfl, i3⟩ F7 N7
    have hn2 := hb n (List.mem_of_getElem? hn)
    have hn3 := b9 n (List.mem_append_right _ (List.mem_of_getElem? hn))
    have hlen3 := sets_len (ns.take i) (List.replicate (1 + M).toNat 0)
    rw [List.length_replicate] at hlen3
    (try k_fold)
    k_steps
    refine ⟨_, _, _, _, [(D1, listOf (vs3.set n.toNat (Value.int 1 _)).toArray 0), (23, tabObj #[])], rfl, by k_asm, by k_asm, fun q hq => List.mem_append_left own hq, fun q hq => List.mem_append_right _ hq, rfl, ⟨some (Value.int n t), funext fun y => ?_⟩, _, rfl, ?_⟩
    · by_cases hy : y = Str.ofString "number"
      · rw [if_pos hy, if_pos hy]
      · simp only [if_neg hy]
    · rw [List.take_add_one, hn, List.foldl_append]; assumption
  · rintro m₁ news₁ h7 tk7 ⟨⟨f, rfl⟩, vs3, rfl, i3⟩ F7 N7
    rw [List.take_length] at i3
    (try dsimp only); (try k_fold)
    k_steps
    have hM := mx_is a9 b9
    refine d2i_cold c2 (by k_asm) (news_2 (by k_asm)) (by k_all) (by show dp + 1 + 30 < _; omega) (by show un + 3 + 200 < _; omega) ⟨_, (N7 _ List.mem_cons_self).1, rfl, 0, rfl⟩ i3 (figs_bits ns _) (by rw [sets_len, List.length_replicate]; omega) ?_
    intro c' oc t8 h8 tk8 F8 N8 ok8 l8 lL8
    k_unfold
    dsimp only
    refine leaveK_ F8 N8 fun F4 N4 hN => int_at ?_ (hret _ _ _ _ _ F4 (news_pick2 N4 hN List.mem_cons_self (List.mem_cons_of_mem _ List.mem_cons_self)) ok8 (fun q hq => Nat.lt_trans (lt q hq) lL8) (Nat.lt_trans ltL lL8))
    rw [lotF, ← hM]; rfl
end
end Mine

end
/- part E1 -/
section
set_option maxRecDepth 100000
set_option maxHeartbeats 1000000
namespace Mine
local macro_rules | `(tactic| walk_at "exec While Compare cons nil") => `(tactic| (k_here; refine stop ?_))
local macro_rules | `(tactic| walk_at "eval Name") => `(tactic| (k_here; k_dflt (refine' nameX_L ?F ?v ?_ ?a ?b; (case F => k_asm); (case a => rfl); (case b => rfl); (case v => first | rfl | assumption); k_whole)))
theorem mid_int (lo hi : Nat) : ((lo : Int) + (hi : Int)).fdiv 2 = (((lo + hi) / 2 : Nat) : Int) := by
  rw [Int.fdiv_eq_ediv_of_nonneg _ (by decide)]
  omega
theorem mid_int1 (lo hi : Nat) : ((lo : Int) + (hi : Int)).fdiv 2 + 1 = (((lo + hi) / 2 + 1 : Nat) : Int) := by
  rw [mid_int]; rfl
theorem mid_is (lo hi : Nat) : (((lo : Int) + (hi : Int)).fdiv 2).toNat = (lo + hi) / 2 := by
  rw [mid_int]; rfl
theorem mid_between {lo hi : Nat} (h : (lo : Int) < (hi : Int)) : lo ≤ (lo + hi) / 2 ∧ (lo + hi) / 2 < hi := by omega
section
variable {prog : Program} {w : World} {p : Program} {loose : List Str} {mean : ExcName → Option Value} {mg mb : Str → Option Value}
  {A : Around} {h₀ : Heap} {L : Addr} {m : Str → Option Value} {s : Shared} {Q E : Value → Shared → Prop} {others : List (Addr × Obj)} {l : Addr} {vs : List Value} {ns : List Int} {x : Int} {tx : Tok}
theorem bisect_two (c : Cx (hd.heap_39 w.params) p loose mean mg mb A h₀ L) (F : Fr h₀ L s.heap m) (N : News h₀ L s.heap others)
    (hdp : A.depth + 10 < recursionLimit) (hun : A.units + 100 < cLine) (hl : s.heap.IsList l vs.toArray) (hi : IntsAre vs ns) (hup : Upw ns) (hlen : ns.length ≤ 1000)
    (hret : ∀ t h' tk', Fr h₀ L h' m → News h₀ L h' others → Q (.int (bisF ns x) t) { s with heap := h', toks := tk' }) :
    wpAny (model prog w) A (call (.ref 46) [.ref l, .int x tx]) Q E s := by
  k_dflt (refine' enterK_plain (nw := []) c F N (fun q hq e => nomatch e) ?hl ?hcd ?hroom ?hbind ?hloc ?_ ?hcell ?c1 ?c2 ?c3; (case hl => k_is); (case hcd => k_is); (case hroom => omega); (case hbind => (refine' kp_binds ?kx ?ke; (case kx => exact fun b o e => F.keep _ _ (c.X b o e)); (case ke => exact fun _ => rfl))); (case hloc => exact locs rfl); (case hcell => decide); (case c1 => exact rfl); (case c2 => exact rfl); (case c3 => exact rfl))
  intro g L' h₁ env outer A₀ base hA B c2 F' N' B' X' T' sub st lt ltL
  have hh := c.hh
  obtain ⟨hnd, dp, frs, gd, un⟩ := A
  simp only at hA hh hdp hun
  subst hA hh
  have hlG : g.IsList l vs.toArray := let ⟨o, e, r⟩ := hl; ⟨o, sub _ _ e (fun q => nomatch q), r⟩
  k_unmd; (try dsimp only); k_fold
  k_steps
  refine While_inv (fun n m₁ news₁ => ∃ (lo hi : Nat) (tl th : Tok), lo ≤ hi ∧ hi ≤ ns.length ∧ (∀ i, i < lo → ns.getD i 0 < x) ∧ (∀ i, hi ≤ i → i < ns.length → x ≤ ns.getD i 0) ∧ n = hi - lo ∧ m₁ "lo" = some (.int (lo : Int) tl) ∧ m₁ "hi" = some (.int (hi : Int) th) ∧ m₁ "a" = some (.ref l) ∧ m₁ "x" = some (.int x tx) ∧ news₁ = []) (n₀ := ns.length) (by k_asm) (by k_asm) ?_ ?_
  · exact ⟨0, ns.length, _, _, Nat.zero_le _, Nat.le_refl _, fun i h => absurd h (Nat.not_lt_zero _), fun i h1 h2 => absurd h2 (by omega), by omega, rfl, rfl, rfl, rfl, rfl⟩
  · rintro n m₁ news₁ h₁' tk₁' F5 N5 ⟨lo, hi', tl, th, k1, k2, k3, k4, rfl, e1, e2, e3, e4, rfl⟩
    k_fold
    k_steps
    · have hlt : (lo : Int) < (hi' : Int) := by assumption
      have hcmp : ns.getD (((lo : Int) + (hi' : Int)).fdiv 2).toNat 0 < x := by assumption
      have hm := mid_is lo hi'
      have hb := mid_between hlt
      rw [hm] at hcmp
      refine' WhileStep.intro (n' := hi' - ((lo + hi') / 2 + 1)) ?WF ?WN ?Wn ?WJ
      case WF => k_asm
      case WN => k_asm
      case Wn => omega
      case WJ =>
        refine' ⟨(lo + hi') / 2 + 1, hi', _, th, ?j1, k2, ?j2, k4, rfl, ?j3, e2, e3, e4, rfl⟩
        case j3 => exact congrArg (fun z => some (Value.int z _)) (mid_int1 lo hi')
        case j1 => omega
        case j2 =>
          intro i h
          exact Int.lt_of_le_of_lt (hup i ((lo + hi') / 2) (by omega) (by omega)) hcmp
    · have hlt : (lo : Int) < (hi' : Int) := by assumption
      have hcmp : ¬ ns.getD (((lo : Int) + (hi' : Int)).fdiv 2).toNat 0 < x := by assumption
      have hm := mid_is lo hi'
      have hb := mid_between hlt
      rw [hm] at hcmp
      refine' WhileStep.intro (n' := (lo + hi') / 2 - lo) ?WF2 ?WN2 ?Wn2 ?WJ2
      case WF2 => k_asm
      case WN2 => k_asm
      case Wn2 => omega
      case WJ2 =>
        refine' ⟨lo, (lo + hi') / 2, tl, _, ?j1, ?j4, k3, ?j2, rfl, e1, ?j3, e3, e4, rfl⟩
        case j3 => exact congrArg (fun z => some (Value.int z _)) (mid_int lo hi')
        case j1 => omega
        case j4 => omega
        case j2 =>
          intro i h1 h2
          exact Int.le_trans (Int.not_lt.mp hcmp) (hup ((lo + hi') / 2) i h1 h2)
    · have hge : ¬ (lo : Int) < (hi' : Int) := by assumption
      dsimp only
      k_steps
      show LeaveK h₀ L m g (Back h₀ L others Q E) (.int (lo : Int) tl) _
      refine leaveK_ F5 N5 fun F6 N6 hN => ?_
      have hb : bisF ns x = (lo : Int) := bisF_is (by omega) k3 (fun i h => k4 i (by omega))
      rw [← hb]
      exact hret _ _ _ F6 hN
end
end Mine

end
/- part E2 -/
section
set_option maxRecDepth 100000
set_option maxHeartbeats 1000000
namespace Mine
local macro_rules | `(tactic| walk_at "idle 0") => `(tactic| skip)
local macro_rules | `(tactic| walk_at "idle 1") => `(tactic| skip)
local macro_rules | `(tactic| walk_at "idle 2") => `(tactic| skip)
local macro_rules | `(tactic| walk_at "exec While Compare cons nil") => `(tactic| (k_here; refine stop ?_))
local macro_rules | `(tactic| walk_at "eval Name") => `(tactic| (k_here; k_dflt (refine' nameX_L ?F ?v ?_ ?a ?b; (case F => k_asm); (case a => rfl); (case b => rfl); (case v => first | rfl | assumption); k_whole)))
section
variable {prog : Program} {w : World} {p : Program} {loose : List Str} {mean : ExcName → Option Value} {mg mb : Str → Option Value}
  {A : Around} {h₀ : Heap} {L : Addr} {m : Str → Option Value} {s : Shared} {Q E : Value → Shared → Prop} {others : List (Addr × Obj)} {l : Addr} {vs : List Value} {ns : List Int} {x : Int} {tx t0 : Tok}
theorem bisect_four (c : Cx (hd.heap_39 w.params) p loose mean mg mb A h₀ L) (F : Fr h₀ L s.heap m) (N : News h₀ L s.heap others)
    (hdp : A.depth + 10 < recursionLimit) (hun : A.units + 100 < cLine) (hl : s.heap.IsList l vs.toArray) (hi : IntsAre vs ns) (hup : Upw ns) (hlen : ns.length ≤ 1000)
    (hret : ∀ t h' tk', Fr h₀ L h' m → News h₀ L h' others → Q (.int (bisF ns x) t) { s with heap := h', toks := tk' }) :
    wpAny (model prog w) A (call (.ref 46) [.ref l, .int x tx, .int 0 t0, .none]) Q E s := by
  k_dflt (refine' enterK_plain (nw := []) c F N (fun q hq e => nomatch e) ?hl ?hcd ?hroom ?hbind ?hloc ?_ ?hcell ?c1 ?c2 ?c3; (case hl => k_is); (case hcd => k_is); (case hroom => omega); (case hbind => (refine' kp_binds ?kx ?ke; (case kx => exact fun b o e => F.keep _ _ (c.X b o e)); (case ke => exact fun _ => rfl))); (case hloc => exact locs rfl); (case hcell => decide); (case c1 => exact rfl); (case c2 => exact rfl); (case c3 => exact rfl))
  intro g L' h₁ env outer A₀ base hA B c2 F' N' B' X' T' sub st lt ltL
  have hh := c.hh
  obtain ⟨hnd, dp, frs, gd, un⟩ := A
  simp only at hA hh hdp hun
  subst hA hh
  have hlG : g.IsList l vs.toArray := let ⟨o, e, r⟩ := hl; ⟨o, sub _ _ e (fun q => nomatch q), r⟩
  k_unmd; (try dsimp only); k_fold
  k_steps
  refine While_inv (fun n m₁ news₁ => ∃ (lo hi : Nat) (tl th : Tok), lo ≤ hi ∧ hi ≤ ns.length ∧ (∀ i, i < lo → ns.getD i 0 < x) ∧ (∀ i, hi ≤ i → i < ns.length → x ≤ ns.getD i 0) ∧ n = hi - lo ∧ m₁ "lo" = some (.int (lo : Int) tl) ∧ m₁ "hi" = some (.int (hi : Int) th) ∧ m₁ "a" = some (.ref l) ∧ m₁ "x" = some (.int x tx) ∧ news₁ = []) (n₀ := ns.length) (by k_asm) (by k_asm) ?_ ?_
  · exact ⟨0, ns.length, _, _, Nat.zero_le _, Nat.le_refl _, fun i h => absurd h (Nat.not_lt_zero _), fun i h1 h2 => absurd h2 (by omega), by omega, rfl, rfl, rfl, rfl, rfl⟩
  · rintro n m₁ news₁ h₁' tk₁' F5 N5 ⟨lo, hi', tl, th, k1, k2, k3, k4, rfl, e1, e2, e3, e4, rfl⟩
    k_fold
    k_steps
    · have hlt : (lo : Int) < (hi' : Int) := by assumption
      have hcmp : ns.getD (((lo : Int) + (hi' : Int)).fdiv 2).toNat 0 < x := by assumption
      have hm := mid_is lo hi'
      have hb := mid_between hlt
      rw [hm] at hcmp
      refine' WhileStep.intro (n' := hi' - ((lo + hi') / 2 + 1)) ?WF ?WN ?Wn ?WJ
      case WF => k_asm
      case WN => k_asm
      case Wn => omega
      case WJ =>
        refine' ⟨(lo + hi') / 2 + 1, hi', _, th, ?j1, k2, ?j2, k4, rfl, ?j3, e2, e3, e4, rfl⟩
        case j3 => exact congrArg (fun z => some (Value.int z _)) (mid_int1 lo hi')
        case j1 => omega
        case j2 =>
          intro i h
          exact Int.lt_of_le_of_lt (hup i ((lo + hi') / 2) (by omega) (by omega)) hcmp
    · have hlt : (lo : Int) < (hi' : Int) := by assumption
      have hcmp : ¬ ns.getD (((lo : Int) + (hi' : Int)).fdiv 2).toNat 0 < x := by assumption
      have hm := mid_is lo hi'
      have hb := mid_between hlt
      rw [hm] at hcmp
      refine' WhileStep.intro (n' := (lo + hi') / 2 - lo) ?WF2 ?WN2 ?Wn2 ?WJ2
      case WF2 => k_asm
      case WN2 => k_asm
      case Wn2 => omega
      case WJ2 =>
        refine' ⟨lo, (lo + hi') / 2, tl, _, ?j1, ?j4, k3, ?j2, rfl, e1, ?j3, e3, e4, rfl⟩
        case j3 => exact congrArg (fun z => some (Value.int z _)) (mid_int lo hi')
        case j1 => omega
        case j4 => omega
        case j2 =>
          intro i h1 h2
          exact Int.le_trans (Int.not_lt.mp hcmp) (hup ((lo + hi') / 2) i h1 h2)
    · have hge : ¬ (lo : Int) < (hi' : Int) := by assumption
      dsimp only
      k_steps
      show LeaveK h₀ L m g (Back h₀ L others Q E) (.int (lo : Int) tl) _
      refine leaveK_ F5 N5 fun F6 N6 hN => ?_
      have hb : bisF ns x = (lo : Int) := bisF_is (by omega) k3 (fun i h => k4 i (by omega))
      rw [← hb]
      exact hret _ _ _ F6 hN
end
end Mine

end
/- part E3 -/
section
set_option maxRecDepth 100000
set_option maxHeartbeats 1000000
namespace Mine
local macro_rules | `(tactic| walk_at "idle 0") => `(tactic| skip)
local macro_rules | `(tactic| walk_at "idle 1") => `(tactic| skip)
local macro_rules | `(tactic| walk_at "idle 2") => `(tactic| skip)
local macro_rules | `(tactic| walk_at "idle 3") => `(tactic| skip)
local macro_rules | `(tactic| walk_at "idle 4") => `(tactic| skip)
local macro_rules | `(tactic| walk_at "idle 5") => `(tactic| skip)
local macro_rules | `(tactic| walk_at "eval Name") => `(tactic| (k_here; k_dflt (refine' nameX_L ?F ?v ?_ ?a ?b; (case F => k_asm); (case a => rfl); (case b => rfl); (case v => first | rfl | assumption); k_whole)))
section
variable {prog : Program} {w : World} {p : Program} {loose : List Str} {mean : ExcName → Option Value} {mg mb : Str → Option Value}
theorem bis_zero {A : Around} {h₀ : Heap} {L : Addr} {m : Str → Option Value} {s : Shared} {Q E : Value → Shared → Prop} {others : List (Addr × Obj)} {l : Addr} {vs : List Value} {ns : List Int} {x : Int} {tx t0 : Tok}
    (c : Cx (hd.heap_39 w.params) p loose mean mg mb A h₀ L) (F : Fr h₀ L s.heap m) (N : News h₀ L s.heap others)
    (hdp : A.depth + 10 < recursionLimit) (hun : A.units + 100 < cLine) (hl : s.heap.IsList l vs.toArray) (hi : IntsAre vs ns) (hup : Upw ns) (hlen : ns.length ≤ 1000) (hz : bisF ns x = 0)
    (hret : ∀ t h' tk', Fr h₀ L h' m → News h₀ L h' others → Q (.int 0 t) { s with heap := h', toks := tk' }) :
    wpAny (model prog w) A (call (.ref 46) [.ref l, .int x tx, .int 0 t0, .none]) Q E s :=
  bisect_four c F N hdp hun hl hi hup hlen fun t h' tk' F' N' => hz ▸ hret t h' tk' F' N'
local macro_rules | `(tactic| walk_at "call builtin:list.insert") => `(tactic| (k_here; k_dflt (refine' kl_insert ?F ?N ?f ?e ?U ?z ?_; (case F => k_asm); (case N => k_asm); (case U => k_upd); (case f => rfl); (case e => rfl); (case z => assumption)); (intro h' F' N')))
local macro_rules | `(tactic| walk_at "call ref") => `(tactic| (k_here; k_dflt (refine' bis_zero ?c ?F ?N ?d ?u ?hl ?hi ?up ?len ?hz ?_; (case hz => assumption); (case c => assumption); (case F => k_asm); (case N => k_asm); (case d => assumption); (case u => assumption); (case hl => assumption); (case hi => assumption); (case up => assumption); (case len => assumption)); (intro t' h' tk' F' N'); (try dsimp only); (try k_fold)))
variable {A : Around} {h₀ : Heap} {L : Addr} {m : Str → Option Value} {s : Shared} {Q E : Value → Shared → Prop} {others : List (Addr × Obj)} {D : Addr} {vs : List Value} {ep : Nat} {ns : List Int} {x : Int} {tx : Tok}
theorem insort (c : Cx (hd.heap_39 w.params) p loose mean mg mb A h₀ L) (F : Fr h₀ L s.heap m) (N : News h₀ L s.heap ((D, listOf vs.toArray ep) :: others)) (dis : ∀ q ∈ others, q.1 ∉ [D])
    (hdp : A.depth + 20 < recursionLimit) (hun : A.units + 200 < cLine) (hi : IntsAre vs ns) (hup : Upw ns) (hlen : ns.length ≤ 1000) (hz : bisF ns x = 0)
    (hret : ∀ ep' h' tk', Fr h₀ L h' m → News h₀ L h' ((D, listOf (.int x tx :: vs).toArray ep') :: others) → Q .none { s with heap := h', toks := tk' }) :
    wpAny (model prog w) A (call (.ref 37) [.ref D, .int x tx]) Q E s := by
  k_dflt (refine' enterK_plain (nw := [(D, listOf vs.toArray ep)]) c F N dis ?hl ?hcd ?hroom ?hbind ?hloc ?_ ?hcell ?c1 ?c2 ?c3; (case hl => k_is); (case hcd => k_is); (case hroom => omega); (case hbind => (refine' kp_binds ?kx ?ke; (case kx => exact fun b o e => F.keep _ _ (c.X b o e)); (case ke => exact fun _ => rfl))); (case hloc => exact locs rfl); (case hcell => decide); (case c1 => exact rfl); (case c2 => exact rfl); (case c3 => exact rfl))
  intro g L' h₁ env outer A₀ base hA B c2 F' N' B' X' T' sub st lt ltL
  have hh := c.hh
  obtain ⟨hnd, dp, frs, gd, un⟩ := A
  simp only at hA hh hdp hun
  subst hA hh
  have hdp2 : dp + 1 + 10 < recursionLimit := by omega
  have hun2 : un + 3 + 100 < cLine := by omega
  have hLD : h₁.IsList D vs.toArray := ⟨_, (N' _ List.mem_cons_self).1, rfl, ep, rfl⟩
  have hroomL : vs.toArray.toList.length ≤ sizeLine := by
    have := hi.length
    show vs.length ≤ _
    exact Nat.le_trans (by omega : vs.length ≤ 1000) (by decide)
  k_unmd; (try dsimp only); k_fold
  k_steps
  have e5 : kl_ins vs.toArray.toList 0 (.int x tx) = .int x tx :: vs := rfl
  rename_i F9 N9
  rw [e5] at N9
  refine leaveK_ F9 N9 fun F4 N4 hN => ?_
  refine' hret _ _ _ F4 (news_pick1 N4 hN ?ha)
  case ha => k_mem
end
end Mine

end
/- part F1 -/
section
set_option maxHeartbeats 1000000
namespace Mine
theorem fold_keep (P : Int → Bool) : ∀ (ns l : List Int), ns.foldl (fun l k => if P k = true then l ++ [k] else l) l = l ++ ns.filter P
  | [], l => by simp
  | a :: r, l => by
    rw [List.foldl_cons, fold_keep P r, List.filter_cons]
    split <;> simp
section
variable {prog : Program} {w : World} {A : Around} {E : Value → Shared → Prop} {s : Shared} {h₀ : Heap} {L : Addr} {env : Env} {m : Str → Option Value}

/-- a block's turn, tested -/
def KeepTurn (prog : Program) (w : World) (A : Around) (h₀ : Heap) (L : Addr) (m : Str → Option Value) (env : Env) (ct : Expr) (x : Str) (scope : Scope) (cl : List (Str × Addr)) (P : Int → Bool) (ns : List Int) (news : List (Addr × Obj)) (s₁ : Shared) : Prop :=
  ∀ k t I oI C oC D m₂ ys h tk (E' : Value → Shared → Prop), k ∈ ns → LCg.NsObj oC m₂ → m₂ x = some (.int k t) → Fr h₀ L h m → News h₀ L h ((I, oI) :: (C, oC) :: (D, LCg.lst ys) :: news) → (∀ p ∈ news, p.1 ≠ I ∧ p.1 ≠ C ∧ p.1 ≠ D) → ((@Ne Nat I C) ∧ (@Ne Nat I D) ∧ (@Ne Nat C D)) →
    wpAny (model prog w) A (isTrue ct (compEnvC scope cl C env) (eval ct (compEnvC scope cl C env))) (fun b s' => b = P k ∧ ∃ h' tk', s' = { s₁ with heap := h', toks := tk' } ∧ Fr h₀ L h' m ∧ News h₀ L h' ((I, oI) :: (C, oC) :: (D, LCg.lst ys) :: news)) E' { s₁ with heap := h, toks := tk }

/-- what a list of ints is to the block that keeps some -/
def KeepSrc (prog : Program) (w : World) (A : Around) (h₀ : Heap) (L : Addr) (m : Str → Option Value) (env : Env) (ct : Expr) (x : Str) (scope : Scope) (cl : List (Str × Addr)) (Q : Value → Shared → Prop) (xv : Value) (s₁ : Shared) : Prop :=
  ∃ (ax : Addr) (vs : List Value) (ns : List Int) (news : List (Addr × Obj)) (P : Int → Bool), xv = .ref ax ∧ A.handled = none ∧ Fr h₀ L s₁.heap m ∧ News h₀ L s₁.heap news ∧ (h₀.IsList ax vs.toArray ∨ ∃ n, (ax, listOf vs.toArray n) ∈ news) ∧ IntsAre vs ns ∧ ns.length ≤ 1000 ∧
    KeepTurn prog w A h₀ L m env ct x scope cl P ns news s₁ ∧
    (∀ D h' tk (ys : List Value), Fr h₀ L h' m → News h₀ L h' ((D, listOf ys.toArray ys.length) :: news) → (∀ p ∈ news, p.1 ≠ D) → IntsAre ys (ns.filter P) → Q (.ref D) { s₁ with heap := h', toks := tk })

theorem off1_mem {D : Addr} : ∀ {l : List (Addr × Obj)}, LCg.Off1 D l → ∀ p ∈ l, p.1 ≠ D
  | [], _, _, h => nomatch h
  | _ :: _, o, p, h => by
    rcases List.mem_cons.mp h with rfl | h
    · exact o.1
    · exact off1_mem o.2 p h

theorem comp_keep {ct iter : Expr} {x : Str} {px p1 : Pos} {scope : Scope} {cl : List (Str × Addr)} {pos : Pos} {Q : Value → Shared → Prop} (F₀ : Fr h₀ L s.heap m)
    (hclos : closureFor scope env = pure cl) (hcell : ∀ y ∈ scope.names, y.2 ≠ .cell) (hkind : scope.kind = .function)
    (hnames : ∀ y ∈ scope.names, y.2 = .local → scope.names.lookup y.1 = some .local) (hx : scope.names.lookup x = some .local) (hd : (x == ("__debug__" : Str)) = false)
    (h : wpAny (model prog w) A (eval iter env) (KeepSrc prog w A h₀ L m env ct x scope cl Q) E s)
    (hs : ∀ x, foldedSetIterable iter env x = pure x := by intro _; rfl) :
    wpAny (model prog w) A (eval (.ListComp (.Name x p1) [⟨.Name x px, iter, [ct], 0⟩] scope pos) env) Q E s := by
  refine LCt.ListComp_T F₀ hclos hcell hkind hnames hx (wpAny_mono h (fun xv s₁ h₁ => ?_) fun _ _ e => e) hs
  obtain ⟨ax, vs, ns, news, P, rfl, hh, F, N, hsrc, hi, hlen, turn, hQ⟩ := h₁
  have hsz : vs.toArray.size ≤ sizeLine := by
    rw [List.size_toArray, hi.length, PySem.sizeLine_eq]; omega
  have key : ∀ g, LCt.CompRestT prog w A h₀ L m env ct (.Name x p1) x scope cl { s₁ with heap := g } (LCg.SrcAt h₀ ax vs.toArray) (fun i v => vs.toArray[i]? = some v) (LCg.FinE h₀ L m { s₁ with heap := g } Q) vs.toArray.size 0 [] news := by
    intro g
    refine kci_list (fun l k => if P k = true then l ++ [k] else l) hi ?_ ?_ ?_
    · intro k t I oI C oC D m₂ ys l h tk E' hk hl hC hx2 F2 N2 off ne _
      have hS : LCg.SrcAt h₀ ax vs.toArray news := hsrc.elim .inl fun ⟨n, hm⟩ => .inr ⟨_, hm, rfl, n, rfl⟩
      refine wpAny_mono (turn k t I oI C oC D m₂ ys h tk E' hk hC hx2 F2 N2 off.mem ne) (fun b s₂ hq => ?_) fun _ _ e => e
      obtain ⟨rfl, h', tk', rfl, F', N'⟩ := hq
      cases hb : P k with
      | true =>
        simp only [if_true]
        have hkx : Env.kindOf (compEnvC scope cl C env) x = some .local := lookup_relabel_local hx
        have hkf : (compEnvC scope cl C env).scope.kind = .function := by simp [compEnvC, relabel, hkind]
        have zC : h'.get? C = some oC := (N' (C, oC) (List.mem_cons_of_mem _ List.mem_cons_self)).1
        refine wpAny_Name (wpAny_loadName_local hkf hkx (hC.ns zC) hx2 ?_) hd
        exact ⟨h', tk', news, rfl, F', N', off, hS, rfl, k, t, rfl, rfl⟩
      | false =>
        simp only [Bool.false_eq_true, if_false]
        exact ⟨h', tk', news, rfl, F', N', off, hS, rfl, rfl⟩
    · intro ys hys _ D h' tk F' N' o1
      rw [fold_keep, List.nil_append] at hys
      exact hQ D h' tk ys F' N' (off1_mem o1) hys
    · intro l k
      dsimp only
      split <;> simp
  rcases hsrc with h1 | ⟨n, hm⟩
  · exact LCt.CompSrcT.base hh F N h1 hsz key
  · exact LCt.CompSrcT.ledger hh F N hm hsz key
end
end Mine

end
/- part E4 -/
section
set_option maxRecDepth 100000
set_option maxHeartbeats 1000000
namespace Mine
def wStep (v : Int) (acc : List Int) (k : Int) : List Int := if ((heldL k).filter fun a => !(heldL v).any fun x => x == a) = [] then k :: acc else acc
def withinF (v : Int) : List Int := (downKs v (v - (-1)).toNat).foldl (wStep v) []
theorem upw_cons {k : Int} {acc : List Int} (h : Upw acc) (hk : ∀ a ∈ acc, k ≤ a) : Upw (k :: acc) := by
  intro i j hij hj
  cases i with
  | zero =>
    cases j with
    | zero => exact Int.le_refl _
    | succ j =>
      have hj' : j < acc.length := by simpa using hj
      rw [List.getD_cons_zero, List.getD_cons_succ, List.getD_eq_getElem?_getD, List.getElem?_eq_getElem hj']
      exact hk _ (List.getElem_mem hj')
  | succ i =>
    cases j with
    | zero => omega
    | succ j => exact h i j (by omega) (by simpa using hj)
theorem bisF_zero {k : Int} {acc : List Int} (hk : ∀ a ∈ acc, k < a) : bisF acc k = 0 := by
  rw [bisF, List.filter_eq_nil_iff.mpr]
  · rfl
  · intro a ha
    have := hk a ha
    simp only [decide_eq_true_eq]
    omega
theorem news_tail {h₀ h : Heap} {L : Addr} {a : Addr × Obj} {l : List (Addr × Obj)} (N : News h₀ L h (a :: l)) : News h₀ L h l := fun q hq => N q (List.mem_cons_of_mem _ hq)
theorem kst_same' {x : Str} {v : Option Value} {u m₀ : Str → Option Value} {st : List Str} {z : Str} (h1 : z ≠ x) (h3 : st.contains z = false) : ∀ {ps : List (Str × Value)}, (∀ p ∈ ps, z ≠ p.1) → (if z = x then v else kstB (fun z => if st.contains z then u z else m₀ z) ps z) = m₀ z
  | [], _ => by rw [if_neg h1]; show (if _ then _ else _) = _; rw [h3]; rfl
  | p :: r, h2 => by
    have := kst_same' (v := v) (u := u) (m₀ := m₀) h1 h3 (ps := r) fun q hq => h2 q (.tail _ hq)
    rw [if_neg h1] at this ⊢
    show (if z = p.1 then _ else kstB _ r z) = _
    rw [if_neg (h2 p (.head _))]
    exact this
theorem held_len {v : Int} (h0 : 0 ≤ v) (h1 : v < 64) : (heldL v).length ≤ 1000 := by
  have := (bits_of h0 h1).1
  have := onesAt_len (digs v) 0
  rw [digs, bitsN_length] at this
  unfold heldL
  unfold digs
  omega
local macro_rules | `(tactic| walk_at "eval Name") => `(tactic| (k_here; k_dflt (refine' nameX_L ?F ?v ?_ ?a ?b; (case F => k_asm); (case a => rfl); (case b => rfl); (case v => first | rfl | assumption); k_whole)))
local macro_rules | `(tactic| walk_at "exec For") => `(tactic| (k_here; k_dflt (refine' for_stop ?f1 ?f2 ?f3 ?_ ?f4 ?f5; (case f1 => k_asm); (case f2 => rfl); (case f3 => rfl); (case f4 => (intro _; rfl)); (case f5 => passes_own))))
local macro_rules | `(tactic| walk_at "eval ListComp") => `(tactic| (k_here; k_dflt (refine' comp_keep ?g0 ?g1 ?g2 ?g3 ?g4 ?g5 ?g6 ?_ ?g7; (case g0 => k_asm); (case g1 => exact rfl); (case g2 => decide); (case g3 => exact rfl); (case g4 => decide); (case g5 => exact rfl); (case g6 => decide); (case g7 => (intro _; rfl)))))
section
variable {prog : Program} {w : World} {p : Program} {loose : List Str} {mean : ExcName → Option Value} {mg mb : Str → Option Value}
local macro_rules | `(tactic| walk_at "call ref") => `(tactic| (k_here; k_dflt (refine' held_warm ?c ?F ?N ?W ?d ?u ?v0 ?v1 ?_; (case c => assumption); (case F => k_asm); (case N => k_asm); (case W => exact Warm.keeps (by assumption) (Fr.keep (by k_asm))); (case d => assumption); (case u => assumption); (case v0 => assumption); (case v1 => assumption)); (intro D' vs' ep' h' tk' F' N' i1 l1 lD'); (try k_lt l1); (try dsimp only); (try k_fold)))
variable {A : Around} {h₀ : Heap} {L : Addr} {m : Str → Option Value} {s : Shared} {Q E : Value → Shared → Prop} {others : List (Addr × Obj)} {v : Int} {t1 : Tok}
theorem within_warm {c' : Addr} (c : Cx (hd.heap_39 w.params) p loose mean mg mb A h₀ L) (F : Fr h₀ L s.heap m) (N : News h₀ L s.heap others) (W : Warm 16 inA qualA c' s.heap)
    (hdp : A.depth + 40 < recursionLimit) (hun : A.units + 300 < cLine) (hv0 : 0 ≤ v) (hv : v < 16)
    (hret : ∀ D (vs : List Value) ep h' tk', Fr h₀ L h' m → News h₀ L h' ((D, listOf vs.toArray ep) :: others) → IntsAre vs (withinF v) → (∀ q ∈ others, q.1 < D) → L < D → Q (.ref D) { s with heap := h', toks := tk' }) :
    wpAny (model prog w) A (call (.ref 63) [.int v t1]) Q E s := by
  k_dflt (refine' enterK_cells (nw := []) c F N (fun q hq e => nomatch e) ?hl ?hcd ?hroom ?hbind ?hkind ?hnd ?_ ?c1 ?c2 ?c3; (case hl => k_is); (case hcd => k_is); (case hroom => omega); (case hbind => exact BindsTo.of_eq rfl); (case hkind => exact rfl); (case hnd => decide +kernel); (case c1 => exact rfl); (case c2 => exact rfl); (case c3 => exact rfl))
  intro g L' h₁ tk cells env outer A₀ base hA B c2 F' N' Y' B' X' T' sub st lt ltL
  have hh := c.hh
  obtain ⟨hnd, dp, frs, gd, un⟩ := A
  simp only at hA hh hdp hun
  subst hA hh
  k_cells Y'
  have WG : Warm 16 inA qualA c' g := W.keeps fun b o e => sub b o e (fun q => nomatch q)
  (try simp only [List.cons_append, List.nil_append, List.append_nil] at N')
  have hdp2 : dp + 1 + 30 < recursionLimit := by omega
  have hun2 : un + 3 + 200 < cLine := by omega
  k_unmd; (try dsimp only); k_fold
  k_steps
  rename_i lo h1' l1 h2' F4 N4 hw tk5 t₁ u₁ v₁ hr F5 N5 K5
  have hr' : IsRange hw _ v (-1) (-1) t₁ u₁ v₁ := hr
  refine kst_rangeD (σ := List Value × Nat) (n := (v - (-1)).toNat) (fun c => [(lo, listOf c.1.toArray c.2), (L' + 1, _)]) (fun c => [(Str.ofString "order", Value.ref lo)]) (fun _ => True) [] (fun pre c => IntsAre c.1 (pre.foldl (wStep v) []) ∧ Upw (pre.foldl (wStep v) []) ∧ (∀ a ∈ pre.foldl (wStep v) [], v - (pre.length : Int) < a) ∧ (pre.foldl (wStep v) []).length ≤ pre.length) ([], 0) rfl hr' (small_down (by omega) (by omega) (by decide) (by decide)) (rangeSize_downNat _ _) F5 N5 True.intro ?_ ?_ ?_ ?_
  · intro q hq
    rw [List.mem_singleton.mp hq]
    rfl
  · exact ⟨.nil, fun i j _ hj => absurd hj (Nat.not_lt_zero _), (fun a ha => nomatch ha), Nat.le_refl _⟩
  · intro cc pre k t u h7 tk7 own hk hpre hoff _ hP F7 N7
    have hk0 : 0 ≤ k := by omega
    have hk1 : k < 64 := by omega
    have hv1 : v < 64 := by omega
    (try k_fold)
    k_steps
    obtain ⟨p1, p2, p3, p4⟩ := hP
    refine ⟨_, _, heldL k, _, (fun a => !(heldL v).any fun x => x == a), rfl, rfl, by k_asm, by k_asm, .inr ⟨_, by k_mem⟩, by assumption, held_len hk0 hk1, ?turn, ?fin⟩
    case turn =>
      intro k2 t2 I oI C oC D2 m2 ys2 h8 tk8 E8 hk2 hC2 hx2 F8 N8 off8 ne8
      (try k_fold)
      k_steps
      · k_asm
      · exact news_tail (by k_asm)
    case fin =>
      intro D3 h9 tk9 ys3 F9 N9 ne9 i9
      (try dsimp only); (try k_fold)
      k_steps
      · have hd : (heldL k).filter (fun a => !(heldL v).any fun x => x == a) = [] := of_decide_eq_true (by assumption)
        refine insort (others := (L' + 1, _) :: own) c2 (by k_asm) (news_tail (news_tail (news_tail (by k_asm)))) ?dis (by show dp + 1 + 20 < _; omega) (by show un + 3 + 200 < _; omega) p1 p2 (by omega) (bisF_zero fun a ha => by rw [hk]; exact p3 a ha) ?_
        case dis =>
          intro q hq hm
          have hm := List.mem_singleton.mp hm
          rcases List.mem_cons.mp hq with rfl | hq
          · exact absurd hm (Nat.ne_of_lt l1)
          · exact hoff q hq lo (by simp) hm
        intro ep9 h10 tk10 F10 N10
        have hs : (pre ++ [k]).foldl (wStep v) [] = k :: pre.foldl (wStep v) [] := by rw [List.foldl_append, List.foldl_cons, List.foldl_nil, wStep, if_pos hd]
        (try dsimp only); (try k_fold)
        k_steps
        refine kst_end ((.int k t :: cc.1, ep9) : List Value × Nat) (by k_asm) N10 (fun q hq => List.mem_append_left own hq) (fun q hq => List.mem_append_right [_, _] hq) rfl True.intro (by kst_all) (fun z h1 h2 h3 => kst_same' h1 h3 h2) ?_
        rw [hs]
        refine ⟨.cons _ _ p1, upw_cons p2 fun a ha => Int.le_of_lt (by rw [hk]; exact p3 a ha), ?_, ?_⟩
        · intro a ha
          rw [List.length_append, List.length_singleton]
          rcases List.mem_cons.mp ha with rfl | ha
          · omega
          · have := p3 a ha; omega
        · rw [List.length_cons, List.length_append, List.length_singleton]; omega
      · have hd : ¬ (heldL k).filter (fun a => !(heldL v).any fun x => x == a) = [] := of_decide_eq_false (by assumption)
        have hs : (pre ++ [k]).foldl (wStep v) [] = pre.foldl (wStep v) [] := by rw [List.foldl_append, List.foldl_cons, List.foldl_nil, wStep, if_neg hd]
        refine kst_end (cc : List Value × Nat) (by k_asm) (news_tail (news_tail (news_tail (by k_asm)))) (fun q hq => List.mem_append_left own hq) (fun q hq => List.mem_append_right [_, _] hq) rfl True.intro (by kst_all) (fun z h1 h2 h3 => kst_same' h1 h3 h2) ?_
        rw [hs]
        refine ⟨p1, p2, ?_, ?_⟩
        · intro a ha
          rw [List.length_append, List.length_singleton]
          have := p3 a ha; omega
        · rw [List.length_append, List.length_singleton]; omega
  · intro cc u h7 tk7 _ hP F7 N7
    obtain ⟨p1, p2, p3, p4⟩ := hP
    (try dsimp only); (try k_fold)
    k_steps
    dsimp only
    k_steps
    refine leaveK_ F7 N7 fun F8 N8 hN => ?_
    refine' hret _ _ _ _ _ F8 (news_pick1 N8 hN ?ha) p1 (fun q hq => Nat.lt_trans (lt q hq) (Nat.lt_trans (Nat.lt_succ_self _) l1)) (Nat.lt_trans ltL (Nat.lt_trans (Nat.lt_succ_self _) l1))
    case ha => k_mem
end
end Mine

end
/- part E5 -/
section
set_option maxRecDepth 100000
set_option maxHeartbeats 1000000
namespace Mine
local macro_rules | `(tactic| walk_at "idle 0") => `(tactic| skip)
local macro_rules | `(tactic| walk_at "idle 1") => `(tactic| skip)
local macro_rules | `(tactic| walk_at "idle 2") => `(tactic| skip)
local macro_rules | `(tactic| walk_at "idle 3") => `(tactic| skip)
local macro_rules | `(tactic| walk_at "idle 4") => `(tactic| skip)
def pairF (a b : Int) : Int := lotF [lotF [a], lotF [a, b]]
theorem pair_small : ∀ a b : Fin 3, (0 ≤ lotF [(a.val : Int)] ∧ lotF [(a.val : Int)] ≤ 15) ∧ (0 ≤ lotF [(a.val : Int), (b.val : Int)] ∧ lotF [(a.val : Int), (b.val : Int)] ≤ 15) := by decide +kernel
theorem pair_of {a b : Int} (a0 : 0 ≤ a) (a1 : a < 3) (b0 : 0 ≤ b) (b1 : b < 3) : (0 ≤ lotF [a] ∧ lotF [a] ≤ 15) ∧ (0 ≤ lotF [a, b] ∧ lotF [a, b] ≤ 15) := by
  obtain ⟨n, rfl⟩ := Int.eq_ofNat_of_zero_le a0
  obtain ⟨k, rfl⟩ := Int.eq_ofNat_of_zero_le b0
  exact pair_small ⟨n, by omega⟩ ⟨k, by omega⟩
theorem bnd2 {x y : Int} (hx : 0 ≤ x ∧ x ≤ 15) (hy : 0 ≤ y ∧ y ≤ 15) : ∀ n ∈ [x, y], 0 ≤ n ∧ n ≤ 15 := by
  intro n hn
  rcases List.mem_cons.mp hn with rfl | hn
  · exact hx
  · rw [List.mem_singleton.mp hn]; exact hy
local macro_rules | `(tactic| walk_at "eval Name") => `(tactic| (k_here; k_dflt (refine' nameX_L ?F ?v ?_ ?a ?b; (case F => k_asm); (case a => rfl); (case b => rfl); (case v => first | rfl | assumption); k_whole)))
section
variable {prog : Program} {w : World} {p : Program} {loose : List Str} {mean : ExcName → Option Value} {mg mb : Str → Option Value}
variable {A : Around} {h₀ : Heap} {L : Addr} {m : Str → Option Value} {s : Shared} {Q E : Value → Shared → Prop} {others : List (Addr × Obj)} {a b : Int} {ta tb : Tok}
theorem pair_warm {c' : Addr} (c : Cx (hd.heap_39 w.params) p loose mean mg mb A h₀ L) (F : Fr h₀ L s.heap m) (N : News h₀ L s.heap others) (W : Warm 23 inB qualB c' s.heap)
    (hdp : A.depth + 50 < recursionLimit) (hun : A.units + 400 < cLine) (a0 : 0 ≤ a) (a1 : a < 3) (b0 : 0 ≤ b) (b1 : b < 3)
    (hret : ∀ t h' tk', Fr h₀ L h' m → News h₀ L h' others → Q (.int (pairF a b) t) { s with heap := h', toks := tk' }) :
    wpAny (model prog w) A (call (.ref 70) [.int a ta, .int b tb]) Q E s := by
  k_dflt (refine' enterK_plain (nw := []) c F N (fun q hq e => nomatch e) ?hl ?hcd ?hroom ?hbind ?hloc ?_ ?hcell ?c1 ?c2 ?c3; (case hl => k_is); (case hcd => k_is); (case hroom => omega); (case hbind => exact BindsTo.of_eq rfl); (case hloc => exact locs rfl); (case hcell => decide); (case c1 => exact rfl); (case c2 => exact rfl); (case c3 => exact rfl))
  intro g L' h₁ env outer A₀ base hA B c2 F' N' B' X' T' sub st lt ltL
  have hh := c.hh
  obtain ⟨hnd, dp, frs, gd, un⟩ := A
  simp only at hA hh hdp hun
  subst hA hh
  have WG : Warm 23 inB qualB c' g := W.keeps fun b o e => sub b o e (fun q => nomatch q)
  obtain ⟨⟨q1, q2⟩, q3, q4⟩ := pair_of a0 a1 b0 b1
  k_unmd; (try dsimp only); k_fold
  k_steps
  refine lot_warm (ns := [a]) c2 (by k_asm) (by k_asm) (WG.keeps (Fr.keep (by k_asm))) (by show dp + 1 + 40 < _; omega) (by show un + 3 + 300 < _; omega) (by is_list) (.cons _ _ .nil) (fun n hn => by rw [List.mem_singleton.mp hn]; omega) (by simp) ?_
  intro t2 h2 tk2 F2 N2
  (try dsimp only); (try k_fold)
  k_steps
  refine lot_warm (ns := [a, b]) c2 (by k_asm) (by k_asm) (WG.keeps (Fr.keep (by k_asm))) (by show dp + 1 + 40 < _; omega) (by show un + 3 + 300 < _; omega) (by is_list) (.cons _ _ (.cons _ _ .nil)) (bnd2 ⟨a0, by omega⟩ ⟨b0, by omega⟩) (by simp) ?_
  intro t3 h3 tk3 F3 N3
  (try dsimp only); (try k_fold)
  k_steps
  refine lot_warm (ns := [lotF [a], lotF [a, b]]) c2 (by k_asm) (by k_asm) (WG.keeps (Fr.keep (by k_asm))) (by show dp + 1 + 40 < _; omega) (by show un + 3 + 300 < _; omega) (by is_list) (.cons _ _ (.cons _ _ .nil)) (bnd2 ⟨q1, q2⟩ ⟨q3, q4⟩) (by simp) ?_
  intro t4 h4 tk4 F4 N4
  (try dsimp only); (try k_fold)
  k_steps
  exact leaveK_ F4 N4 fun F5 N5 hN => hret _ _ _ F5 hN
end
end Mine

end
/- part P1 -/
section
set_option maxRecDepth 100000
set_option maxHeartbeats 4000000
namespace Mine
theorem place_bits : ∀ (n : Fin 64) (i : Fin 6), ((i.val : Nat) : Int) ∈ heldL (n.val : Int) ↔ Nat.testBit n.val i.val = true := by decide +kernel
theorem place_small : ∀ n : Fin 64, ∀ k ∈ heldL (n.val : Int), 0 ≤ k ∧ k < 6 := by decide +kernel
theorem or_and_xor : ∀ n k : Fin 64, (n.val ||| k.val) = (n.val ^^^ k.val) + (n.val &&& k.val) := by decide +kernel
/-- a place is in a number just if its bit is one -/
theorem place_iff {n : Nat} (h : n < 64) (i : Nat) : (i : Int) ∈ heldL (n : Int) ↔ n.testBit i = true := by
  by_cases hi : i < 6
  · exact place_bits ⟨n, h⟩ ⟨i, hi⟩
  · have h1 : ¬ (i : Int) ∈ heldL (n : Int) := fun q => by have := place_small ⟨n, h⟩ _ q; omega
    have h2 : n.testBit i = false := Nat.testBit_lt_two_pow (Nat.lt_of_lt_of_le (show n < 2 ^ 6 from h) (Nat.pow_le_pow_right (by decide) (by omega)))
    rw [h2]
    exact ⟨fun q => absurd q h1, fun q => nomatch q⟩
theorem place_any {n : Nat} (h : n < 64) (i : Nat) : ((heldL (n : Int)).any fun y => y == (i : Int)) = n.testBit i := by
  rw [Bool.eq_iff_iff, ← place_iff h i, List.any_eq_true]
  exact ⟨fun ⟨y, h1, h2⟩ => by have := eq_of_beq h2; subst this; exact h1, fun q => ⟨_, q, beq_self_eq_true _⟩⟩
theorem sets_get : ∀ (ns f : List Int) (i : Nat), (∀ n ∈ ns, 0 ≤ n) → i < f.length → (ns.foldl (fun f n => f.set n.toNat 1) f).getD i 0 = if (i : Int) ∈ ns then 1 else f.getD i 0
  | [], f, i, _, _ => by simp
  | a :: r, f, i, h, hi => by
    have ha := h a List.mem_cons_self
    rw [List.foldl_cons, sets_get r _ i (fun n q => h n (List.mem_cons_of_mem _ q)) (by rw [List.length_set]; exact hi)]
    by_cases q : (i : Int) ∈ r
    · rw [if_pos q, if_pos (List.mem_cons_of_mem _ q)]
    · rw [if_neg q]
      by_cases e : (i : Int) = a
      · have e2 : a.toNat = i := by omega
        rw [if_pos (by rw [e]; exact List.mem_cons_self), e2]
        simp [List.getD_eq_getElem?_getD, hi]
      · have e2 : a.toNat ≠ i := by omega
        rw [if_neg (fun m => (List.mem_cons.mp m).elim e q)]
        simp [List.getD_eq_getElem?_getD, e2]
theorem valN_bit : ∀ (f : List Int) (i : Nat), (∀ d ∈ f, 0 ≤ d ∧ d ≤ 1) → (valN f).toNat.testBit i = decide (f.getD i 0 = 1)
  | [], i, _ => by simp [valN]
  | d :: r, i, h => by
    have hd := h d List.mem_cons_self
    have hr := valN_nonneg r fun x hx => h x (List.mem_cons_of_mem _ hx)
    have ih := fun j => valN_bit r j fun x hx => h x (List.mem_cons_of_mem _ hx)
    have e : (valN (d :: r)).toNat = d.toNat + 2 * (valN r).toNat := by rw [valN]; omega
    rw [e]
    cases i with
    | zero =>
      rw [Nat.testBit_zero, List.getD_cons_zero]
      congr 1
      exact propext ⟨fun q => by omega, fun q => by omega⟩
    | succ j =>
      have e2 : (d.toNat + 2 * (valN r).toNat) / 2 = (valN r).toNat := by omega
      rw [Nat.testBit_succ, e2, ih j, List.getD_cons_succ]
theorem lot_bit {ns : List Int} (h : ∀ n ∈ ns, 0 ≤ n) (i : Nat) : (lotF ns).toNat.testBit i = decide ((i : Int) ∈ ns) := by
  rw [lotF, valN_bit _ i (figs_bits ns _)]
  congr 1
  have hm := foldl_max_ge ns 0
  by_cases hi : i < (1 + mx ns).toNat
  · rw [figs, sets_get ns _ i h (by rw [List.length_replicate]; exact hi)]
    by_cases q : (i : Int) ∈ ns
    · rw [if_pos q]; exact propext ⟨fun _ => q, fun _ => rfl⟩
    · rw [if_neg q, List.getD_eq_getElem?_getD, List.getElem?_replicate, if_pos hi]
      exact propext ⟨fun z => absurd z (by decide), fun z => absurd z q⟩
  · have q : ¬ (i : Int) ∈ ns := fun q => by have := hm.2 _ q; unfold mx at hi; omega
    rw [List.getD_eq_getElem?_getD, List.getElem?_eq_none (by rw [figs_len]; omega)]
    exact propext ⟨fun z => absurd z (by decide), fun z => absurd z q⟩
theorem lot_nonneg (ns : List Int) : 0 ≤ lotF ns := (valN_nonneg _ (figs_bits ns _)).1
theorem lot_is {ns : List Int} {n : Nat} (h : ∀ k ∈ ns, 0 ≤ k) (e : ∀ i : Nat, (i : Int) ∈ ns ↔ n.testBit i = true) : lotF ns = (n : Int) := by
  have h1 : (lotF ns).toNat = n := Nat.eq_of_testBit_eq fun i => by
    rw [lot_bit h i, Bool.eq_iff_iff, decide_eq_true_iff]
    exact e i
  have := lot_nonneg ns
  omega
theorem place_nonneg {n : Nat} (h : n < 64) : ∀ k ∈ heldL (n : Int), 0 ≤ k := fun k q => (place_small ⟨n, h⟩ k q).1
theorem and_is (n k : Nat) : Builtin.bitAnd (n : Int) (k : Int) = ((n &&& k : Nat) : Int) := by
  rw [bitAnd_pp (Int.natCast_nonneg n) (Int.natCast_nonneg k), Int.toNat_natCast, Int.toNat_natCast]
theorem xor_is {n k : Nat} (hn : n < 64) (hk : k < 64) : Builtin.bitXor (n : Int) (k : Int) = ((n ^^^ k : Nat) : Int) ∧ Builtin.bitOr (n : Int) (k : Int) = ((n ||| k : Nat) : Int) := by
  have h1 : Builtin.bitOr (n : Int) (k : Int) = ((n ||| k : Nat) : Int) := by
    have hb : ∀ x : Int, Builtin.bitNot (Builtin.bitNot x) = x := fun x => by unfold Builtin.bitNot; omega
    have hneg : ∀ x : Nat, decide (0 ≤ Builtin.bitNot (x : Int)) = false := fun x => decide_eq_false (by unfold Builtin.bitNot; omega)
    unfold Builtin.bitOr
    rw [Builtin.bitAnd, hneg, hneg]
    simp only [hb, Int.toNat_natCast]
  have h2 := or_and_xor ⟨n, hn⟩ ⟨k, hk⟩
  refine ⟨?_, h1⟩
  unfold Builtin.bitXor
  rw [h1, and_is]
  simp only at h2
  omega
theorem pair_fact {a b : Int} (a0 : 0 ≤ a) (a1 : a < 64) (b0 : 0 ≤ b) (b1 : b < 64) : (lotF ((heldL a).filter fun x => (heldL b).any fun y => y == x) = Builtin.bitAnd a b ∧ lotF (heldL a ++ heldL b) = Builtin.bitOr a b) ∧
    (heldL a = heldL b ↔ a = b) ∧ lotF ((heldL a ++ heldL b).filter fun x => ((heldL a).any fun y => y == x) != ((heldL b).any fun y => y == x)) = Builtin.bitXor a b := by
  obtain ⟨n, rfl⟩ := Int.eq_ofNat_of_zero_le a0
  obtain ⟨k, rfl⟩ := Int.eq_ofNat_of_zero_le b0
  have hn : n < 64 := by omega
  have hk : k < 64 := by omega
  refine ⟨⟨?_, ?_⟩, ⟨fun e => ?_, fun e => by rw [e]⟩, ?_⟩
  · rw [and_is]
    refine lot_is (fun j q => place_nonneg hn j (List.mem_filter.mp q).1) fun i => ?_
    rw [List.mem_filter, place_iff hn, place_any hk, Nat.testBit_and, Bool.and_eq_true]
  · rw [(xor_is hn hk).2]
    refine lot_is (fun j q => (List.mem_append.mp q).elim (place_nonneg hn j) (place_nonneg hk j)) fun i => ?_
    rw [List.mem_append, place_iff hn, place_iff hk, Nat.testBit_or, Bool.or_eq_true]
  · have : n = k := Nat.eq_of_testBit_eq fun i => by rw [Bool.eq_iff_iff, ← place_iff hn, ← place_iff hk, e]
    rw [this]
  · rw [(xor_is hn hk).1]
    refine lot_is (fun j q => (List.mem_append.mp (List.mem_filter.mp q).1).elim (place_nonneg hn j) (place_nonneg hk j)) fun i => ?_
    rw [List.mem_filter, List.mem_append, place_iff hn, place_iff hk, place_any hn, place_any hk, Nat.testBit_xor]
    cases n.testBit i <;> cases k.testBit i <;> simp

def upB (ns : List Int) : Bool := (List.range ns.length).all fun j => (List.range (j + 1)).all fun i => decide (ns.getD i 0 ≤ ns.getD j 0)
theorem upB_is {ns : List Int} (h : upB ns = true) : Upw ns := by
  intro i j hij hj
  unfold upB at h
  have h1 := List.all_eq_true.mp h j (List.mem_range.mpr hj)
  have h2 := List.all_eq_true.mp h1 i (List.mem_range.mpr (by omega))
  exact of_decide_eq_true h2
theorem within_facts : ∀ n : Fin 16, upB (withinF (n.val : Int)) = true ∧ (∀ k ∈ withinF (n.val : Int), 0 ≤ k ∧ k ≤ 15) ∧ (withinF (n.val : Int)).length ≤ 16 := by decide +kernel
end Mine

end
/- part F2 -/
section
set_option maxHeartbeats 2000000
namespace Mine
/-- an iterator that a block walks, told by rows -/
structure ItR (prog : Program) (w : World) (A : Around) (I : Addr) (n : Nat) (P : Nat → Value → Prop) (St : Nat → Heap → Prop) (need : List (Addr × Obj)) : Prop where
  W : ∃ fp, Walks prog w A I fp [I] n P St
  io : ∀ i h, St i h → ∃ o, h.get? I = some o
  st : ∀ i h h' o, St i h → h.get? I = some o → h'.get? I = some o → (∀ q ∈ need, h'.get? q.1 = some q.2) → St i h'

section
variable {prog : Program} {w : World} {A : Around} {E : Value → Shared → Prop} {s : Shared} {h₀ : Heap} {L : Addr} {env : Env} {m : Str → Option Value}
  {elt iter iter2 : Expr} {x y : Str} {px py : Pos} {scope : Scope} {cl : List (Str × Addr)} {pos : Pos}

theorem compTurn_two1 (it acc : Value) (env : Env) :
    compTurn (.ListComp elt [⟨.Name x px, iter, [], 0⟩, ⟨.Name y py, iter2, [], 0⟩] scope pos) 1 it acc env = (standAt iter2.pos >>= fun _ => pyNext it >>= fun r => match r with
      | none => pure (.done .next)
      | some v => letOwnedTupleGo (.Name y py) it v >>= fun _ => assign (.Name y py) env v >>= fun _ =>
        (eval elt env >>= fun z => call (.builtin "list.append") [acc, z] >>= fun _ => pure ()) >>= fun _ =>
          again (.compLoop (.ListComp elt [⟨.Name x px, iter, [], 0⟩, ⟨.Name y py, iter2, [], 0⟩] scope pos) 1 it acc env)) := by rfl
theorem compTurn_two0 (it acc : Value) (env : Env) :
    compTurn (.ListComp elt [⟨.Name x px, iter, [], 0⟩, ⟨.Name y py, iter2, [], 0⟩] scope pos) 0 it acc env = (standAt iter.pos >>= fun _ => pyNext it >>= fun r => match r with
      | none => pure (.done .next)
      | some v => letOwnedTupleGo (.Name x px) it v >>= fun _ => assign (.Name x px) env v >>= fun _ =>
        eval iter2 env >>= fun z => standAt iter2.pos >>= fun _ => foldedSetIterable iter2 env z >>= fun z => holding [z] (pyIter z) >>= fun z =>
          runOwn (.compStart (.ListComp elt [⟨.Name x px, iter, [], 0⟩, ⟨.Name y py, iter2, [], 0⟩] scope pos) 1 z acc env) env >>= fun _ =>
          again (.compLoop (.ListComp elt [⟨.Name x px, iter, [], 0⟩, ⟨.Name y py, iter2, [], 0⟩] scope pos) 0 it acc env)) := by rfl

theorem compStart_two {it acc : Value} {env : Env} {R : Result → Shared → Prop}
    (h0 : codeAny (model prog w) A (.compLoop (.ListComp elt [⟨.Name x px, iter, [], 0⟩, ⟨.Name y py, iter2, [], 0⟩] scope pos) 1 it acc env) R s)
    (h : wpAny (model prog w) A (pyIter it) (fun it' s' => codeAny (model prog w) A (.compLoop (.ListComp elt [⟨.Name x px, iter, [], 0⟩, ⟨.Name y py, iter2, [], 0⟩] scope pos) 1 it' acc env) R s')
      (notedBy (model prog w) A env fun x s' => R (.error x) s') s) :
    codeAny (model prog w) A (.compStart (.ListComp elt [⟨.Name x px, iter, [], 0⟩, ⟨.Name y py, iter2, [], 0⟩] scope pos) 1 it acc env) R s := by
  refine codeAny_of_tree ?_
  show wpAny _ _ ((compStart (.ListComp elt [⟨.Name x px, iter, [], 0⟩, ⟨.Name y py, iter2, [], 0⟩] scope pos) 1 it acc env).onRaise (fun x => do noteFrame x env; standAt theWindowsPlace)) _ _ s
  refine wpAny_notedAt ?_
  unfold compStart
  show wpAny _ _ (ask >>= _) _ _ s
  refine wpAny_bind (wpAny_askSetting (wpAny_ite ?_))
  split
  · first
      | exact wpAny_bind (wpAny_pure (wpAny_pure (And.intro rfl h0)))
      | exact wpAny_pure (And.intro rfl h0)
  · first
      | exact wpAny_bind (wpAny_rule (wpAny_bind (wpAny_standAt (wpAny_bind (wpAny_mono h (fun it' s' h' => wpAny_pure (And.intro rfl h')) fun _ _ x => x)))))
      | (refine wpAny_bind (wpAny_rule ?_); show wpAny _ _ (standAt iter2.pos >>= _) _ _ s; exact wpAny_bind (wpAny_standAt (wpAny_bind (wpAny_mono h (fun it' s' h' => wpAny_pure (And.intro rfl h')) fun _ _ x => x))))

theorem in_loop {I2 C D : Addr} {n2 : Nat} {P2 : Nat → Value → Prop} {St2 : Nat → Heap → Prop} {need2 rs : List (Addr × Obj)} {gi : List Int} {ys : List Value} {xv : Value} {m₂ : Str → Option Value} {h₁ : Heap} {tk₁ : Nat} {R : Result → Shared → Prop}
    (J : ItR prog w A I2 n2 P2 St2 need2) (hn2 : n2 = gi.length) (hxy : x ≠ y) (hkind : scope.kind = .function) (hy : scope.names.lookup y = some .local)
    (hIL : I2 ≠ L) (hI₀ : h₀.get? I2 = none) (hCL : C ≠ L) (hC₀ : h₀.get? C = none) (hDL : D ≠ L) (hD₀ : h₀.get? D = none) (hIC : I2 ≠ C) (hID : I2 ≠ D) (hCD : C ≠ D)
    (off : ∀ p ∈ rs, p.1 ≠ I2 ∧ p.1 ≠ C ∧ p.1 ≠ D) (hneed : ∀ q ∈ need2, q ∈ rs)
    (turn : ∀ j v oI2 oC m₃ zs h tk (E' : Value → Shared → Prop), P2 j v → j < n2 → LCg.NsObj oC m₃ → m₃ y = some v → m₃ x = some xv → Fr h₀ L h m → News h₀ L h ((I2, oI2) :: (C, oC) :: (D, LCg.lst zs) :: rs) →
      wpAny (model prog w) A (eval elt (compEnvC scope cl C env)) (fun r s' => (∃ a t, gi[j]? = some a ∧ r = .int a t) ∧ ∃ h' tk', s' = { s with heap := h', toks := tk' } ∧ Fr h₀ L h' m ∧ News h₀ L h' ((I2, oI2) :: (C, oC) :: (D, LCg.lst zs) :: rs)) E' { s with heap := h, toks := tk })
    (hst : St2 0 h₁) (F : Fr h₀ L h₁ m) (hn : h₁.Ns C m₂) (hmx : m₂ x = some xv) (N : News h₀ L h₁ ((D, LCg.lst ys) :: rs)) (hsz : ys.length + n2 ≤ sizeLine)
    (done : ∀ h tk m' zs, Fr h₀ L h m → h.Ns C m' → News h₀ L h ((D, LCg.lst (ys ++ zs)) :: rs) → IntsAre zs gi → R (.ok .next) { s with heap := h, toks := tk }) :
    codeAny (model prog w) A (.compLoop (.ListComp elt [⟨.Name x px, iter, [], 0⟩, ⟨.Name y py, iter2, [], 0⟩] scope pos) 1 (.ref I2) (.ref D) (compEnvC scope cl C env)) R { s with heap := h₁, toks := tk₁ } := by
  obtain ⟨fp, W⟩ := J.W
  have hky : Env.kindOf (compEnvC scope cl C env) y = some .local := lookup_relabel_local hy
  refine codeAny_loop rfl (fun k s' => ∃ h' tk i zs m', s' = { s with heap := h', toks := tk } ∧ i ≤ n2 ∧ k = n2 + 1 - i ∧ St2 i h' ∧ Fr h₀ L h' m ∧ h'.Ns C m' ∧ m' x = some xv ∧ News h₀ L h' ((D, LCg.lst (ys ++ zs)) :: rs) ∧ IntsAre zs (gi.take i)) ?_ (n2 + 1)
    ⟨h₁, tk₁, 0, [], m₂, rfl, Nat.zero_le _, rfl, hst, F, hn, hmx, by rw [List.append_nil]; exact N, .nil⟩
  rintro k s' ⟨h', tk, i, zs, m', rfl, hi, rfl, hst', F', hn', hm', N', hz⟩
  show wpAny _ A ((compTurn _ 1 (.ref I2) (.ref D) (compEnvC scope cl C env)).onRaise (fun x => do noteFrame x _; theTreesLotGoes x)) _ _ _
  refine wpAny_noted ?_
  rw [compTurn_two1]
  refine wpAny_bind (wpAny_standAt (wpAny_bind ?_))
  by_cases hlt : i < n2
  · refine W.item i _ _ _ hlt hst' fun v h₂ tk₂ hPv hst₂ hk₂ => ?_
    refine wpAny_bind (wpAny_of_eq (show letOwnedTupleGo (.Name y py) (.ref I2) v = pure () from rfl) ?_)
    refine wpAny_bind (wpAny_assign_Name (wpAny_storeName_local hky (hn'.at' fun o e => hk₂ _ o (by simpa using Ne.symm hIC) e) (fun h₃ hn₃ hs₃ => ?_) (by simp [compEnvC, relabel, hkind])))
    obtain ⟨oI2, heI⟩ := J.io _ _ hst₂
    obtain ⟨oC, heC, hoC⟩ := LCg.ns_obj hn₃
    have F₃ : Fr h₀ L h₃ m := (LCg.fr_but F' hk₂ (Ne.symm hIL) hI₀).change hs₃ hCL hC₀
    have N₂ : News h₀ L h₂ ((D, LCg.lst (ys ++ zs)) :: rs) := LCg.news_but N' hk₂ fun p hp => by
      rcases List.mem_cons.mp hp with rfl | hp
      · exact Ne.symm hID
      · exact (off p hp).1
    have N₃ : News h₀ L h₃ ((I2, oI2) :: (C, oC) :: (D, LCg.lst (ys ++ zs)) :: rs) := fun p hp => by
      rcases List.mem_cons.mp hp with rfl | hp
      · exact ⟨hs₃.extBut _ _ hIC heI, hIL, hI₀⟩
      · rcases List.mem_cons.mp hp with rfl | hp
        · exact ⟨heC, hCL, hC₀⟩
        · have z := N₂ p hp
          refine ⟨hs₃.extBut _ _ ?_ z.1, z.2⟩
          rcases List.mem_cons.mp hp with rfl | hp
          · exact Ne.symm hCD
          · exact (off p hp).2.1
    refine wpAny_bind (wpAny_bind (wpAny_mono (turn i v oI2 oC _ _ h₃ _ _ hPv hlt hoC (by simp) (by simp [hxy, hm']) F₃ N₃) (fun r s₄ h₄ => ?_) fun _ _ e => e))
    obtain ⟨⟨a, ta, hga, rfl⟩, h₄, tk₄, rfl, F₄, N₄⟩ := h₄
    have zI := (N₄ (I2, oI2) List.mem_cons_self).1
    have zC := (N₄ (C, oC) (List.mem_cons_of_mem _ List.mem_cons_self)).1
    have zD := (N₄ (D, LCg.lst (ys ++ zs)) (List.mem_cons_of_mem _ (List.mem_cons_of_mem _ List.mem_cons_self))).1
    have N₄' : News h₀ L h₄ rs := fun p hp => N₄ p (List.mem_cons_of_mem _ (List.mem_cons_of_mem _ (List.mem_cons_of_mem _ hp)))
    have hzl : zs.length = i := by rw [hz.length, List.length_take]; omega
    refine wpAny_bind (append_at (hsz := by show (ys ++ zs).toArray.size ≤ sizeLine; rw [List.size_toArray, List.length_append]; omega) zD fun h₅ hs₅ hD₅ => wpAny_pure (wpAny_pure ?_))
    refine ⟨rfl, n2 + 1 - (i + 1), by omega, h₅, tk₄, i + 1, zs ++ [.int a ta], _, rfl, hlt, rfl, ?_, F₄.change hs₅ hDL hD₀, (hoC.ns zC).sameBut hs₅ hCD, by simp [hxy, hm'], fun p hp => ?_, ?_⟩
    · exact J.st (i + 1) h₂ h₅ oI2 hst₂ heI (hs₅.extBut _ _ hID zI) fun q hq => hs₅.extBut _ _ (off q (hneed q hq)).2.2 (N₄' q (hneed q hq)).1
    · rcases List.mem_cons.mp hp with rfl | hp
      · refine ⟨hD₅.trans (congrArg some ?_), hDL, hD₀⟩
        rw [← List.append_assoc]
        exact LCg.lst_snoc (ys ++ zs) _
      · exact ⟨hs₅.extBut _ _ (off p hp).2.2 (N₄' p hp).1, (N₄' p hp).2⟩
    · rw [List.take_add_one, hga]
      exact IntsAre.append hz (.cons _ _ .nil)
  · obtain rfl : i = n2 := Nat.le_antisymm hi (Nat.not_lt.mp hlt)
    refine W.done _ _ _ hst' fun h₂ tk₂ hk₂ => wpAny_pure ?_
    refine done h₂ tk₂ m' zs (LCg.fr_but F' hk₂ (Ne.symm hIL) hI₀) (hn'.at' fun o e => hk₂ _ o (by simpa using Ne.symm hIC) e) (LCg.news_but N' hk₂ fun p hp => ?_) ?_
    · rcases List.mem_cons.mp hp with rfl | hp
      · exact Ne.symm hID
      · exact (off p hp).1
    · rw [hn2, List.take_length] at hz
      exact hz

def InSrc (prog : Program) (w : World) (A : Around) (h₀ : Heap) (L : Addr) (m : Str → Option Value) (env : Env) (elt : Expr) (x y : Str) (scope : Scope) (cl : List (Str × Addr)) (gi : List Int) (news : List (Addr × Obj)) (s₂ : Shared) (v : Value) (I : Addr) (oI : Obj) (C : Addr) (oC : Obj) (D : Addr) (ys : List Value) (it2 : Value) (s₅ : Shared) : Prop :=
  ∃ (h' : Heap) (tk' : Nat) (I2 : Addr) (n2 : Nat) (P2 : Nat → Value → Prop) (St2 : Nat → Heap → Prop) (need2 new2 : List (Addr × Obj)), it2 = .ref I2 ∧ s₅ = { s₂ with heap := h', toks := tk' } ∧ ItR prog w A I2 n2 P2 St2 need2 ∧ n2 = gi.length ∧ St2 0 h' ∧ Fr h₀ L h' m ∧
    News h₀ L h' ((I, oI) :: (C, oC) :: (D, LCg.lst ys) :: new2) ∧ (∀ q ∈ news, q ∈ new2) ∧ (∀ q ∈ need2, q ∈ new2) ∧ (∀ p ∈ new2, p.1 ≠ I2 ∧ p.1 ≠ I ∧ p.1 ≠ C ∧ p.1 ≠ D) ∧ (I2 ≠ I ∧ I2 ≠ C ∧ I2 ≠ D ∧ I2 ≠ L) ∧ h₀.get? I2 = none ∧
    (∀ j v2 oI2 oC' m₃ zs h tk (E' : Value → Shared → Prop), P2 j v2 → j < n2 → LCg.NsObj oC' m₃ → m₃ y = some v2 → m₃ x = some v → Fr h₀ L h m → News h₀ L h ((I2, oI2) :: (C, oC') :: (D, LCg.lst zs) :: (I, oI) :: new2) →
      wpAny (model prog w) A (eval elt (compEnvC scope cl C env)) (fun r s' => (∃ a t, gi[j]? = some a ∧ r = .int a t) ∧ ∃ h' tk', s' = { s₂ with heap := h', toks := tk' } ∧ Fr h₀ L h' m ∧ News h₀ L h' ((I2, oI2) :: (C, oC') :: (D, LCg.lst zs) :: (I, oI) :: new2)) E' { s₂ with heap := h, toks := tk })

def TwoTurn (prog : Program) (w : World) (A : Around) (h₀ : Heap) (L : Addr) (m : Str → Option Value) (env : Env) (elt iter2 : Expr) (x y : Str) (scope : Scope) (cl : List (Str × Addr)) (I : Addr) (n : Nat) (P : Nat → Value → Prop) (g : Nat → List Int) (news : List (Addr × Obj)) (s₂ : Shared) : Prop :=
  ∀ i v oI oC C D m₂ ys h tk (E' : Value → Shared → Prop), i < n → P i v → LCg.NsObj oC m₂ → m₂ x = some v → Fr h₀ L h m → News h₀ L h ((I, oI) :: (C, oC) :: (D, LCg.lst ys) :: news) → (∀ p ∈ news, p.1 ≠ I ∧ p.1 ≠ C ∧ p.1 ≠ D) → ((@Ne Nat I C) ∧ (@Ne Nat I D) ∧ (@Ne Nat C D)) →
    wpAny (model prog w) A (eval iter2 (compEnvC scope cl C env)) (fun x2 s₄ => wpAny (model prog w) A (pyIter x2) (InSrc prog w A h₀ L m env elt x y scope cl (g i) news s₂ v I oI C oC D ys) E' s₄) E' { s₂ with heap := h, toks := tk }

def TwoSrc (prog : Program) (w : World) (A : Around) (h₀ : Heap) (L : Addr) (m : Str → Option Value) (env : Env) (elt iter2 : Expr) (x y : Str) (scope : Scope) (cl : List (Str × Addr)) (Q : Value → Shared → Prop) (it : Value) (s₂ : Shared) : Prop :=
  ∃ (I : Addr) (n : Nat) (P : Nat → Value → Prop) (St : Nat → Heap → Prop) (need news : List (Addr × Obj)) (g : Nat → List Int), it = .ref I ∧ ItR prog w A I n P St need ∧ St 0 s₂.heap ∧ Fr h₀ L s₂.heap m ∧ News h₀ L s₂.heap news ∧ (∀ q ∈ need, q ∈ news) ∧ I ≠ L ∧ h₀.get? I = none ∧ (∀ p ∈ news, p.1 ≠ I) ∧
    (∀ i, i ≤ n → ((List.range i).flatMap g).length ≤ 1000) ∧ TwoTurn prog w A h₀ L m env elt iter2 x y scope cl I n P g news s₂ ∧
    (∀ D h' tk (ys : List Value), Fr h₀ L h' m → News h₀ L h' ((D, listOf ys.toArray ys.length) :: news) → (∀ p ∈ news, p.1 < D) → L < D → IntsAre ys ((List.range n).flatMap g) → Q (.ref D) { s₂ with heap := h', toks := tk })

theorem block_two {I : Addr} {n : Nat} {P : Nat → Value → Prop} {St : Nat → Heap → Prop} {need news : List (Addr × Obj)} {g : Nat → List Int} {s₂ : Shared} {RR : Value → Addr → Result → Shared → Prop}
    (hcell : ∀ y ∈ scope.names, y.2 ≠ .cell) (hkind : scope.kind = .function) (hx : scope.names.lookup x = some .local) (hy : scope.names.lookup y = some .local) (hxy : x ≠ y)
    (hs2 : ∀ C z, foldedSetIterable iter2 (compEnvC scope cl C env) z = pure z)
    (J : ItR prog w A I n P St need) (hst : St 0 s₂.heap) (F : Fr h₀ L s₂.heap m) (N : News h₀ L s₂.heap news) (hneed : ∀ q ∈ need, q ∈ news) (hIL : I ≠ L) (hI₀ : h₀.get? I = none) (off : ∀ p ∈ news, p.1 ≠ I)
    (hb : ∀ i, i ≤ n → ((List.range i).flatMap g).length ≤ 1000) (turn : TwoTurn prog w A h₀ L m env elt iter2 x y scope cl I n P g news s₂)
    (hRR : ∀ (D C : Addr) h tk m' (ys : List Value), Fr h₀ L h m → News h₀ L h ((D, LCg.lst ys) :: news) → (∀ p ∈ news, p.1 < D) → L < D → h.Ns C m' → h₀.get? C = none → h₀.get? D = none → C ≠ L → D ≠ L → D ≠ C → (∀ p ∈ news, p.1 ≠ C) → IntsAre ys ((List.range n).flatMap g) → RR (.ref D) C (.ok .next) { s₂ with heap := h, toks := tk }) :
    wpAny (model prog w) A (newList []) (fun acc s₃ => wpAny (model prog w) A (newFunctionEnv scope env.globals cl [] env.qual none .none (some env)) (fun cenv s₄ =>
      codeAny (model prog w) A (.compStart (.ListComp elt [⟨.Name x px, iter, [], 0⟩, ⟨.Name y py, iter2, [], 0⟩] scope pos) 0 (.ref I) acc { cenv with scope := relabel scope env }) (RR acc cenv.locals) s₄) E s₃) E s₂ := by
  obtain ⟨fp, W⟩ := J.W
  refine wpAny_newObj_type (wpAny_newFunctionEnv hcell (by intro y hy; simp at hy) (fun h₁ hns₁ hsb₁ => ?_) hkind)
  dsimp only at hns₁ hsb₁ ⊢
  generalize hH2 : s₂.heap.push { cls := .type "list", dict := none, data := .seq ([] : List Value).toArray } = H2 at hns₁ hsb₁ ⊢
  have hC : H2.objs.size = s₂.heap.objs.size + 1 := by rw [← hH2, Heap.size_push]
  generalize hD : s₂.heap.objs.size = D at *
  generalize hCe : H2.objs.size = C at *
  have hlt : ∀ b o, s₂.heap.get? b = some o → b < D := fun b o q => hD ▸ Heap.lt_size q
  have hDC : D ≠ C := by rw [hC]; exact Nat.ne_of_lt (Nat.lt_succ_self _)
  have old : ∀ b o, s₂.heap.get? b = some o → h₁.get? b = some o := fun b o q => by
    have := hlt b o q
    refine hsb₁.extBut b o ?_ (Heap.get?_push_of_some _ (hH2 ▸ Heap.get?_push_of_some _ q))
    rw [hC]; exact Nat.ne_of_lt (Nat.lt_succ_of_lt this)
  have hacc : h₁.get? D = some (LCg.lst []) := by
    refine hsb₁.extBut _ _ hDC (Heap.get?_push_of_some _ (hH2 ▸ ?_))
    rw [← hD]; exact Heap.get?_push_size _ rfl
  obtain ⟨oI0, heI0⟩ := J.io _ _ hst
  have hID' : I < D := hlt _ _ heI0
  have hLD : L < D := by rw [← hD]; exact F.ns.lt
  have neC : ∀ b, b < D → b ≠ C := fun b hb => by rw [hC]; exact Nat.ne_of_lt (Nat.lt_succ_of_lt hb)
  have neD : ∀ b, b < D → b ≠ D := fun b hb => Nat.ne_of_lt hb
  have fresh₀ : ∀ a, D ≤ a → h₀.get? a = none := fun a ha => by
    cases q : h₀.get? a with
    | none => rfl
    | some o' => exact absurd (hlt _ _ (F.keep a o' q)) (Nat.not_lt.mpr ha)
  have hD₀ : h₀.get? D = none := fresh₀ _ (Nat.le_refl _)
  have hC₀ : h₀.get? C = none := fresh₀ _ (by rw [hC]; exact Nat.le_succ _)
  have hDL : D ≠ L := Nat.ne_of_gt hLD
  have hCL : C ≠ L := Ne.symm (neC L hLD)
  have hIC : I ≠ C := neC I hID'
  have hIDne : I ≠ D := neD I hID'
  have offs : ∀ p ∈ news, p.1 ≠ I ∧ p.1 ≠ C ∧ p.1 ≠ D := fun p hp => ⟨off p hp, neC _ (hlt _ _ (N p hp).1), neD _ (hlt _ _ (N p hp).1)⟩
  have hkx : Env.kindOf (compEnvC scope cl C env) x = some .local := lookup_relabel_local hx
  have hst₁ : St 0 h₁ := J.st 0 s₂.heap h₁ oI0 hst heI0 (old _ _ heI0) fun q hq => old _ _ (N q (hneed q hq)).1
  have loop : ∀ s₃ : Shared, s₃ = { s₂ with heap := h₁, toks := s₂.toks + ([] : List (Str × Value)).length } →
      codeAny (model prog w) A (.compLoop (.ListComp elt [⟨.Name x px, iter, [], 0⟩, ⟨.Name y py, iter2, [], 0⟩] scope pos) 0 (.ref I) (.ref D) (compEnvC scope cl C env))
        (RR (.ref D) C) s₃ := by
    rintro s₃ rfl
    refine codeAny_loop rfl (fun k s' => ∃ h' tk i ys m', s' = { s₂ with heap := h', toks := tk } ∧ i ≤ n ∧ k = n + 1 - i ∧ St i h' ∧ Fr h₀ L h' m ∧ h'.Ns C m' ∧ News h₀ L h' ((D, LCg.lst ys) :: news) ∧ IntsAre ys ((List.range i).flatMap g)) ?_ (n + 1)
      ⟨h₁, _, 0, [], _, rfl, Nat.zero_le _, rfl, hst₁, F.keeps old, hns₁, fun p hp => ?_, .nil⟩
    · rintro k s' ⟨h', tk, i, ys, m', rfl, hi, rfl, hst', F', hn', N', hys⟩
      show wpAny _ A ((compTurn _ 0 (.ref I) (.ref D) (compEnvC scope cl C env)).onRaise (fun x => do noteFrame x _; theTreesLotGoes x)) _ _ _
      refine wpAny_noted ?_
      rw [compTurn_two0]
      refine wpAny_bind (wpAny_standAt (wpAny_bind ?_))
      by_cases hlti : i < n
      · refine W.item i _ _ _ hlti hst' fun v h₂ tk₂ hPv hst₂ hk₂ => ?_
        refine wpAny_bind (wpAny_of_eq (show letOwnedTupleGo (.Name x px) (.ref I) v = pure () from rfl) ?_)
        refine wpAny_bind (wpAny_assign_Name (wpAny_storeName_local hkx (hn'.at' fun o e => hk₂ _ o (by simpa using Ne.symm hIC) e) (fun h₃ hn₃ hs₃ => ?_) (by simp [compEnvC, relabel, hkind])))
        obtain ⟨oI, heI⟩ := J.io _ _ hst₂
        obtain ⟨oC, heC, hoC⟩ := LCg.ns_obj hn₃
        have F₃ : Fr h₀ L h₃ m := (LCg.fr_but F' hk₂ (Ne.symm hIL) hI₀).change hs₃ hCL hC₀
        have N₂ : News h₀ L h₂ ((D, LCg.lst ys) :: news) := LCg.news_but N' hk₂ fun p hp => by
          rcases List.mem_cons.mp hp with rfl | hp
          · exact Ne.symm hIDne
          · exact (offs p hp).1
        have N₃ : News h₀ L h₃ ((I, oI) :: (C, oC) :: (D, LCg.lst ys) :: news) := fun p hp => by
          rcases List.mem_cons.mp hp with rfl | hp
          · exact ⟨hs₃.extBut _ _ hIC heI, hIL, hI₀⟩
          · rcases List.mem_cons.mp hp with rfl | hp
            · exact ⟨heC, hCL, hC₀⟩
            · have z := N₂ p hp
              refine ⟨hs₃.extBut _ _ ?_ z.1, z.2⟩
              rcases List.mem_cons.mp hp with rfl | hp
              · exact hDC
              · exact (offs p hp).2.1
        refine wpAny_bind (wpAny_mono (turn i v oI oC C D _ ys h₃ _ _ hlti hPv hoC (by simp) F₃ N₃ offs ⟨hIC, hIDne, Ne.symm hDC⟩) (fun x2 s₄ h₄ => ?_) fun _ _ e => e)
        refine wpAny_bind (wpAny_standAt (wpAny_bind (wpAny_of_eq (hs2 C x2) (wpAny_bind (wpAny_holding (wpAny_mono h₄ (fun it2 s₅ h₅ => ?_) fun _ _ e => e))))))
        obtain ⟨h', tk', I2, n2, P2, St2, need2, new2, rfl, rfl, J2, hn2, hstI, F₅, N₅, hsub, hneed2, off2, ⟨hI2I, hI2C, hI2D, hI2L⟩, hI2₀, eturn⟩ := h₅
        obtain ⟨fp2, W2⟩ := J2.W
        refine wpAny_bind (wpAny_runOwn (h := none) ?_)
        show codeAny (model prog w) A _ _ _
        have zC := (N₅ (C, oC) (List.mem_cons_of_mem _ List.mem_cons_self)).1
        have hsum : (ys.length + n2 : Nat) ≤ 1000 := by
          have h1 := hb (i + 1) hlti
          rw [List.range_succ, List.flatMap_append, List.length_append] at h1
          simp only [List.flatMap_cons, List.flatMap_nil, List.append_nil] at h1
          rw [hys.length, hn2]
          exact h1
        refine compStart_two ?_ (W2.self 0 _ _ _ hstI ?_)
        all_goals
          refine in_loop (s := s₂) (rs := (I, oI) :: new2) (ys := ys) (xv := v) J2 hn2 hxy hkind hy hI2L hI2₀ hCL hC₀ hDL hD₀ hI2C hI2D (Ne.symm hDC) (fun p hp => ?_) (fun q hq => List.mem_cons_of_mem _ (hneed2 q hq)) eturn hstI F₅ (hoC.ns zC) (by simp) (fun p hp => ?_) (by rw [PySem.sizeLine_eq]; omega) (fun h₆ tk₆ m₆ zs F₆ hn₆ N₆ hz => ?_)
          · rcases List.mem_cons.mp hp with rfl | hp
            · exact ⟨Ne.symm hI2I, hIC, hIDne⟩
            · exact ⟨(off2 p hp).1, (off2 p hp).2.2.1, (off2 p hp).2.2.2⟩
          · rcases List.mem_cons.mp hp with rfl | hp
            · exact N₅ _ (List.mem_cons_of_mem _ (List.mem_cons_of_mem _ List.mem_cons_self))
            · rcases List.mem_cons.mp hp with rfl | hp
              · exact N₅ _ List.mem_cons_self
              · exact N₅ _ (List.mem_cons_of_mem _ (List.mem_cons_of_mem _ (List.mem_cons_of_mem _ hp)))
          · refine wpAny_pure ⟨rfl, n + 1 - (i + 1), by omega, h₆, tk₆, i + 1, ys ++ zs, m₆, rfl, hlti, rfl, ?_, F₆, hn₆, fun p hp => ?_, ?_⟩
            · exact J.st (i + 1) h₂ h₆ oI hst₂ heI (N₆ (I, oI) (List.mem_cons_of_mem _ List.mem_cons_self)).1 fun q hq => (N₆ q (List.mem_cons_of_mem _ (List.mem_cons_of_mem _ (hsub q (hneed q hq))))).1
            · rcases List.mem_cons.mp hp with rfl | hp
              · exact N₆ _ List.mem_cons_self
              · exact N₆ _ (List.mem_cons_of_mem _ (List.mem_cons_of_mem _ (hsub p hp)))
            · rw [List.range_succ, List.flatMap_append]
              simp only [List.flatMap_cons, List.flatMap_nil, List.append_nil]
              exact IntsAre.append hys hz
      · obtain rfl : i = n := Nat.le_antisymm hi (Nat.not_lt.mp hlti)
        refine W.done _ _ _ hst' fun h₂ tk₂ hk₂ => wpAny_pure ?_
        have F₆ := LCg.fr_but F' hk₂ (Ne.symm hIL) hI₀
        have N₆ := LCg.news_but N' hk₂ fun p hp => by
          rcases List.mem_cons.mp hp with rfl | hp
          · exact Ne.symm hIDne
          · exact (offs p hp).1
        exact hRR D C h₂ tk₂ m' ys F₆ N₆ (fun p hp => hlt _ _ (N p hp).1) hLD (hn'.at' fun o e => hk₂ _ o (by simpa using Ne.symm hIC) e) hC₀ hD₀ hCL hDL hDC (fun p hp => (offs p hp).2.1) hys
    · rcases List.mem_cons.mp hp with rfl | hp
      · exact ⟨hacc, hDL, hD₀⟩
      · exact ⟨old _ _ (N p hp).1, (N p hp).2⟩
  exact codeAny_compStart_list (loop _ rfl) (W.self 0 _ _ _ hst₁ (loop _ rfl))
theorem comp_two {Q : Value → Shared → Prop} (Fz : Fr h₀ L s.heap m) (hclos : closureFor scope env = pure cl) (hcell : ∀ y ∈ scope.names, y.2 ≠ .cell) (hkind : scope.kind = .function)
    (hnames : ∀ y ∈ scope.names, y.2 = .local → scope.names.lookup y.1 = some .local) (hx : scope.names.lookup x = some .local) (hy : scope.names.lookup y = some .local) (hxy : x ≠ y)
    (hs2 : ∀ C z, foldedSetIterable iter2 (compEnvC scope cl C env) z = pure z)
    (h : wpAny (model prog w) A (eval iter env) (fun xv s₁ => wpAny (model prog w) A (pyIter xv) (TwoSrc prog w A h₀ L m env elt iter2 x y scope cl Q) E s₁) E s)
    (hs : ∀ x, foldedSetIterable iter env x = pure x) :
    wpAny (model prog w) A (eval (.ListComp elt [⟨.Name x px, iter, [], 0⟩, ⟨.Name y py, iter2, [], 0⟩] scope pos) env) Q E s := by
  rw [eval_ListComp]
  refine wpAny_comprehension_free (use := none) rfl hs hclos hkind hnames (wpAny_mono h (fun xv s₁ h₁ => wpAny_mono h₁ (fun it s₂ h₂ => ?_) fun _ _ e => e) fun _ _ e => e)
  obtain ⟨I, n, P, St, need, news, g, rfl, J, hst, F, N, hneed, hIL, hI₀, off, hb, turn, fin⟩ := h₂
  refine block_two (RR := compPost (model prog w) A E none Q) hcell hkind hx hy hxy hs2 J hst F N hneed hIL hI₀ off hb turn fun D C h₂ tk₂ m' ys F₆ N₆ hlt hLD hn hC₀ hD₀ hCL hDL hDC offC hys => ?_
  refine ⟨m', hn, fun h'' hs'' => fin D h'' tk₂ ys (F₆.change hs'' hCL hC₀) (fun p hp => ?_) hlt hLD hys⟩
  refine ⟨hs''.extBut _ _ ?_ (N₆ p hp).1, (N₆ p hp).2⟩
  rcases List.mem_cons.mp hp with rfl | hp
  · exact hDC
  · exact offC p hp

def TwoSrcA (prog : Program) (w : World) (A : Around) (h₀ : Heap) (L : Addr) (m : Str → Option Value) (env : Env) (elt iter2 : Expr) (x y z : Str) (scope : Scope) (cl : List (Str × Addr)) (Q : Flow → Shared → Prop) (it : Value) (s₂ : Shared) : Prop :=
  ∃ (I : Addr) (n : Nat) (P : Nat → Value → Prop) (St : Nat → Heap → Prop) (need news : List (Addr × Obj)) (g : Nat → List Int), it = .ref I ∧ ItR prog w A I n P St need ∧ St 0 s₂.heap ∧ Fr h₀ L s₂.heap m ∧ News h₀ L s₂.heap news ∧ (∀ q ∈ need, q ∈ news) ∧ I ≠ L ∧ h₀.get? I = none ∧ (∀ p ∈ news, p.1 ≠ I) ∧
    (∀ i, i ≤ n → ((List.range i).flatMap g).length ≤ 1000) ∧ TwoTurn prog w A h₀ L m env elt iter2 x y scope cl I n P g news s₂ ∧
    (∀ D h' tk (ys : List Value), Fr h₀ L h' (fun u => if u = z then some (.ref D) else m u) → News h₀ L h' ((D, listOf ys.toArray ys.length) :: news) → (∀ p ∈ news, p.1 < D) → L < D → IntsAre ys ((List.range n).flatMap g) → Q .next { s₂ with heap := h', toks := tk })

theorem assign_two {z : Str} {pz spos : Pos} {Q : Flow → Shared → Prop} (Fz : Fr h₀ L s.heap m) (hLe : env.locals = L)
    (hsw : swapsWith (.ListComp elt [⟨.Name x px, iter, [], 0⟩, ⟨.Name y py, iter2, [], 0⟩] scope pos) (some (.Name z pz)) spos.line env = pure true)
    (hclos : closureFor scope env = pure cl) (hcell : ∀ y ∈ scope.names, y.2 ≠ .cell) (hkind : scope.kind = .function)
    (hnames : ∀ y ∈ scope.names, y.2 = .local → scope.names.lookup y.1 = some .local) (hx : scope.names.lookup x = some .local) (hy : scope.names.lookup y = some .local) (hxy : x ≠ y)
    (hz : env.kindOf z = some .local) (hp : (env.scope.kind == .class || (env.scope.kind == .module && env.locals != env.globals)) = false)
    (hs2 : ∀ C z, foldedSetIterable iter2 (compEnvC scope cl C env) z = pure z)
    (h : wpAny (model prog w) A (eval iter env) (fun xv s₁ => wpAny (model prog w) A (pyIter xv) (TwoSrcA prog w A h₀ L m env elt iter2 x y z scope cl Q) E s₁) E s)
    (hs : ∀ x, foldedSetIterable iter env x = pure x) :
    wpAny (model prog w) A (exec (.Assign [.Name z pz] (.ListComp elt [⟨.Name x px, iter, [], 0⟩, ⟨.Name y py, iter2, [], 0⟩] scope pos) spos) env) Q E s := by
  subst hLe
  rw [exec_Assign_Name_used _ _ _ _ hsw]
  refine wpAny_bind (wpAny_standAt (wpAny_bind ?_))
  show wpAny _ A (do let _ ← comprehension (.ListComp elt [⟨.Name x px, iter, [], 0⟩, ⟨.Name y py, iter2, [], 0⟩] scope pos) scope env _ (newList []) false (eval iter env) (some (assign (.Name z pz) env))) _ _ s
  refine wpAny_bind (wpAny_mono (wpAny_comprehension_free (use := some (assign (.Name z pz) env)) (Q := fun _ s' => Q .next s') rfl hs hclos hkind hnames
    (wpAny_mono h (fun xv s₁ h₁ => wpAny_mono h₁ (fun it s₂ h₂ => ?_) fun _ _ e => e) fun _ _ e => e)) (fun _ s' hq => wpAny_pure (wpAny_pure hq)) fun _ _ e => e)
  obtain ⟨I, n, P, St, need, news, g, rfl, J, hst, F, N, hneed, hIL, hI₀, off, hb, turn, fin⟩ := h₂
  refine block_two (RR := compPost (model prog w) A E (some (assign (.Name z pz) env)) (fun _ s' => Q .next s')) hcell hkind hx hy hxy hs2 J hst F N hneed hIL hI₀ off hb turn fun D C h₂ tk₂ m' ys F₆ N₆ hlt hLD hn hC₀ hD₀ hCL hDL hDC offC hys => ?_
  show wpAny _ A (assign (.Name z pz) env (.ref D)) _ _ _
  refine wpAny_assign_Name (wpAny_storeName_local hz F₆.ns (fun h₃ hn₃ hs₃ => ?_) hp)
  have hL₀ : h₀.get? env.locals = none := Heap.get?_none_of_le F₆.above
  have F₇ : Fr h₀ env.locals h₃ (fun u => if u = z then some (.ref D) else m u) := ⟨hn₃, fun b o e => hs₃.extBut b o (fun q => by rw [q, hL₀] at e; cases e) (F₆.keep b o e), F₆.above⟩
  refine ⟨m', hn.sameBut hs₃ hCL, fun h'' hs'' => fin D h'' _ ys (F₇.change hs'' hCL hC₀) (fun p hp => ?_) hlt hLD hys⟩
  have zz : h₃.get? p.1 = some p.2 := hs₃.extBut _ _ (N₆ p hp).2.1 (N₆ p hp).1
  refine ⟨hs''.extBut _ _ ?_ zz, (N₆ p hp).2⟩
  rcases List.mem_cons.mp hp with rfl | hp
  · exact hDC
  · exact offC p hp

theorem it_list (hh : A.handled = none) {I ax : Addr} {vs : List Value} {k : Nat} (hne : ax ≠ I) :
    ItR prog w A I vs.toArray.size (fun i v => vs.toArray[i]? = some v) (fun i h => h.IsListIter I ax i ∧ h.IsList ax vs.toArray) [(ax, listOf vs.toArray k)] where
  W := ⟨_, Walks.list hh I ax hne vs.toArray⟩
  io := fun i h st => let ⟨o, e, _⟩ := st.1; ⟨o, e⟩
  st := fun i h h' o st e e' hq => ⟨st.1.at fun o2 e2 => by rw [e] at e2; cases e2; exact e', ⟨_, hq _ (List.mem_singleton.mpr rfl), rfl, k, rfl⟩⟩
theorem it_range (hh : A.handled = none) {I : Addr} {a : Int} {n : Nat} :
    ItR prog w A I n (fun i v => ∃ t, v = .int (a + (i : Int)) t) (fun i h => IsRangeIter h I (a + (i : Nat) * 1) ((n : Int) - (i : Nat)) 1) [] where
  W := ⟨_, LCg.range_walks hh a n⟩
  io := fun i h st => ⟨_, st⟩
  st := fun i h h' o st e e' _ => by
    have st' : h.get? I = some _ := st
    show h'.get? I = some _
    rw [e', ← e]; exact st'
end
end Mine

end
/- part F3 -/
section
set_option maxHeartbeats 2000000
set_option maxRecDepth 100000
namespace Mine
abbrev tupOf (k : Int) (t u : Tok) : Obj := { cls := .type "tuple", data := .seq #[.int k t, .int 1 u] }
def Tups (rows : List (Addr × Obj)) (ys : List Value) (ks : List Int) : Prop := ys.length = ks.length ∧ ∀ (i : Nat) (k : Int), ks[i]? = some k → ∃ (T : Addr) (t u : Tok), ys[i]? = some (Value.ref T) ∧ (T, tupOf k t u) ∈ rows
section
variable {prog : Program} {w : World} {A : Around} {E : Value → Shared → Prop} {s : Shared} {h₀ : Heap} {L : Addr} {env : Env} {m : Str → Option Value}
  {elt iter : Expr} {x : Str} {px : Pos} {scope : Scope} {cl : List (Str × Addr)} {pos : Pos}
def TupTurn (prog : Program) (w : World) (A : Around) (h₀ : Heap) (L : Addr) (m : Str → Option Value) (env : Env) (elt : Expr) (x : Str) (scope : Scope) (cl : List (Str × Addr)) (s : Shared) : Prop :=
  ∀ k t I oI C oC D m₂ ys h tk (E' : Value → Shared → Prop) nw, LCg.NsObj oC m₂ → m₂ x = some (.int k t) → Fr h₀ L h m → News h₀ L h ((I, oI) :: (C, oC) :: (D, LCg.lst ys) :: nw) →
    wpAny (model prog w) A (eval elt (compEnvC scope cl C env)) (fun y s' => ∃ T u h' tk', y = .ref T ∧ s' = { s with heap := h', toks := tk' } ∧ Fr h₀ L h' m ∧ News h₀ L h' ((T, tupOf k t u) :: (I, oI) :: (C, oC) :: (D, LCg.lst ys) :: nw) ∧ (∀ q ∈ (I, oI) :: (C, oC) :: (D, LCg.lst ys) :: nw, q.1 < T)) E' { s with heap := h, toks := tk }

theorem tup_rest {its : Array Value} {ks : List Int} {ax : Addr} {k0 : Nat} {base : List (Addr × Obj)} {Fin : List Value → List (Addr × Obj) → Prop} (hks : ks.length = its.size) (hP : ∀ (i : Nat) v, its[i]? = some v → ∃ k t, ks[i]? = some k ∧ v = .int k t) (hax : (ax, listOf its k0) ∈ base)
    (turn : TupTurn prog w A h₀ L m env elt x scope cl s) (fin : ∀ ys rows, Tups rows ys ks → Fin ys (rows ++ base)) :
    LCg.CompRest prog w A h₀ L m env elt x scope cl s (LCg.SrcAt h₀ ax its) (fun i v => its[i]? = some v) Fin its.size 0 [] base := by
  have key : ∀ (j i : Nat) (ys : List Value) (rows : List (Addr × Obj)), i + j = its.size → Tups rows ys (ks.take i) → LCg.CompRest prog w A h₀ L m env elt x scope cl s (LCg.SrcAt h₀ ax its) (fun i v => its[i]? = some v) Fin j i ys (rows ++ base) := by
    intro j
    induction j with
    | zero =>
      intro i ys rows hi hy
      have e : i = ks.length := by omega
      subst e
      rw [List.take_length] at hy
      exact LCg.CompRest.zero (fin ys rows hy)
    | succ j ih =>
      intro i ys rows hi hy
      refine LCg.CompRest.succ ?_
      intro v I oI C oC D m₂ h tk E' hv hC hx F N off ne
      obtain ⟨k, t, hk, rfl⟩ := hP i v hv
      refine wpAny_mono (turn k t I oI C oC D m₂ ys h tk E' _ hC hx F N) (fun y s₂ hq => ?_) fun _ _ e => e
      obtain ⟨T, u, h', tk', rfl, rfl, F', N', hlt⟩ := hq
      refine ⟨h', tk', (T, tupOf k t u) :: (rows ++ base), rfl, F', fun q hq => N' q (by simp only [List.mem_cons] at hq ⊢; rcases hq with h | h | h | h | h <;> simp [h]), ⟨⟨Nat.ne_of_gt (hlt (I, oI) List.mem_cons_self), Nat.ne_of_gt (hlt (C, oC) (List.mem_cons_of_mem _ List.mem_cons_self)), Nat.ne_of_gt (hlt (D, LCg.lst ys) (List.mem_cons_of_mem _ (List.mem_cons_of_mem _ List.mem_cons_self)))⟩, off⟩, .inr ⟨_, List.mem_cons_of_mem _ (List.mem_append_right _ hax), rfl, k0, rfl⟩, ?_⟩
      refine ih (i + 1) (ys ++ [.ref T]) ((T, tupOf k t u) :: rows) (by omega) ⟨?_, fun i' k' hk' => ?_⟩
      · have := hy.1
        rw [List.length_take] at this
        rw [List.length_append, List.length_singleton, List.length_take]
        omega
      · have hyl : ys.length = i := by
          have := hy.1
          rw [List.length_take] at this
          omega
        rw [List.take_add_one, hk] at hk'
        by_cases hlt' : i' < i
        · have : (ks.take i)[i']? = some k' := by
            rw [List.getElem?_append_left (by rw [List.length_take]; omega)] at hk'
            exact hk'
          obtain ⟨T', t', u', e1, e2⟩ := hy.2 i' k' this
          exact ⟨T', t', u', by rw [List.getElem?_append_left (by omega)]; exact e1, List.mem_cons_of_mem _ e2⟩
        · have hl2 : (ks.take i).length = i := by rw [List.length_take]; omega
          rw [List.getElem?_append_right (by omega), hl2] at hk'
          have e0 : i' = i := by
            cases hz : i' - i with
            | zero => omega
            | succ z => rw [hz] at hk'; simp at hk'
          subst e0
          simp only [Nat.sub_self, Option.toList_some, List.getElem?_cons_zero, Option.some.injEq] at hk'
          subst hk'
          exact ⟨T, t, u, by rw [List.getElem?_append_right (by omega), hyl]; simp, List.mem_cons_self⟩
  have := key its.size 0 [] [] (by omega) ⟨rfl, fun i k h => by simp at h⟩
  exact this

def TupSrc (prog : Program) (w : World) (A : Around) (h₀ : Heap) (L : Addr) (m : Str → Option Value) (env : Env) (elt : Expr) (x : Str) (scope : Scope) (cl : List (Str × Addr)) (Q : Value → Shared → Prop) (xv : Value) (s₁ : Shared) : Prop :=
  ∃ (ax : Addr) (vs : List Value) (ks : List Int) (k0 : Nat) (news : List (Addr × Obj)), xv = .ref ax ∧ A.handled = none ∧ Fr h₀ L s₁.heap m ∧ News h₀ L s₁.heap news ∧ (ax, listOf vs.toArray k0) ∈ news ∧ IntsAre vs ks ∧ ks.length ≤ 1000 ∧
    (∀ g, TupTurn prog w A h₀ L m env elt x scope cl { s₁ with heap := g }) ∧
    (∀ D h' tk ys rows, Fr h₀ L h' m → News h₀ L h' ((D, LCg.lst ys) :: (rows ++ news)) → (∀ p ∈ rows ++ news, p.1 ≠ D) → Tups rows ys ks → Q (.ref D) { s₁ with heap := h', toks := tk })
theorem comp_tup {Q : Value → Shared → Prop} (F₀ : Fr h₀ L s.heap m) (hclos : closureFor scope env = pure cl) (hcell : ∀ y ∈ scope.names, y.2 ≠ .cell) (hkind : scope.kind = .function)
    (hnames : ∀ y ∈ scope.names, y.2 = .local → scope.names.lookup y.1 = some .local) (hx : scope.names.lookup x = some .local)
    (h : wpAny (model prog w) A (eval iter env) (TupSrc prog w A h₀ L m env elt x scope cl Q) E s)
    (hs : ∀ x, foldedSetIterable iter env x = pure x) :
    wpAny (model prog w) A (eval (.ListComp elt [⟨.Name x px, iter, [], 0⟩] scope pos) env) Q E s := by
  refine LCg.ListComp_U F₀ hclos hcell hkind hnames hx (wpAny_mono h (fun xv s₁ h₁ => ?_) fun _ _ e => e) hs
  obtain ⟨ax, vs, ks, k0, news, rfl, hh, F, N, hm, hi, hlen, turn, fin⟩ := h₁
  refine LCg.CompSrc.ledger hh F N hm (by rw [List.size_toArray, hi.length, PySem.sizeLine_eq]; omega) fun g => ?_
  refine tup_rest (by rw [List.size_toArray]; exact hi.length.symm) (fun i v hv => ?_) hm (turn g) (fun ys rows hy D h' tk F' N' o1 => fin D h' tk ys rows F' N' (off1_mem o1) hy)
  obtain ⟨k, t, e, hk⟩ := IntsAre.at hi i v (by simpa using hv)
  exact ⟨k, t, hk, e⟩
end
end Mine

end
/- part F4 -/
section
open Sem (wp)
set_option maxHeartbeats 2000000
set_option maxRecDepth 100000
namespace Mine
theorem list_no_keys : typeLookup (.type "list") (Str.ofString "keys") = pure none := am_miss_of_fast (by decide +kernel)
section
variable {prog : Program} {w : World} {A : Around} {E : Value → Shared → Prop} {s : Shared}
theorem by_miss {a : Addr} {xs : Array Value} {k : Nat} {name : Str} {u : Tok} {Q : Value → Shared → Prop}
    (hx : s.heap.get? a = some { cls := .type "list", dict := none, data := .seq xs k, slots := #[] }) (hmiss : typeLookup (.type "list") name = pure none) (hname : (["__module__", "__name__", "__qualname__", "__doc__", "__annotations__"] : List Str).contains name = false) (hA : A.handled = none)
    (h : ∀ h' tk e, Heap.NewExcOf s.heap h' e "AttributeError" → E (.ref e) { s with heap := h', toks := tk }) (hsz : name.length + 100 ≤ sizeLine) :
    wpAny (model prog w) A (getAttrBy (.ref a) (.str name u) false) Q E s := by
  obtain ⟨hp, g, d, tk, os⟩ := s
  have hT : ∀ tk', (⟨hp, g, d, tk', os⟩ : Shared).TypeIs (.ref a) "list" := fun _ => ⟨_, hx, rfl⟩
  have f1 := sub_AttributeError
  have f3 := F.slot_list_getattribute.lookup
  have f4 := F.slot_list_getattribute.bind (.ref a)
  have f5 := am_list_getattr_none
  unfold getAttrBy
  repeat (any_goals (first | assumption | exact hT _ | ((with_reducible show wpAny _ _ (call (Value.builtin "list.__getattribute__") _ _) _ _ _); refine call_meets F.slot_list_getattribute (hT _) am_entry_list_getattribute (F.args_list_getattribute_2 _ _) (meets_getattribute_miss_list a xs k #[] name _ hmiss hname hsz) ⟨hx, hA, fun h' tk' e hx' => ?_⟩) | wp_step))
  obtain ⟨t', u', he⟩ := hx'.there
  show wpAny _ _ (getattributeRaised _ _ _ _ _ _ _) _ _ _
  unfold getattributeRaised
  repeat (any_goals (first | assumption | wp_step))
  exact h _ _ _ hx'.of
theorem keys_none {a : Addr} {xs : Array Value} {k : Nat} {Q : Option Value → Shared → Prop} (hx : s.heap.get? a = some { cls := .type "list", dict := none, data := .seq xs k, slots := #[] }) (hA : A.handled = none)
    (h : ∀ h' tk e, Heap.NewExcOf s.heap h' e "AttributeError" → Q none { s with heap := h', toks := tk }) :
    wpAny (model prog w) A (getAttr? (.ref a) "keys") Q E s := by
  unfold getAttr? getAttrBy?
  refine wpAny_bind (wpAny_mkText ?_)
  refine wpAny_bind (wpAny_attempt (by_miss hx list_no_keys (by decide +kernel) hA (fun h' tk e hx' => ?_) (by decide)))
  obtain ⟨ob, vs, he, hcls, -, -⟩ := hx'.there
  refine wpAny_bind (wpAny_isInstance (T := "AttributeError") ⟨ob, he, hcls⟩ sub_AttributeError ?_)
  rw [if_pos rfl]
  exact wpAny_pure (h h' tk e hx')

theorem entry_upd_loop : entryFor table "dict.update.loop" = some Builtin.«dict.update.loop» := entryFor_of_tree (by kernel_rfl)
theorem plain_upd_loop : plainId "dict.update.loop" = true := by decide +kernel

def kvF (kvs : List (Int × Value)) : List (Int × Value) := kvs.foldl (fun a p => stored a p.1 p.2) []
theorem stored_len (a : List (Int × Value)) (k : Int) (v : Value) : (stored a k v).length ≤ a.length + 1 := by
  unfold stored
  split <;> simp
theorem fold_len : ∀ (kvs a : List (Int × Value)), (kvs.foldl (fun a p => stored a p.1 p.2) a).length ≤ a.length + kvs.length
  | [], a => Nat.le_refl _
  | p :: r, a => by
    have h1 := fold_len r (stored a p.1 p.2)
    have h2 := stored_len a p.1 p.2
    simp only [List.foldl_cons, List.length_cons]
    omega

theorem upd_loop {R : Result → Shared → Prop} (hh : A.handled = none) {l I D : Addr} {items : Array Value} {kvs : List (Int × Value)} {g : Heap} (hlI : l ≠ I) (hDI : D ≠ I) (hDl : D ≠ l) (hks : kvs.length = items.size) (hb : items.size ≤ 1000)
    (hp : ∀ (i : Nat) v, items[i]? = some v → ∃ T k t wv, kvs[i]? = some (k, wv) ∧ v = .ref T ∧ T ≠ I ∧ T ≠ D ∧ g.get? T = some { cls := .type "tuple", data := .seq #[.int k t, wv] }) :
    ∀ (j i : Nat) (s : Shared), items.size - i = j → i ≤ items.size → (s.heap.IsListIter I l i ∧ s.heap.IsList l items) → s.heap.DictOf (intKind prog w) D (kvF (kvs.take i)) → (∀ b o, b ≠ I → b ≠ D → g.get? b = some o → s.heap.get? b = some o) →
      (∀ h' tk, h'.DictOf (intKind prog w) D (kvF kvs) → (∀ b o, b ≠ I → b ≠ D → g.get? b = some o → h'.get? b = some o) → R (.ok (.ret .none)) { s with heap := h', toks := tk }) →
      codeAny (model prog w) A (.builtin "dict.update.loop" ⟨[.ref D, .ref I, rawInt (i : Int), .none], []⟩) R s := by
  have hh1 : A.in1.handled = none := hh
  have W := Walks.list (prog := prog) (w := w) hh1 I l hlI items
  intro j
  induction j with
  | zero =>
    intro i s hj hi hst hD hk hR
    have hin : i = items.size := by omega
    subst hin
    refine codeAny_builtin entry_upd_loop ?_
    rw [Around.under_plainId plain_upd_loop _]
    show wpAny _ A.in1 (pyNext (.ref I) >>= _) _ _ s
    refine wpAny_bind (W.done s _ _ hst fun h' tk hk' => ?_)
    show wpAny _ A.in1 (Builtin.Dict.addKeywords D [] >>= fun _ => ret Value.none) _ _ _
    refine wpAny_bind (wpAny_pure (wpAny_pure (hR h' tk ?_ fun b o b1 b2 e => hk' b o (by simpa using b1) (hk b o b1 b2 e))))
    rw [← hks, List.take_length] at hD
    exact hD.extBut (b := I) (fun b o hb e => hk' b o (by simpa using hb) e) hDI
  | succ j ih =>
    intro i s hj hi hst hD hk hR
    have hlt : i < items.size := by omega
    refine codeAny_builtin entry_upd_loop ?_
    rw [Around.under_plainId plain_upd_loop _]
    show wpAny _ A.in1 (pyNext (.ref I) >>= _) _ _ s
    refine wpAny_bind (W.item i s _ _ hlt hst fun v h2 tk2 hP hst2 hk2 => ?_)
    obtain ⟨T, k, t, wv, hkv, rfl, hTI, hTD, hT⟩ := hp i v hP
    have hT2 : h2.get? T = some { cls := .type "tuple", data := .seq #[.int k t, wv] } := hk2 T _ (by simpa using hTI) (hk T _ hTI hTD hT)
    have hD2 : h2.DictOf (intKind prog w) D (kvF (kvs.take i)) := hD.extBut (b := I) (fun b o hb e => hk2 b o (by simpa using hb) e) hDI
    show wpAny _ A.in1 (holding [.ref T] (tryCatch (Builtin.Dict.pairItems (.ref T)) _ >>= _) >>= _) _ _ _
    refine wpAny_bind (wpAny_holding (wpAny_bind (wpAny_tryCatch ?_)))
    unfold Builtin.Dict.pairItems
    refine wpAny_bind (wpAny_typeOf (T := "tuple") ⟨_, hT2, rfl⟩ ?_)
    rw [if_pos (by decide)]
    refine wpAny_bind (wpAny_seqItems hT2 rfl (wpAny_pure ?_))
    show wpAny _ A.in1 (holding [.int k t, wv] (dictSet D (.int k t) wv)) _ _ _
    have hsz : (kvF (kvs.take i)).length ≤ sizeLine := by
      have := fold_len (kvs.take i) []
      rw [List.length_take] at this
      rw [PySem.sizeLine_eq]
      unfold kvF
      simp only [List.length_nil] at this
      omega
    refine wpAny_holding (wpAny_dictSet_pairs (knd := intKind prog w) (k := k) (intKind_is _ _ _ _) hD2 (fun h3 hD3 hs3 => ?_) hsz)
    refine wpAny_pure ⟨plainId_quiet plain_upd_loop _, ih (i + 1) _ (by omega) hlt ?_ ?_ (fun b o b1 b2 e => hs3.extBut b o b2 (hk2 b o (by simpa using b1) (hk b o b1 b2 e))) fun h' tk d k' => hR h' tk d k'⟩
    · exact W.frame _ _ _ hst2 fun b hb o e => hs3.extBut b o (fun q => by
        subst q
        simp only [List.mem_cons, List.not_mem_nil, or_false] at hb
        rcases hb with q | q
        · exact hDI q
        · exact hDl q) e
    · have : kvF (kvs.take (i + 1)) = stored (kvF (kvs.take i)) k wv := by
        unfold kvF
        rw [List.take_add_one, hkv, List.foldl_append]
        rfl
      rw [this]
      exact hD3
end
end Mine

end
/- part F5 -/
section
set_option maxHeartbeats 2000000
set_option maxRecDepth 100000
namespace Mine
section
variable {prog : Program} {w : World} {A : Around} {E : Value → Shared → Prop} {s : Shared}
theorem dict_pairs (hh : A.handled = none) {l : Addr} {items : Array Value} {k0 : Nat} {kvs : List (Int × Value)} {Q : Value → Shared → Prop} (hl : s.heap.get? l = some (listOf items k0)) (hks : kvs.length = items.size) (hb : items.size ≤ 1000)
    (hp : ∀ (i : Nat) v, items[i]? = some v → ∃ T k t wv, kvs[i]? = some (k, wv) ∧ v = .ref T ∧ s.heap.get? T = some { cls := .type "tuple", data := .seq #[.int k t, wv] })
    (h : ∀ h' tk', h'.DictOf (intKind prog w) s.heap.objs.size (kvF kvs) → (∀ b o, s.heap.get? b = some o → h'.get? b = some o) → Q (.ref s.heap.objs.size) { s with heap := h', toks := tk' }) :
    wpAny (model prog w) A (call (.type "dict") [.ref l]) Q E s := by
  refine callType_codes (Q₁ := fun obj s₁ => obj = .ref s.heap.objs.size ∧ s₁ = { s with heap := s.heap.push { cls := .type "dict", data := .dict #[] } }) F.kt_called_dict (F.kt_typeCall_dict_1 _) F.entry_dict_init (kt_code_dict_new _ ⟨rfl, rfl⟩) ?_
  rintro obj s₁ ⟨rfl, rfl⟩
  have hnew : (s.heap.push { cls := .type "dict", data := .dict #[] }).DictOf (intKind prog w) s.heap.objs.size [] := Heap.DictOf.new s.heap
  refine ⟨hnew.typeIs, F.args_dict_init_2 _ _, ?_⟩
  have hl1 : (s.heap.push { cls := .type "dict", data := .dict #[] }).get? l = some (listOf items k0) := Heap.get?_push_of_some _ hl
  have hlT : Shared.TypeIs { s with heap := s.heap.push { cls := .type "dict", data := .dict #[] } } (.ref l) "list" := ⟨_, hl1, rfl⟩
  have hlD : l < s.heap.objs.size := Heap.lt_size hl
  unfold Builtin.«dict.__init__»
  refine wpAny_bind ?_
  unfold Builtin.Dict.selfAndRest
  refine wpAny_bind (wpAny_notOrdered_dict hnew.typeIs ?_)
  show wpAny _ _ (pure (s.heap.objs.size, [Value.ref l])) _ _ _
  refine wpAny_pure ?_
  show wpAny _ _ (Builtin.Dict.updateFrom "dict.__init__" s.heap.objs.size (.ref l) [] .none) _ _ _
  unfold Builtin.Dict.updateFrom
  refine wpAny_bind (wpAny_typeOf hlT ?_)
  rw [if_pos (by decide)]
  refine wpAny_bind (keys_none hl1 hh fun h2 tk2 e hx => ?_)
  rw [if_pos (show (none : Option Value).isNone = true from rfl)]
  refine wpAny_bind (wpAny_rule ?_)
  have hl2 : h2.IsList l items := ⟨_, hx.keeps _ _ hl1, rfl, k0, rfl⟩
  have hsz : s.heap.objs.size < h2.objs.size := by
    obtain ⟨o, es, ep, ho, -⟩ := hnew
    exact Heap.lt_size (hx.keeps _ _ ho)
  refine wpAny_bind (wpAny_pyIter_list hl2 ?_)
  have up : ∀ b o, s.heap.get? b = some o → (h2.push { cls := .type "list_iterator", data := .fields #[.ref l, .int 0 0] }).get? b = some o := fun b o e => Heap.get?_push_of_some _ (hx.keeps _ _ (Heap.get?_push_of_some _ e))
  refine wpAny_pure ⟨plainId_quiet plain_upd_loop _, ?_⟩
  refine upd_loop (A := A.in1) (kvs := kvs) (g := s.heap) hh (Nat.ne_of_lt (Nat.lt_trans hlD hsz)) (Nat.ne_of_lt hsz) (Nat.ne_of_gt hlD) hks hb (fun i v hv => ?_) (items.size - 0) 0 _ rfl (Nat.zero_le _) ⟨⟨_, Heap.get?_push_size _ rfl, rfl, rfl⟩, hl2.push _⟩ ?_ (fun b o _ _ e => up b o e) (fun h' tk' d k' => ?_)
  · obtain ⟨T, k, t, wv, e1, e2, e3⟩ := hp i v hv
    have hT := Heap.lt_size e3
    exact ⟨T, k, t, wv, e1, e2, Nat.ne_of_lt (Nat.lt_trans hT hsz), Nat.ne_of_lt hT, e3⟩
  · obtain ⟨o, es, ep, ho, r⟩ := hnew
    exact ⟨o, es, ep, Heap.get?_push_of_some _ (hx.keeps _ _ ho), r⟩
  · refine ⟨rfl, h h' tk' d fun b o e => ?_⟩
    have hb' := Heap.lt_size e
    exact k' b o (Nat.ne_of_lt (Nat.lt_trans hb' hsz)) (Nat.ne_of_lt hb') e
end
end Mine

end
/- part G1 -/
section
set_option maxRecDepth 100000
set_option maxHeartbeats 4000000
namespace Mine
abbrev lawB : List Stmt := sBody (sAt pTop 11)
abbrev lawE (L fa : Addr) (cd : Value) : Env := envOfC (Str.ofString "law") (sScope (sAt pTop 11)) L fa cd
def sFor : Stmt → List Stmt
  | .For _ _ b _ _ => b
  | _ => []
/-- plain facts -/
theorem held_facts : ∀ n : Fin 64, lotF (heldL (n.val : Int)) = (n.val : Int) ∧ (∀ k ∈ heldL (n.val : Int), 0 ≤ k ∧ k ≤ 5) ∧ (heldL (n.val : Int)).filter (fun k => decide (k ≥ (n.val : Int))) = [] ∧
    (n.val ≠ 0 → (heldL (n.val : Int)).filter (fun k => decide ((heldL k).filter (fun d => (heldL (n.val : Int)).any fun x => x == d) = [])) ≠ []) := by decide +kernel
theorem held_fact {v : Int} (h0 : 0 ≤ v) (h1 : v < 64) : lotF (heldL v) = v ∧ (∀ k ∈ heldL v, 0 ≤ k ∧ k ≤ 5) ∧ (heldL v).filter (fun k => decide (k ≥ v)) = [] ∧
    (v > 0 → (heldL v).filter (fun k => decide ((heldL k).filter (fun d => (heldL v).any fun x => x == d) = [])) ≠ []) := by
  obtain ⟨n, rfl⟩ := Int.eq_ofNat_of_zero_le h0
  have := held_facts ⟨n, by omega⟩
  exact ⟨this.1, this.2.1, this.2.2.1, fun h => this.2.2.2 (by show n ≠ 0; omega)⟩
theorem held_len6 {v : Int} (h0 : 0 ≤ v) (h1 : v < 64) : (heldL v).length ≤ 6 := by
  have := (bits_of h0 h1).1
  have := onesAt_len (digs v) 0
  rw [digs, bitsN_length] at this
  unfold heldL
  unfold digs
  omega
theorem news_last {h₀ h : Heap} {L : Addr} {l : List (Addr × Obj)} {a : Addr × Obj} (N : News h₀ L h l) (e : l.getLast? = some a) : News h₀ L h (a :: l.dropLast) := by
  intro q hq
  rcases List.mem_cons.mp hq with rfl | hq
  · exact N _ (List.mem_of_getLast? e)
  · exact N _ (List.dropLast_subset _ hq)
local macro_rules | `(tactic| walk_at "eval Name") => `(tactic| (k_here; k_dflt (refine' nameX_L ?F ?v ?_ ?a ?b; (case F => k_asm); (case a => rfl); (case b => rfl); (case v => first | rfl | assumption); k_whole)))
local macro_rules | `(tactic| walk_at "exec For Name List cons nil") => `(tactic| (k_here; (rename Fr _ _ _ _ => lF'); (with_unfolding_all refine' For_turns lF' ?_); k_whole))
local macro_rules | `(tactic| walk_at "eval ListComp") => `(tactic| (k_here; k_dflt (refine' comp_keep ?g0 ?g1 ?g2 ?g3 ?g4 ?g5 ?g6 ?_ ?g7; (case g0 => k_asm); (case g1 => exact rfl); (case g2 => decide); (case g3 => exact rfl); (case g4 => decide); (case g5 => exact rfl); (case g6 => decide); (case g7 => (intro _; rfl)))))
section
variable {prog : Program} {w : World} {p : Program} {loose : List Str} {mean : ExcName → Option Value} {mg mb : Str → Option Value}
  {A : Around} {h₀ : Heap} {L : Nat} {fa : Addr} {cd : Value} {m : Str → Option Value} {s : Shared} {h₁ : Heap} {tk₁ : Nat} {Q : Flow → Shared → Prop} {E : Value → Shared → Prop} {o1 o2 ocA ocB : Obj} {cA cB : Nat} {rest : List (Addr × Obj)} {v : Int} {t : Tok}
local macro_rules | `(tactic| walk_at "call ref") => `(tactic| (k_here; k_dflt (refine' held_warm ?c ?F ?N ?W ?d ?u ?v0 ?v1 ?_; (case c => assumption); (case F => k_asm); (case N => k_asm); (case W => exact Warm.of (by k_asm) (by k_mem) (by k_mem) (by assumption)); (case d => assumption); (case u => assumption); (case v0 => assumption); (case v1 => assumption)); (intro D' vs' ep' h' tk' F' N' i1 l1 lD'); (try k_lt l1); (try dsimp only); (try k_fold)))
theorem turn_warm (c2 : Cx (hd.heap_39 w.params) p loose mean mg mb (A.deeper (lawE L fa cd)) h₀ L) (hdp : A.depth + 100 < recursionLimit) (hun : A.units + 1000 < cLine) (l0 : 23 < L ∧ 16 < L)
    (F : Fr h₀ L h₁ m) (N : News h₀ L h₁ ((L + 2, o2) :: (L + 1, o1) :: (cB, ocB) :: (23, tabFor inB cB) :: (cA, ocA) :: (16, tabFor inA cA) :: rest)) (lA : L < cA) (lB : L < cB)
    (kA : CodeOk ocA qualA) (kB : CodeOk ocB qualB) (d1 : o1.data = .cell (some (.int v t))) {ov : Option Value} (d2 : o2.data = .cell ov)
    (nA : (cA ≠ L + 1 ∧ cA ≠ L + 2) ∧ (cB ≠ L + 1 ∧ cB ≠ L + 2)) (nR : OwnOff rest [L + 1, L + 2])
    (hv0 : 0 ≤ v) (hv1 : v < 64) (hE : PassesOwn (model prog w) (A.deeper (lawE L fa cd)) (lawE L fa cd) E)
    (hret : ∀ h' tk' o', Fr h₀ L h' m → News h₀ L h' ((L + 2, o') :: (L + 1, o1) :: (cB, ocB) :: (23, tabFor inB cB) :: (cA, ocA) :: (16, tabFor inA cA) :: rest) → (∃ ov, o'.data = .cell ov) → Q .next { s with heap := h', toks := tk' }) :
    wpAny (model prog w) (A.deeper (lawE L fa cd)) (execs (sFor (sAt lawB 1)) (lawE L fa cd)) Q E { s with heap := h₁, toks := tk₁ } := by
  have hh := c2.hh
  obtain ⟨hnd, dp, frs, gd, un⟩ := A
  simp only at hdp hun
  have hh : hnd = none := hh
  subst hh
  have eB : sFor (sAt lawB 1) = sFor (sAt lawB 1) := rfl
  conv at eB => rhs; whnf
  have eS : sScope (sAt pTop 11) = sScope (sAt pTop 11) := rfl
  conv at eS => rhs; whnf
  rw [lawE, eS] at c2 hE ⊢
  rw [eB]
  clear eB eS
  have X' := c2.X
  have T' := c2.T
  obtain ⟨env', outer, A₀, base, hfr, -, -, B'⟩ := id c2.fr
  have hdp2 : dp + 1 + 30 < recursionLimit := by omega
  have hun2 : un + 3 + 200 < cLine := by omega
  obtain ⟨f1, f2, f3, f4⟩ := held_fact hv0 hv1
  k_unmd; (try dsimp only); (try k_fold)
  k_steps
  refine lot_warm (ns := heldL v) c2 (by k_asm) (by k_asm) (Warm.of (by k_asm) (by k_mem) (by k_mem) (by assumption)) (by show dp + 1 + 40 < _; omega) (by show un + 3 + 300 < _; omega) (by is_list) (by assumption) (fun n hn => by have := f2 n hn; omega) (Nat.le_trans (held_len6 hv0 hv1) (by decide)) ?_
  intro t5 h5 tk5 F5 N5
  rw [f1]
  (try dsimp only); (try k_fold)
  k_steps
  · exact absurd rfl (by assumption)
  refine ⟨_, _, heldL v, _, (fun k => decide (k ≥ v)), rfl, rfl, by k_asm, by k_asm, .inr ⟨_, by k_mem⟩, by assumption, held_len hv0 hv1, ?turn, ?fin⟩
  case turn =>
    intro k2 t2 I oI C oC D2 m2 ys2 h8 tk8 E8 hk2 hC2 hx2 F8 N8 off8 ne8
    (try k_fold)
    k_steps
    · k_asm
    · k_asm
  case fin =>
    intro D3 h9 tk9 ys3 F9 N9 ne9 i9
    rw [f3] at i9
    cases i9
    (try dsimp only); (try k_fold)
    k_steps
    · refine ⟨_, _, heldL v, _, (fun k => decide ((heldL k).filter (fun d => (heldL v).any fun x => x == d) = [])), rfl, rfl, by k_asm, by k_asm, .inr ⟨_, by k_mem⟩, by assumption, held_len hv0 hv1, ?turn2, ?fin2⟩
      case turn2 =>
        intro k2 t2 I oI C oC D2 m2 ys2 h8 tk8 E8 hk2 hC2 hx2 F8 N8 off8 ne8
        have e0 : 0 ≤ k2 := (f2 k2 hk2).1
        have e1 : k2 < 64 := Int.lt_of_le_of_lt (f2 k2 hk2).2 (by decide)
        (try k_fold)
        k_steps
        refine ⟨_, _, heldL k2, _, (fun d => (heldL v).any fun x => x == d), rfl, rfl, by k_asm, by k_asm, .inr ⟨_, by k_mem⟩, by assumption, held_len e0 e1, ?turn3, ?fin3⟩
        case turn3 =>
          intro k3 t3 I3 oI3 C3 oC3 D5 m3 ys3 h3 tk3 E3 hk3 hC3 hx3 F3 N3 off3 ne3
          (try k_fold)
          k_steps
          · k_asm
          · k_asm
        case fin3 =>
          intro D6 h9 tk9 ys3 F9 N9 ne9 i9
          (try dsimp only); (try k_fold)
          k_steps
          · k_asm
          · exact news_tail (news_tail (news_tail (by k_asm)))
      case fin2 =>
        intro D4 h9 tk9 ys3 F9 N9 ne9 i9
        (try dsimp only); (try k_fold)
        k_steps
        · exact (f4 (by assumption) (of_decide_eq_true (by assumption))).elim
        · exact hret _ _ _ (by k_asm) (news_tail (news_tail (news_tail (news_tail (news_tail (by k_asm)))))) ⟨_, by k_asm⟩
    · exact hret _ _ _ (by k_asm) (news_tail (news_tail (news_tail (by k_asm)))) ⟨_, by k_asm⟩
end
end Mine

end
/- part G2 -/
section
set_option maxRecDepth 100000
set_option maxHeartbeats 4000000
namespace Mine
local macro_rules | `(tactic| walk_at "idle 0") => `(tactic| skip)
local macro_rules | `(tactic| walk_at "idle 1") => `(tactic| skip)
local macro_rules | `(tactic| walk_at "idle 2") => `(tactic| skip)
local macro_rules | `(tactic| walk_at "idle 3") => `(tactic| skip)
local macro_rules | `(tactic| walk_at "idle 4") => `(tactic| skip)
local macro_rules | `(tactic| walk_at "eval Name") => `(tactic| (k_here; k_dflt (refine' nameX_L ?F ?v ?_ ?a ?b; (case F => k_asm); (case a => rfl); (case b => rfl); (case v => first | rfl | assumption); k_whole)))
local macro_rules | `(tactic| walk_at "exec For Name List cons nil") => `(tactic| (k_here; (rename Fr _ _ _ _ => lF'); (with_unfolding_all refine' For_turns lF' ?_); k_whole))
local macro_rules | `(tactic| walk_at "eval ListComp") => `(tactic| (k_here; k_dflt (refine' comp_keep ?g0 ?g1 ?g2 ?g3 ?g4 ?g5 ?g6 ?_ ?g7; (case g0 => k_asm); (case g1 => exact rfl); (case g2 => decide); (case g3 => exact rfl); (case g4 => decide); (case g5 => exact rfl); (case g6 => decide); (case g7 => (intro _; rfl)))))
section
variable {h₀ h : Heap} {L : Addr} {a b c d e f g : Addr × Obj} {r : List (Addr × Obj)}
theorem perm4 (N : News h₀ L h (a :: b :: c :: d :: r)) : News h₀ L h (d :: a :: b :: c :: r) := fun q hq => N q (by simp only [List.mem_cons] at hq ⊢; rcases hq with h | h | h | h | h <;> simp [h])
theorem perm6 (N : News h₀ L h (a :: b :: c :: d :: e :: f :: r)) : News h₀ L h (f :: a :: b :: c :: d :: e :: r) := fun q hq => N q (by simp only [List.mem_cons] at hq ⊢; rcases hq with h | h | h | h | h | h | h <;> simp [h])
theorem perm7 (N : News h₀ L h (a :: b :: c :: d :: e :: f :: g :: r)) : News h₀ L h (f :: g :: a :: b :: d :: e :: r) := fun q hq => N q (by simp only [List.mem_cons] at hq ⊢; rcases hq with h | h | h | h | h | h | h <;> simp [h])
end
section
variable {prog : Program} {w : World} {p : Program} {loose : List Str} {mean : ExcName → Option Value} {mg mb : Str → Option Value}
  {A : Around} {h₀ : Heap} {L : Nat} {fa : Addr} {cd : Value} {m : Str → Option Value} {s : Shared} {h₁ : Heap} {tk₁ : Nat} {Q : Flow → Shared → Prop} {E : Value → Shared → Prop} {o1 o2 ocA ocB : Obj} {cA cB : Nat} {rest : List (Addr × Obj)} {v : Int} {t : Tok}
local macro_rules | `(tactic| walk_at "call ref") => `(tactic| (k_here; k_dflt (refine' held_warm ?c ?F ?N ?W ?d ?u ?v0 ?v1 ?_; (case c => assumption); (case F => k_asm); (case N => k_asm); (case W => exact Warm.of (by k_asm) (by k_mem) (by k_mem) (by assumption)); (case d => assumption); (case u => assumption); (case v0 => assumption); (case v1 => assumption)); (intro D' vs' ep' h' tk' F' N' i1 l1 lD'); (try k_lt l1); (try dsimp only); (try k_fold)))
theorem turn_cold (c2 : Cx (hd.heap_39 w.params) p loose mean mg mb (A.deeper (lawE L fa cd)) h₀ L) (hdp : A.depth + 100 < recursionLimit) (hun : A.units + 1000 < cLine) (l0 : 23 < L ∧ 16 < L)
    (F : Fr h₀ L h₁ m) (N : News h₀ L h₁ ((L + 2, o2) :: (L + 1, o1) :: (23, tabObj #[]) :: (16, tabObj #[]) :: rest))
    (d1 : o1.data = .cell (some (.int v t))) {ov : Option Value} (d2 : o2.data = .cell ov) (nR : OwnOff rest [L + 1, L + 2, 16, 23])
    (hv0 : 0 ≤ v) (hv1 : v < 64) (hE : PassesOwn (model prog w) (A.deeper (lawE L fa cd)) (lawE L fa cd) E)
    (hret : ∀ h' tk' o' cA ocA cB ocB, Fr h₀ L h' m → News h₀ L h' ((L + 2, o') :: (L + 1, o1) :: (cB, ocB) :: (23, tabFor inB cB) :: (cA, ocA) :: (16, tabFor inA cA) :: rest) → CodeOk ocA qualA → CodeOk ocB qualB → @LT.lt Nat _ (L + 2) cA → @LT.lt Nat _ (L + 2) cB → (∀ q ∈ rest, q.1 < cA) → (∀ q ∈ rest, q.1 < cB) → (∃ ov, o'.data = .cell ov) → Q .next { s with heap := h', toks := tk' }) :
    wpAny (model prog w) (A.deeper (lawE L fa cd)) (execs (sFor (sAt lawB 1)) (lawE L fa cd)) Q E { s with heap := h₁, toks := tk₁ } := by
  have hh := c2.hh
  obtain ⟨hnd, dp, frs, gd, un⟩ := A
  simp only at hdp hun
  have hh : hnd = none := hh
  subst hh
  have eB : sFor (sAt lawB 1) = sFor (sAt lawB 1) := rfl
  conv at eB => rhs; whnf
  have eS : sScope (sAt pTop 11) = sScope (sAt pTop 11) := rfl
  conv at eS => rhs; whnf
  rw [lawE, eS] at c2 hE ⊢
  rw [eB]
  clear eB eS
  have X' := c2.X
  have T' := c2.T
  obtain ⟨env', outer, A₀, base, hfr, -, -, B'⟩ := id c2.fr
  have hdp2 : dp + 1 + 30 < recursionLimit := by omega
  have hun2 : un + 3 + 200 < cLine := by omega
  obtain ⟨f1, f2, f3, f4⟩ := held_fact hv0 hv1
  k_unmd; (try dsimp only); (try k_fold)
  k_steps
  refine held_cold c2 (by k_asm) (perm4 (by k_asm)) (by k_all) (by show dp + 1 + 30 < _; omega) (by show un + 3 + 200 < _; omega) hv0 hv1 ?_
  intro D1 cA ocA vs1 ep1 h2 tk2 F2 N2 i1 kA lt1 lt2 ltD ltA
  have hAr : ∀ q ∈ rest, q.1 < cA := fun q hq => lt1 q (by simp [hq])
  have hA2 : @LT.lt Nat _ (L + 2) cA := lt1 (L + 2, o2) (by simp)
  (try k_lt lt1); (try k_lt lt2); (try k_lt2 ltD)
  (try dsimp only); (try k_fold)
  k_steps
  refine lot_cold (ns := heldL v) c2 (by k_asm) (perm6 (by k_asm)) (by k_all) (by show dp + 1 + 40 < _; omega) (by show un + 3 + 300 < _; omega) (by is_list) (by assumption) (fun n hn => by have := f2 n hn; omega) (Nat.le_trans (held_len6 hv0 hv1) (by decide)) ?_
  intro cB ocB t5 h5 tk5 F5 N5 kB lt3 ltB
  have hBr : ∀ q ∈ rest, q.1 < cB := fun q hq => lt3 q (by simp [hq])
  have hB2 : @LT.lt Nat _ (L + 2) cB := lt3 (L + 1 + 1, _) (List.mem_cons_of_mem _ (by k_mem))
  (try k_lt lt3)
  rw [f1]
  (try dsimp only); (try k_fold)
  k_steps
  · exact absurd rfl (by assumption)
  refine ⟨_, _, heldL v, _, (fun k => decide (k ≥ v)), rfl, rfl, by k_asm, by k_asm, .inr ⟨_, by k_mem⟩, by assumption, held_len hv0 hv1, ?turn, ?fin⟩
  case turn =>
    intro k2 t2 I oI C oC D2 m2 ys2 h8 tk8 E8 hk2 hC2 hx2 F8 N8 off8 ne8
    (try k_fold)
    k_steps
    · k_asm
    · k_asm
  case fin =>
    intro D3 h9 tk9 ys3 F9 N9 ne9 i9
    rw [f3] at i9
    cases i9
    (try dsimp only); (try k_fold)
    k_steps
    · refine ⟨_, _, heldL v, _, (fun k => decide ((heldL k).filter (fun d => (heldL v).any fun x => x == d) = [])), rfl, rfl, by k_asm, by k_asm, .inr ⟨_, by k_mem⟩, by assumption, held_len hv0 hv1, ?turn2, ?fin2⟩
      case turn2 =>
        intro k2 t2 I oI C oC D2 m2 ys2 h8 tk8 E8 hk2 hC2 hx2 F8 N8 off8 ne8
        have e0 : 0 ≤ k2 := (f2 k2 hk2).1
        have e1 : k2 < 64 := Int.lt_of_le_of_lt (f2 k2 hk2).2 (by decide)
        (try k_fold)
        k_steps
        refine ⟨_, _, heldL k2, _, (fun d => (heldL v).any fun x => x == d), rfl, rfl, by k_asm, by k_asm, .inr ⟨_, by k_mem⟩, by assumption, held_len e0 e1, ?turn3, ?fin3⟩
        case turn3 =>
          intro k3 t3 I3 oI3 C3 oC3 D5 m3 ys3 h3 tk3 E3 hk3 hC3 hx3 F3 N3 off3 ne3
          (try k_fold)
          k_steps
          · k_asm
          · k_asm
        case fin3 =>
          intro D6 h9 tk9 ys3 F9 N9 ne9 i9
          (try dsimp only); (try k_fold)
          k_steps
          · k_asm
          · exact news_tail (news_tail (news_tail (by k_asm)))
      case fin2 =>
        intro D4 h9 tk9 ys3 F9 N9 ne9 i9
        (try dsimp only); (try k_fold)
        k_steps
        · exact (f4 (by assumption) (of_decide_eq_true (by assumption))).elim
        · exact hret _ _ _ _ _ _ _ (by k_asm) (perm7 (news_tail (news_tail (news_tail (news_tail (by k_asm)))))) kA kB (ltN hA2) (ltN hB2) hAr hBr ⟨_, by k_asm⟩
    · exact hret _ _ _ _ _ _ _ (by k_asm) (perm7 (news_tail (news_tail (by k_asm)))) kA kB (ltN hA2) (ltN hB2) hAr hBr ⟨_, by k_asm⟩
end
end Mine

end
/- part G3 -/
section
set_option maxRecDepth 100000
set_option maxHeartbeats 4000000
namespace Mine
local macro_rules | `(tactic| walk_at "eval Name") => `(tactic| (k_here; k_dflt (refine' nameX_L ?F ?v ?_ ?a ?b; (case F => k_asm); (case a => rfl); (case b => rfl); (case v => first | rfl | assumption); k_whole)))
local macro_rules | `(tactic| walk_at "exec For Name List cons nil") => `(tactic| (k_here; (rename Fr _ _ _ _ => lF'); (with_unfolding_all refine' For_turns lF' ?_); k_whole))
local macro_rules | `(tactic| walk_at "eval ListComp") => `(tactic| (k_here; k_dflt (refine' comp_keep ?g0 ?g1 ?g2 ?g3 ?g4 ?g5 ?g6 ?_ ?g7; (case g0 => k_asm); (case g1 => exact rfl); (case g2 => decide); (case g3 => exact rfl); (case g4 => decide); (case g5 => exact rfl); (case g6 => decide); (case g7 => (intro _; rfl)))))
section
variable {h₀ h : Heap} {L : Addr} {a b c d e f g x y t u : Addr × Obj} {r : List (Addr × Obj)}
theorem perm9 (N : News h₀ L h [a, b, c, d, e, f, g, x, y]) : News h₀ L h (f :: g :: x :: y :: [a, b, c, d, e]) := fun q hq => N q (by simp only [List.mem_cons, List.not_mem_nil, or_false] at hq ⊢; rcases hq with h | h | h | h | h | h | h | h | h <;> simp [h])
theorem perm11 (N : News h₀ L h [a, b, c, d, e, f, g, x, y, t, u]) : News h₀ L h (f :: g :: x :: y :: t :: u :: [a, b, c, d, e]) := fun q hq => N q (by simp only [List.mem_cons, List.not_mem_nil, or_false] at hq ⊢; rcases hq with h | h | h | h | h | h | h | h | h | h | h <;> simp [h])
end
theorem body_stop {M : Model} {A : Around} {env : Env} {Q : Flow → Shared → Prop} {E : Value → Shared → Prop} {s : Shared} (h : Stop (wpAny M A (execs (sFor (sAt lawB 1)) env) Q E s)) : wpAny M A (execs (sFor (sAt lawB 1)) env) Q E s := h
local macro_rules | `(tactic| walk_at "execs cons") => `(tactic| (k_here; k_dflt (refine' body_stop ?_)))
section
variable {prog : Program} {w : World} {p : Program} {loose : List Str} {mean : ExcName → Option Value} {mg mb : Str → Option Value}
  {A : Around} {h₀ : Heap} {L : Nat} {fa : Addr} {cd : Value} {m : Str → Option Value} {s : Shared} {h₁ : Heap} {tk₁ : Nat} {Q : Flow → Shared → Prop} {E : Value → Shared → Prop} {o1 o2 ocA ocB : Obj} {cA cB : Nat} {rest : List (Addr × Obj)} {v : Int} {t : Tok}
theorem seg1 {a b c : Int} {ta tb tc : Tok} {o3 o4 o5 : Obj} (c2 : Cx (hd.heap_39 w.params) p loose mean mg mb (A.deeper (lawE L fa cd)) h₀ L) (hdp : A.depth + 100 < recursionLimit) (hun : A.units + 1000 < cLine) (l0 : 23 < L ∧ 16 < L)
    (F : Fr h₀ L h₁ m) (N : News h₀ L h₁ [(L + 5, o5), (L + 4, o4), (L + 3, o3), (L + 2, o2), (L + 1, o1), (23, tabObj #[]), (16, tabObj #[])])
    (d1 : o1.data = .cell none) (d2 : o2.data = .cell none) (ma : m (Str.ofString "one") = some (.int a ta)) (mb : m (Str.ofString "other") = some (.int b tb)) (mc : m (Str.ofString "third") = some (.int c tc))
    (ha0 : 0 ≤ a) (ha1 : a < 64) (hb0 : 0 ≤ b) (hb1 : b < 64) (hc0 : 0 ≤ c) (hc1 : c < 64) (hE : PassesOwn (model prog w) (A.deeper (lawE L fa cd)) (lawE L fa cd) E)
    (hret : ∀ h' tk' o1' o2' cA ocA cB ocB v1 v2, Fr h₀ L h' m → News h₀ L h' [(L + 5, o5), (L + 4, o4), (L + 3, o3), (L + 2, o2'), (L + 1, o1'), (cB, ocB), (23, tabFor inB cB), (cA, ocA), (16, tabFor inA cA)] → CodeOk ocA qualA → CodeOk ocB qualB → @LT.lt Nat _ (L + 5) cA → @LT.lt Nat _ (L + 5) cB → o1'.data = .cell v1 → o2'.data = .cell v2 → Q .next { s with heap := h', toks := tk' }) :
    wpAny (model prog w) (A.deeper (lawE L fa cd)) (exec (sAt lawB 1) (lawE L fa cd)) Q E { s with heap := h₁, toks := tk₁ } := by
  have hh := c2.hh
  obtain ⟨hnd, dp, frs, gd, un⟩ := A
  simp only at hdp hun
  have hh : hnd = none := hh
  subst hh
  have eB : sAt lawB 1 = sAt lawB 1 := rfl
  conv at eB => rhs; whnf
  have eS : sScope (sAt pTop 11) = sScope (sAt pTop 11) := rfl
  conv at eS => rhs; whnf
  rw [lawE, eS] at c2 hE ⊢
  rw [eB]
  clear eB eS
  have X' := c2.X
  have T' := c2.T
  obtain ⟨env', outer, A₀, base, hfr, -, -, B'⟩ := id c2.fr
  have hdp2 : dp + 1 + 30 < recursionLimit := by omega
  have hun2 : un + 3 + 200 < cLine := by omega
  k_unmd; (try dsimp only); (try k_fold)
  k_steps
  refine turn_cold (rest := [_, _, _, _, _]) c2 hdp hun l0 (by k_asm) (perm9 (by k_asm)) (by k_asm) d2 ?nR ha0 ha1 hE ?_
  case nR =>
    intro p hp b hb
    simp only [List.mem_cons, List.not_mem_nil, or_false] at hp hb
    rcases hp with rfl | rfl | rfl | rfl | rfl <;> rcases hb with rfl | rfl | rfl | rfl <;> k_ne
  intro h2 tk2 o2' cA ocA cB ocB F2 N2 kA kB hA2 hB2 hAr hBr ⟨ov2, e2⟩
  (try k_lt hAr); (try k_lt hBr)
  (try dsimp only); (try k_fold)
  k_steps
  refine UnrEndW.intro (by assumption) N2 [(_, listOf #[.int a ta, .int b tb, .int c tc] 0), (L + 5, o5), (L + 4, o4), (L + 3, o3), (L + 2, o2'), (L + 1, _), (cB, ocB), (23, tabFor inB cB), (cA, ocA), (16, tabFor inA cA)] (by k_subL) (by k_subL) (by ktu_offL) ⟨by k_subL, ?_⟩
  (try dsimp only); (try k_fold)
  k_steps
  refine turn_warm (rest := [_, _, _, _, _]) c2 hdp hun l0 (by k_asm) (perm11 (by k_asm)) (Nat.lt_trans (by omega) hA2) (Nat.lt_trans (by omega) hB2) kA kB (by k_asm) e2 ?nA ?nR2 hb0 hb1 hE ?_
  case nA => refine ⟨⟨?_, ?_⟩, ?_, ?_⟩ <;> k_ne
  case nR2 =>
    intro p hp b hb
    simp only [List.mem_cons, List.not_mem_nil, or_false] at hp hb
    rcases hp with rfl | rfl | rfl | rfl | rfl <;> rcases hb with rfl | rfl <;> k_ne
  intro h3 tk3 o3' F3 N3 ⟨ov3, e3⟩
  (try dsimp only); (try k_fold)
  k_steps
  refine UnrEndW.intro (by assumption) N3 [(_, listOf #[.int a ta, .int b tb, .int c tc] 0), (L + 5, o5), (L + 4, o4), (L + 3, o3), (L + 2, o3'), (L + 1, _), (cB, ocB), (23, tabFor inB cB), (cA, ocA), (16, tabFor inA cA)] (by k_subL) (by k_subL) (by ktu_offL) ⟨by k_subL, ?_⟩
  (try dsimp only); (try k_fold)
  k_steps
  refine turn_warm (rest := [_, _, _, _, _]) c2 hdp hun l0 (by k_asm) (perm11 (by k_asm)) (Nat.lt_trans (by omega) hA2) (Nat.lt_trans (by omega) hB2) kA kB (by k_asm) e3 ?nA3 ?nR3 hc0 hc1 hE ?_
  case nA3 => refine ⟨⟨?_, ?_⟩, ?_, ?_⟩ <;> k_ne
  case nR3 =>
    intro p hp b hb
    simp only [List.mem_cons, List.not_mem_nil, or_false] at hp hb
    rcases hp with rfl | rfl | rfl | rfl | rfl <;> rcases hb with rfl | rfl <;> k_ne
  intro h4 tk4 o4' F4 N4 ⟨ov4, e4⟩
  (try dsimp only); (try k_fold)
  k_steps
  refine UnrEndW.intro (by assumption) N4 [(_, listOf #[.int a ta, .int b tb, .int c tc] 0), (L + 5, o5), (L + 4, o4), (L + 3, o3), (L + 2, o4'), (L + 1, _), (cB, ocB), (23, tabFor inB cB), (cA, ocA), (16, tabFor inA cA)] (by k_subL) (by k_subL) (by ktu_offL) ⟨by k_subL, ?_⟩
  (try dsimp only); (try k_fold)
  k_steps
  exact hret _ _ _ _ _ _ _ _ _ _ (by k_asm) (news_tail (by k_asm)) kA kB (ltN hAr.2.2.1) (ltN hBr.2.2.1) (by k_asm) e4
end
end Mine

end
/- part S2 -/
section
set_option maxRecDepth 100000
set_option maxHeartbeats 4000000
namespace Mine
local macro_rules | `(tactic| walk_at "idle 0") => `(tactic| skip)
local macro_rules | `(tactic| walk_at "idle 1") => `(tactic| skip)
local macro_rules | `(tactic| walk_at "idle 2") => `(tactic| skip)
local macro_rules | `(tactic| walk_at "idle 3") => `(tactic| skip)
local macro_rules | `(tactic| walk_at "idle 4") => `(tactic| skip)
local macro_rules | `(tactic| walk_at "eval Name") => `(tactic| (k_here; k_dflt (refine' nameX_L ?F ?v ?_ ?a ?b; (case F => k_asm); (case a => rfl); (case b => rfl); (case v => first | rfl | assumption); k_whole)))
local macro_rules | `(tactic| walk_at "exec For Name List cons nil") => `(tactic| (k_here; (rename Fr _ _ _ _ => lF'); (with_unfolding_all refine' For_turns lF' ?_); k_whole))
local macro_rules | `(tactic| walk_at "eval ListComp") => `(tactic| (k_here; k_dflt (refine' comp_keep ?g0 ?g1 ?g2 ?g3 ?g4 ?g5 ?g6 ?_ ?g7; (case g0 => k_asm); (case g1 => exact rfl); (case g2 => decide); (case g3 => exact rfl); (case g4 => decide); (case g5 => exact rfl); (case g6 => decide); (case g7 => (intro _; rfl)))))
theorem held_sub {v : Int} (h0 : 0 ≤ v) (h1 : v < 64) (P : Int → Bool) : ∀ n ∈ (heldL v).filter P, 0 ≤ n ∧ n ≤ 15 := fun n hn => by
  have := (held_fact h0 h1).2.1 n (List.mem_filter.mp hn).1
  omega
theorem held_sublen {v : Int} (h0 : 0 ≤ v) (h1 : v < 64) (P : Int → Bool) : ((heldL v).filter P).length ≤ 100 := by
  have := held_len6 h0 h1
  have := List.length_filter_le P (heldL v)
  omega
theorem news_sub {h₀ h : Heap} {L : Addr} {l all : List (Addr × Obj)} (N : News h₀ L h all) (x : SubL l all) : News h₀ L h l := fun q hq => N q (x.mem q hq)

theorem stop_seg2 {M : Model} {A : Around} {env : Env} {Q : Flow → Shared → Prop} {E : Value → Shared → Prop} {s : Shared} (h : Stop (wpAny M A (execs (lawB.drop 4) env) Q E s)) : wpAny M A (execs (lawB.drop 4) env) Q E s := h
local macro_rules | `(tactic| walk_at "execs cons") => `(tactic| (k_here; k_dflt (refine' stop_seg2 ?_)))
section
variable {prog : Program} {w : World} {p : Program} {loose : List Str} {mean : ExcName → Option Value} {mg mb : Str → Option Value}
  {A : Around} {h₀ : Heap} {L : Nat} {fa : Addr} {cd : Value} {m : Str → Option Value} {s : Shared} {h₁ : Heap} {tk₁ : Nat} {Q : Flow → Shared → Prop} {E : Value → Shared → Prop} {o1 o2 ocA ocB : Obj} {cA cB : Nat} {rest : List (Addr × Obj)} {v : Int} {t : Tok}
theorem seg2 {a b : Int} {ta tb : Tok} {o3 o4 o5 : Obj} (c2 : Cx (hd.heap_39 w.params) p loose mean mg mb (A.deeper (lawE L fa cd)) h₀ L) (hdp : A.depth + 100 < recursionLimit) (hun : A.units + 1000 < cLine) (l0 : 23 < L ∧ 16 < L)
    (F : Fr h₀ L h₁ m) (ma : m (Str.ofString "one") = some (.int a ta)) (mb : m (Str.ofString "other") = some (.int b tb))
    (ha0 : 0 ≤ a) (ha1 : a < 64) (hb0 : 0 ≤ b) (hb1 : b < 64) (hE : PassesOwn (model prog w) (A.deeper (lawE L fa cd)) (lawE L fa cd) E) (kA : CodeOk ocA qualA) (kB : CodeOk ocB qualB) (lA : @LT.lt Nat _ (L + 5) cA) (lB : @LT.lt Nat _ (L + 5) cB)
    (N : News h₀ L h₁ [(L + 5, o5), (L + 4, o4), (L + 3, o3), (L + 2, o2), (L + 1, o1), (cB, ocB), (23, tabFor inB cB), (cA, ocA), (16, tabFor inA cA)])
    (d3 : o3.data = .cell none) (d4 : o4.data = .cell none)
    (hnext : ∀ h' tk' m' o3' o4' (D1 D2 : Nat) vs1 ep1 vs2 ep2 tt, Fr h₀ L h' m' → m' (Str.ofString "one") = some (.int a ta) → m' (Str.ofString "other") = some (.int b tb) → m' (Str.ofString "both") = some (.int (Builtin.bitAnd a b) tt) → News h₀ L h' [(L + 5, o5), (L + 4, o4'), (L + 3, o3'), (L + 2, o2), (L + 1, o1), (cB, ocB), (23, tabFor inB cB), (cA, ocA), (16, tabFor inA cA), (D1, listOf vs1.toArray ep1), (D2, listOf vs2.toArray ep2)] → IntsAre vs1 (heldL a) → IntsAre vs2 (heldL b) → o3'.data = .cell (some (.ref D1)) → o4'.data = .cell (some (.ref D2)) → @LT.lt Nat _ (L + 5) D1 → @LT.lt Nat _ (L + 5) D2 → wpAny (model prog w) (A.deeper (lawE L fa cd)) (execs (lawB.drop 4) (lawE L fa cd)) Q E { s with heap := h', toks := tk' }) :
    wpAny (model prog w) (A.deeper (lawE L fa cd)) (execs (lawB.drop 2) (lawE L fa cd)) Q E { s with heap := h₁, toks := tk₁ } := by
  have hh := c2.hh
  obtain ⟨hnd, dp, frs, gd, un⟩ := A
  simp only at hdp hun
  have hh : hnd = none := hh
  subst hh
  have eB : lawB.drop 2 = lawB.drop 2 := rfl
  conv at eB => rhs; whnf
  have eS : sScope (sAt pTop 11) = sScope (sAt pTop 11) := rfl
  conv at eS => rhs; whnf
  rw [lawE, eS] at c2 hE ⊢
  rw [eB]
  clear eB eS
  have X' := c2.X
  have T' := c2.T
  obtain ⟨env', outer, A₀, base, hfr, -, -, B'⟩ := id c2.fr
  have hdp2 : dp + 1 + 30 < recursionLimit := by omega
  have hun2 : un + 3 + 200 < cLine := by omega
  k_unmd; (try dsimp only); (try k_fold)
  k_steps
  refine held_warm c2 (by k_asm) (by k_asm) (Warm.of (by k_asm) (by k_mem) (by k_mem) (by assumption)) (by show dp + 1 + 30 < _; omega) (by show un + 3 + 200 < _; omega) ha0 ha1 ?_
  intro D1 vs1 ep1 h2 tk2 F2 N2 i1 lt1 ltL1
  have q1 : @LT.lt Nat _ (L + 5) D1 := lt1 (L + 5, _) (by k_mem)
  (try k_lt lt1)
  (try dsimp only); (try k_fold)
  k_steps
  refine held_warm c2 (by k_asm) (by k_asm) (Warm.of (by k_asm) (by k_mem) (by k_mem) (by assumption)) (by show dp + 1 + 30 < _; omega) (by show un + 3 + 200 < _; omega) hb0 hb1 ?_
  intro D2 vs2 ep2 h3 tk3 F3 N3 i2 lt2 ltL2
  have q2 : @LT.lt Nat _ (L + 5) D2 := lt2 (L + 5, _) (by k_mem)
  (try k_lt lt2)
  (try dsimp only); (try k_fold)
  k_steps
  refine ⟨_, _, heldL a, _, (fun k => (heldL b).any fun x => x == k), rfl, rfl, by k_asm, by k_asm, .inr ⟨_, by k_mem⟩, by assumption, held_len ha0 ha1, ?turn, ?fin⟩
  case turn =>
    intro k2 t2 I oI C oC D2 m2 ys2 h8 tk8 E8 hk2 hC2 hx2 F8 N8 off8 ne8
    (try k_fold)
    k_steps
    · k_asm
    · k_asm
  case fin =>
  intro D3 h9 tk9 ys3 F9 N9 ne9 i9
  (try dsimp only); (try k_fold)
  k_steps
  refine lot_warm (ns := (heldL a).filter fun k => (heldL b).any fun x => x == k) c2 (by k_asm) (by k_asm) (Warm.of (by k_asm) (by k_mem) (by k_mem) (by assumption)) (by show dp + 1 + 40 < _; omega) (by show un + 3 + 300 < _; omega) (by is_list) (by assumption) (held_sub ha0 ha1 _) (held_sublen ha0 ha1 _) ?_
  intro t5 h5 tk5 F5 N5
  rw [(pair_fact ha0 ha1 hb0 hb1).1.1]
  (try dsimp only); (try k_fold)
  k_steps
  unfold Stop
  refine' hnext _ _ _ _ _ D1 D2 _ _ _ _ _ ?F ?m1 ?m2 ?m3 ?N i1 i2 ?d3 ?d4 q1 q2
  case F => k_asm
  case m1 => assumption
  case m2 => assumption
  case m3 => rfl
  case N => exact news_sub (by k_asm) (by k_subL)
  case d3 => assumption
  case d4 => assumption
end
end Mine

end
/- part S3 -/
section
set_option maxRecDepth 100000
set_option maxHeartbeats 4000000
namespace Mine
local macro_rules | `(tactic| walk_at "idle 0") => `(tactic| skip)
local macro_rules | `(tactic| walk_at "idle 1") => `(tactic| skip)
local macro_rules | `(tactic| walk_at "idle 2") => `(tactic| skip)
local macro_rules | `(tactic| walk_at "idle 3") => `(tactic| skip)
local macro_rules | `(tactic| walk_at "idle 4") => `(tactic| skip)
local macro_rules | `(tactic| walk_at "idle 5") => `(tactic| skip)
local macro_rules | `(tactic| walk_at "idle 6") => `(tactic| skip)
local macro_rules | `(tactic| walk_at "idle 7") => `(tactic| skip)
local macro_rules | `(tactic| walk_at "idle 8") => `(tactic| skip)
local macro_rules | `(tactic| walk_at "idle 9") => `(tactic| skip)
local macro_rules | `(tactic| walk_at "eval Name") => `(tactic| (k_here; k_dflt (refine' nameX_L ?F ?v ?_ ?a ?b; (case F => k_asm); (case a => rfl); (case b => rfl); (case v => first | rfl | assumption); k_whole)))
local macro_rules | `(tactic| walk_at "exec For Name List cons nil") => `(tactic| (k_here; (rename Fr _ _ _ _ => lF'); (with_unfolding_all refine' For_turns lF' ?_); k_whole))
local macro_rules | `(tactic| walk_at "eval ListComp") => `(tactic| (k_here; k_dflt (refine' comp_keep ?g0 ?g1 ?g2 ?g3 ?g4 ?g5 ?g6 ?_ ?g7; (case g0 => k_asm); (case g1 => exact rfl); (case g2 => decide); (case g3 => exact rfl); (case g4 => decide); (case g5 => exact rfl); (case g6 => decide); (case g7 => (intro _; rfl)))))
local macro_rules | `(tactic| walk_at "binaryOp Add ref ref") => `(tactic| (k_here; (with_reducible show wpAny _ _ (binaryOp _ (Value.ref _) (Value.ref _)) _ _ _); k_dflt (refine' kmk_add_ints ?F ?N ?a ?b ?i ?j ?_ ?z; (case F => k_asm); (case N => k_asm); (case a => exact ⟨_, News.get (by k_asm) (by k_mem), rfl, _, rfl⟩); (case b => exact ⟨_, News.get (by k_asm) (by k_mem), rfl, _, rfl⟩); (case i => assumption); (case j => assumption); (case z => assumption)); intro D' ws' h' F' N' l1 hI'; (try k_lt l1)))
theorem held_app {v u : Int} (h0 : 0 ≤ v) (h1 : v < 64) (g0 : 0 ≤ u) (g1 : u < 64) : ∀ n ∈ heldL v ++ heldL u, 0 ≤ n ∧ n ≤ 15 := fun n hn => by
  rcases List.mem_append.mp hn with h | h
  · have := (held_fact h0 h1).2.1 n h
    omega
  · have := (held_fact g0 g1).2.1 n h
    omega
theorem held_applen {v u : Int} (h0 : 0 ≤ v) (h1 : v < 64) (g0 : 0 ≤ u) (g1 : u < 64) : (heldL v ++ heldL u).length ≤ 100 := by
  have := held_len6 h0 h1
  have := held_len6 g0 g1
  rw [List.length_append]
  omega

theorem stop_seg3 {M : Model} {A : Around} {env : Env} {Q : Flow → Shared → Prop} {E : Value → Shared → Prop} {s : Shared} (h : Stop (wpAny M A (execs (lawB.drop 5) env) Q E s)) : wpAny M A (execs (lawB.drop 5) env) Q E s := h
local macro_rules | `(tactic| walk_at "execs cons") => `(tactic| (k_here; k_dflt (refine' stop_seg3 ?_)))
section
variable {prog : Program} {w : World} {p : Program} {loose : List Str} {mean : ExcName → Option Value} {mg mb : Str → Option Value}
  {A : Around} {h₀ : Heap} {L : Nat} {fa : Addr} {cd : Value} {m : Str → Option Value} {s : Shared} {h₁ : Heap} {tk₁ : Nat} {Q : Flow → Shared → Prop} {E : Value → Shared → Prop} {o1 o2 ocA ocB : Obj} {cA cB : Nat} {rest : List (Addr × Obj)} {v : Int} {t : Tok}
theorem seg3 {a b : Int} {ta tb : Tok} {o3 o4 o5 : Obj} {D1 D2 : Nat} {vs1 vs2 : List Value} {ep1 ep2 : Nat} {tt : Tok} (c2 : Cx (hd.heap_39 w.params) p loose mean mg mb (A.deeper (lawE L fa cd)) h₀ L) (hdp : A.depth + 100 < recursionLimit) (hun : A.units + 1000 < cLine) (l0 : 23 < L ∧ 16 < L)
    (F : Fr h₀ L h₁ m) (ma : m (Str.ofString "one") = some (.int a ta)) (mb : m (Str.ofString "other") = some (.int b tb))
    (ha0 : 0 ≤ a) (ha1 : a < 64) (hb0 : 0 ≤ b) (hb1 : b < 64) (hE : PassesOwn (model prog w) (A.deeper (lawE L fa cd)) (lawE L fa cd) E) (kA : CodeOk ocA qualA) (kB : CodeOk ocB qualB) (lA : @LT.lt Nat _ (L + 5) cA) (lB : @LT.lt Nat _ (L + 5) cB)
    (mbo : m (Str.ofString "both") = some (.int (Builtin.bitAnd a b) tt)) (N : News h₀ L h₁ [(L + 5, o5), (L + 4, o4), (L + 3, o3), (L + 2, o2), (L + 1, o1), (cB, ocB), (23, tabFor inB cB), (cA, ocA), (16, tabFor inA cA), (D1, listOf vs1.toArray ep1), (D2, listOf vs2.toArray ep2)])
    (i1 : IntsAre vs1 (heldL a)) (i2 : IntsAre vs2 (heldL b)) (d3 : o3.data = .cell (some (.ref D1))) (d4 : o4.data = .cell (some (.ref D2))) (q1 : @LT.lt Nat _ (L + 5) D1) (q2 : @LT.lt Nat _ (L + 5) D2)
    (hnext : ∀ h' tk', Fr h₀ L h' m → News h₀ L h' [(L + 5, o5), (L + 4, o4), (L + 3, o3), (L + 2, o2), (L + 1, o1), (cB, ocB), (23, tabFor inB cB), (cA, ocA), (16, tabFor inA cA), (D1, listOf vs1.toArray ep1), (D2, listOf vs2.toArray ep2)] → wpAny (model prog w) (A.deeper (lawE L fa cd)) (execs (lawB.drop 5) (lawE L fa cd)) Q E { s with heap := h', toks := tk' }) :
    wpAny (model prog w) (A.deeper (lawE L fa cd)) (execs (lawB.drop 4) (lawE L fa cd)) Q E { s with heap := h₁, toks := tk₁ } := by
  have hh := c2.hh
  obtain ⟨hnd, dp, frs, gd, un⟩ := A
  simp only at hdp hun
  have hh : hnd = none := hh
  subst hh
  have eB : lawB.drop 4 = lawB.drop 4 := rfl
  conv at eB => rhs; whnf
  have eS : sScope (sAt pTop 11) = sScope (sAt pTop 11) := rfl
  conv at eS => rhs; whnf
  rw [lawE, eS] at c2 hE ⊢
  rw [eB]
  clear eB eS
  have X' := c2.X
  have T' := c2.T
  obtain ⟨env', outer, A₀, base, hfr, -, -, B'⟩ := id c2.fr
  have hdp2 : dp + 1 + 30 < recursionLimit := by omega
  have hun2 : un + 3 + 200 < cLine := by omega
  k_unmd; (try dsimp only); (try k_fold)
  have hlen2 : (heldL a).length + (heldL b).length ≤ sizeLine := by
    have := held_len6 ha0 ha1
    have := held_len6 hb0 hb1
    rw [PySem.sizeLine_eq]; omega
  k_steps
  · exact absurd rfl (by assumption)
  refine lot_warm (ns := heldL a ++ heldL b) c2 (by k_asm) (by k_asm) (Warm.of (by k_asm) (by k_mem) (by k_mem) (by assumption)) (by show dp + 1 + 40 < _; omega) (by show un + 3 + 300 < _; omega) (by is_list) (by assumption) (held_app ha0 ha1 hb0 hb1) (held_applen ha0 ha1 hb0 hb1) ?_
  intro t5 h5 tk5 F5 N5
  rw [(pair_fact ha0 ha1 hb0 hb1).1.2]
  (try dsimp only); (try k_fold)
  k_steps
  · exact absurd rfl (by assumption)
  · unfold Stop
    exact hnext _ _ (by k_asm) (news_sub (by k_asm) (by k_subL))
end
end Mine

end
/- part S4 -/
section
set_option maxRecDepth 100000
set_option maxHeartbeats 4000000
namespace Mine
local macro_rules | `(tactic| walk_at "eval Name") => `(tactic| (k_here; k_dflt (refine' nameX_L ?F ?v ?_ ?a ?b; (case F => k_asm); (case a => rfl); (case b => rfl); (case v => first | rfl | assumption); k_whole)))
local macro_rules | `(tactic| walk_at "exec For Name List cons nil") => `(tactic| (k_here; (rename Fr _ _ _ _ => lF'); (with_unfolding_all refine' For_turns lF' ?_); k_whole))
local macro_rules | `(tactic| walk_at "eval ListComp") => `(tactic| (k_here; k_dflt (refine' comp_keep ?g0 ?g1 ?g2 ?g3 ?g4 ?g5 ?g6 ?_ ?g7; (case g0 => k_asm); (case g1 => exact rfl); (case g2 => decide); (case g3 => exact rfl); (case g4 => decide); (case g5 => exact rfl); (case g6 => decide); (case g7 => (intro _; rfl)))))
local macro_rules | `(tactic| walk_at "binaryOp Add ref ref") => `(tactic| (k_here; (with_reducible show wpAny _ _ (binaryOp _ (Value.ref _) (Value.ref _)) _ _ _); k_dflt (refine' kmk_add_ints ?F ?N ?a ?b ?i ?j ?_ ?z; (case F => k_asm); (case N => k_asm); (case a => exact ⟨_, News.get (by k_asm) (by k_mem), rfl, _, rfl⟩); (case b => exact ⟨_, News.get (by k_asm) (by k_mem), rfl, _, rfl⟩); (case i => assumption); (case j => assumption); (case z => assumption)); intro D' ws' h' F' N' l1 hI'; (try k_lt l1)))
theorem held_iff {a b : Int} (a0 : 0 ≤ a) (a1 : a < 64) (b0 : 0 ≤ b) (b1 : b < 64) : (decide (heldL a = heldL b) != (a == b)) = false := by
  have h := (pair_fact a0 a1 b0 b1).2.1
  by_cases e : a = b
  · simp [e]
  · have : ¬ heldL a = heldL b := fun z => e (h.mp z)
    simp [e, this]

theorem stop_seg4 {M : Model} {A : Around} {env : Env} {Q : Flow → Shared → Prop} {E : Value → Shared → Prop} {s : Shared} (h : Stop (wpAny M A (execs (lawB.drop 6) env) Q E s)) : wpAny M A (execs (lawB.drop 6) env) Q E s := h
local macro_rules | `(tactic| walk_at "execs cons") => `(tactic| (k_here; k_dflt (refine' stop_seg4 ?_)))
section
variable {prog : Program} {w : World} {p : Program} {loose : List Str} {mean : ExcName → Option Value} {mg mb : Str → Option Value}
  {A : Around} {h₀ : Heap} {L : Nat} {fa : Addr} {cd : Value} {m : Str → Option Value} {s : Shared} {h₁ : Heap} {tk₁ : Nat} {Q : Flow → Shared → Prop} {E : Value → Shared → Prop} {o1 o2 ocA ocB : Obj} {cA cB : Nat} {rest : List (Addr × Obj)} {v : Int} {t : Tok}
theorem seg4 {a b : Int} {ta tb : Tok} {o3 o4 o5 : Obj} {D1 D2 : Nat} {vs1 vs2 : List Value} {ep1 ep2 : Nat} {tt : Tok} (c2 : Cx (hd.heap_39 w.params) p loose mean mg mb (A.deeper (lawE L fa cd)) h₀ L) (hdp : A.depth + 100 < recursionLimit) (hun : A.units + 1000 < cLine) (l0 : 23 < L ∧ 16 < L)
    (F : Fr h₀ L h₁ m) (ma : m (Str.ofString "one") = some (.int a ta)) (mb : m (Str.ofString "other") = some (.int b tb))
    (ha0 : 0 ≤ a) (ha1 : a < 64) (hb0 : 0 ≤ b) (hb1 : b < 64) (hE : PassesOwn (model prog w) (A.deeper (lawE L fa cd)) (lawE L fa cd) E) (kA : CodeOk ocA qualA) (kB : CodeOk ocB qualB) (lA : @LT.lt Nat _ (L + 5) cA) (lB : @LT.lt Nat _ (L + 5) cB)
    (N : News h₀ L h₁ [(L + 5, o5), (L + 4, o4), (L + 3, o3), (L + 2, o2), (L + 1, o1), (cB, ocB), (23, tabFor inB cB), (cA, ocA), (16, tabFor inA cA), (D1, listOf vs1.toArray ep1), (D2, listOf vs2.toArray ep2)])
    (i1 : IntsAre vs1 (heldL a)) (i2 : IntsAre vs2 (heldL b)) (d3 : o3.data = .cell (some (.ref D1))) (d4 : o4.data = .cell (some (.ref D2))) (q1 : @LT.lt Nat _ (L + 5) D1) (q2 : @LT.lt Nat _ (L + 5) D2)
    (hnext : ∀ h' tk', Fr h₀ L h' m → News h₀ L h' [(L + 5, o5), (L + 4, o4), (L + 3, o3), (L + 2, o2), (L + 1, o1), (cB, ocB), (23, tabFor inB cB), (cA, ocA), (16, tabFor inA cA), (D1, listOf vs1.toArray ep1), (D2, listOf vs2.toArray ep2)] → wpAny (model prog w) (A.deeper (lawE L fa cd)) (execs (lawB.drop 6) (lawE L fa cd)) Q E { s with heap := h', toks := tk' }) :
    wpAny (model prog w) (A.deeper (lawE L fa cd)) (execs (lawB.drop 5) (lawE L fa cd)) Q E { s with heap := h₁, toks := tk₁ } := by
  have hh := c2.hh
  obtain ⟨hnd, dp, frs, gd, un⟩ := A
  simp only at hdp hun
  have hh : hnd = none := hh
  subst hh
  have eB : lawB.drop 5 = lawB.drop 5 := rfl
  conv at eB => rhs; whnf
  have eS : sScope (sAt pTop 11) = sScope (sAt pTop 11) := rfl
  conv at eS => rhs; whnf
  rw [lawE, eS] at c2 hE ⊢
  rw [eB]
  clear eB eS
  have X' := c2.X
  have T' := c2.T
  obtain ⟨env', outer, A₀, base, hfr, -, -, B'⟩ := id c2.fr
  have hdp2 : dp + 1 + 30 < recursionLimit := by omega
  have hun2 : un + 3 + 200 < cLine := by omega
  k_unmd; (try dsimp only); (try k_fold)
  have hlen2 : (heldL a).length + (heldL b).length ≤ sizeLine := by
    have := held_len6 ha0 ha1
    have := held_len6 hb0 hb1
    rw [PySem.sizeLine_eq]; omega
  k_steps
  · have hz : (decide (heldL a = heldL b) != (a == b)) = true := by assumption
    rw [held_iff ha0 ha1 hb0 hb1] at hz
    cases hz
  refine ⟨_, _, heldL a ++ heldL b, _, (fun x => ((heldL a).any fun y => y == x) != ((heldL b).any fun y => y == x)), rfl, rfl, by k_asm, by k_asm, .inr ⟨_, by k_mem⟩, by assumption, Nat.le_trans (held_applen ha0 ha1 hb0 hb1) (by decide), ?turn, ?fin⟩
  case turn =>
    intro k2 t2 I oI C oC D2 m2 ys2 h8 tk8 E8 hk2 hC2 hx2 F8 N8 off8 ne8
    (try k_fold)
    k_steps
    · k_asm
    · k_asm
  case fin =>
  intro D3 h9 tk9 ys3 F9 N9 ne9 i9
  (try dsimp only); (try k_fold)
  k_steps
  refine lot_warm (ns := (heldL a ++ heldL b).filter fun x => ((heldL a).any fun y => y == x) != ((heldL b).any fun y => y == x)) c2 (by k_asm) (by k_asm) (Warm.of (by k_asm) (by k_mem) (by k_mem) (by assumption)) (by show dp + 1 + 40 < _; omega) (by show un + 3 + 300 < _; omega) (by is_list) (by assumption) (fun n hn => held_app ha0 ha1 hb0 hb1 n (List.mem_filter.mp hn).1) (Nat.le_trans (List.length_filter_le _ _) (held_applen ha0 ha1 hb0 hb1)) ?_
  intro t5 h5 tk5 F5 N5
  rw [(pair_fact ha0 ha1 hb0 hb1).2.2]
  (try dsimp only); (try k_fold)
  k_steps
  · exact absurd rfl (by assumption)
  · unfold Stop
    exact hnext _ _ (by k_asm) (news_sub (by k_asm) (by k_subL))
end
end Mine

end
/- part S5 -/
section
set_option maxRecDepth 100000
set_option maxHeartbeats 4000000
namespace Mine
local macro_rules | `(tactic| walk_at "idle 0") => `(tactic| skip)
local macro_rules | `(tactic| walk_at "idle 1") => `(tactic| skip)
local macro_rules | `(tactic| walk_at "idle 2") => `(tactic| skip)
local macro_rules | `(tactic| walk_at "idle 3") => `(tactic| skip)
local macro_rules | `(tactic| walk_at "idle 4") => `(tactic| skip)
local macro_rules | `(tactic| walk_at "idle 5") => `(tactic| skip)
local macro_rules | `(tactic| walk_at "eval Name") => `(tactic| (k_here; k_dflt (refine' nameX_L ?F ?v ?_ ?a ?b; (case F => k_asm); (case a => rfl); (case b => rfl); (case v => first | rfl | assumption); k_whole)))
local macro_rules | `(tactic| walk_at "exec For Name List cons nil") => `(tactic| (k_here; (rename Fr _ _ _ _ => lF'); (with_unfolding_all refine' For_turns lF' ?_); k_whole))
local macro_rules | `(tactic| walk_at "eval ListComp") => `(tactic| (k_here; k_dflt (refine' comp_keep ?g0 ?g1 ?g2 ?g3 ?g4 ?g5 ?g6 ?_ ?g7; (case g0 => k_asm); (case g1 => exact rfl); (case g2 => decide); (case g3 => exact rfl); (case g4 => decide); (case g5 => exact rfl); (case g6 => decide); (case g7 => (intro _; rfl)))))
theorem within_facts2 : ∀ n : Fin 16, (withinF (n.val : Int)).Pairwise (· ≤ ·) ∧ ((withinF (n.val : Int)).length : Int) = 2 ^ (heldL (n.val : Int)).length ∧ lotF (withinF (n.val : Int)) < 2 ^ (n.val + 1) := by decide +kernel
theorem within_fact {v : Int} (h0 : 0 ≤ v) (h1 : v < 16) : Upw (withinF v) ∧ (∀ k ∈ withinF v, 0 ≤ k ∧ k ≤ 15) ∧ (withinF v).length ≤ 16 ∧ (withinF v).Pairwise (· ≤ ·) ∧ ((withinF v).length : Int) = 2 ^ (heldL v).length ∧ lotF (withinF v) < 2 ^ (v + 1).toNat := by
  obtain ⟨n, rfl⟩ := Int.eq_ofNat_of_zero_le h0
  have := within_facts ⟨n, by omega⟩
  have h2 := within_facts2 ⟨n, by omega⟩
  exact ⟨upB_is this.1, this.2.1, this.2.2, h2.1, h2.2.1, h2.2.2⟩
theorem sorted_one : ∀ {l r : List Int}, l.Perm r → l.Pairwise (· ≤ ·) → r.Pairwise (· ≤ ·) → l = r
  | [], r, p, _, _ => (List.Perm.nil_eq p)
  | a :: l, [], p, _, _ => absurd p.length_eq (by simp)
  | a :: l, b :: r, p, h1, h2 => by
    have e : a = b := by
      have ha : a ∈ b :: r := p.subset List.mem_cons_self
      have hb : b ∈ a :: l := p.symm.subset List.mem_cons_self
      rcases List.mem_cons.mp ha with q | ha
      · exact q
      · rcases List.mem_cons.mp hb with q | hb
        · exact q.symm
        · exact Int.le_antisymm (List.rel_of_pairwise_cons h1 hb) (List.rel_of_pairwise_cons h2 ha)
    subst e
    rw [sorted_one ((List.perm_cons a).mp p) (List.Pairwise.of_cons h1) (List.Pairwise.of_cons h2)]
theorem mod_16 {a : Int} : 0 ≤ a.fmod 16 ∧ a.fmod 16 < 16 := ⟨Int.fmod_nonneg_of_pos _ (by decide), Int.fmod_lt_of_pos _ (by decide)⟩

theorem stop_seg5 {M : Model} {A : Around} {env : Env} {Q : Flow → Shared → Prop} {E : Value → Shared → Prop} {s : Shared} (h : Stop (wpAny M A (execs (lawB.drop 8) env) Q E s)) : wpAny M A (execs (lawB.drop 8) env) Q E s := h
local macro_rules | `(tactic| walk_at "execs cons") => `(tactic| (k_here; k_dflt (refine' stop_seg5 ?_)))
section
variable {prog : Program} {w : World} {p : Program} {loose : List Str} {mean : ExcName → Option Value} {mg mb : Str → Option Value}
  {A : Around} {h₀ : Heap} {L : Nat} {fa : Addr} {cd : Value} {m : Str → Option Value} {s : Shared} {h₁ : Heap} {tk₁ : Nat} {Q : Flow → Shared → Prop} {E : Value → Shared → Prop} {o1 o2 ocA ocB : Obj} {cA cB : Nat} {rest : List (Addr × Obj)} {v : Int} {t : Tok}
theorem seg5 {a b : Int} {ta tb : Tok} {o3 o4 o5 : Obj} {D1 : Nat} {vs1 : List Value} {ep1 : Nat} (c2 : Cx (hd.heap_39 w.params) p loose mean mg mb (A.deeper (lawE L fa cd)) h₀ L) (hdp : A.depth + 100 < recursionLimit) (hun : A.units + 1000 < cLine) (l0 : 23 < L ∧ 16 < L)
    (F : Fr h₀ L h₁ m) (ma : m (Str.ofString "one") = some (.int a ta)) (mb : m (Str.ofString "other") = some (.int b tb))
    (ha0 : 0 ≤ a) (ha1 : a < 64) (hb0 : 0 ≤ b) (hb1 : b < 64) (hE : PassesOwn (model prog w) (A.deeper (lawE L fa cd)) (lawE L fa cd) E) (kA : CodeOk ocA qualA) (kB : CodeOk ocB qualB) (lA : @LT.lt Nat _ (L + 5) cA) (lB : @LT.lt Nat _ (L + 5) cB)
    (N : News h₀ L h₁ [(L + 5, o5), (L + 4, o4), (L + 3, o3), (L + 2, o2), (L + 1, o1), (cB, ocB), (23, tabFor inB cB), (cA, ocA), (16, tabFor inA cA), (D1, listOf vs1.toArray ep1)])
    (i1 : IntsAre vs1 (heldL a)) (d3 : o3.data = .cell (some (.ref D1))) (q1 : @LT.lt Nat _ (L + 5) D1)
    (hnext : ∀ h' tk' m' (D5 : Nat) vs5 ep5, Fr h₀ L h' m' → m' (Str.ofString "one") = some (.int a ta) → m' (Str.ofString "other") = some (.int b tb) → m' (Str.ofString "order") = some (.ref D5) → News h₀ L h' [(L + 5, o5), (L + 4, o4), (L + 3, o3), (L + 2, o2), (L + 1, o1), (cB, ocB), (23, tabFor inB cB), (cA, ocA), (16, tabFor inA cA), (D1, listOf vs1.toArray ep1), (D5, listOf vs5.toArray ep5)] → IntsAre vs5 (withinF (a.fmod 16)) → wpAny (model prog w) (A.deeper (lawE L fa cd)) (execs (lawB.drop 8) (lawE L fa cd)) Q E { s with heap := h', toks := tk' }) :
    wpAny (model prog w) (A.deeper (lawE L fa cd)) (execs (lawB.drop 6) (lawE L fa cd)) Q E { s with heap := h₁, toks := tk₁ } := by
  have hh := c2.hh
  obtain ⟨hnd, dp, frs, gd, un⟩ := A
  simp only at hdp hun
  have hh : hnd = none := hh
  subst hh
  have eB : lawB.drop 6 = lawB.drop 6 := rfl
  conv at eB => rhs; whnf
  have eS : sScope (sAt pTop 11) = sScope (sAt pTop 11) := rfl
  conv at eS => rhs; whnf
  rw [lawE, eS] at c2 hE ⊢
  rw [eB]
  clear eB eS
  have X' := c2.X
  have T' := c2.T
  obtain ⟨env', outer, A₀, base, hfr, -, -, B'⟩ := id c2.fr
  have hdp2 : dp + 1 + 30 < recursionLimit := by omega
  have hun2 : un + 3 + 200 < cLine := by omega
  k_unmd; (try dsimp only); (try k_fold)
  obtain ⟨m0, m1⟩ := @mod_16 a
  k_steps
  refine within_warm c2 (by k_asm) (by k_asm) (Warm.of (by k_asm) (by k_mem) (by k_mem) (by assumption)) (by show dp + 1 + 40 < _; omega) (by show un + 3 + 300 < _; omega) m0 m1 ?_
  intro D5 vs5 ep5 h2 tk2 F2 N2 i5 lt5 ltL5
  (try k_lt lt5)
  (try dsimp only); (try k_fold)
  k_steps
  have hwl : (withinF (a.fmod 16)).length ≤ 16 := (within_fact m0 m1).2.2.1
  k_dflt (refine' kso_sorted (ns := withinF (a.fmod 16)) ?k1 ?k2 ?k3 ?k4 ?k5 ?_; (case k1 => k_asm); (case k2 => k_asm); (case k3 => exact ⟨_, News.get (by k_asm) (by k_mem), rfl, _, rfl⟩); (case k4 => assumption); (case k5 => omega))
  intro D6 vs6 ns6 ep6 h4 F4 N4 lt6 i6 e6 pe6 pp6 bb6
  have e7 : ns6 = withinF (a.fmod 16) := sorted_one pe6 pp6 (within_fact m0 m1).2.2.2.1
  subst e7
  clear pe6 pp6 e6 bb6
  (try k_lt lt6)
  (try dsimp only); (try k_fold)
  k_steps
  have hhl : (heldL (a.fmod 16)).length ≤ 6 := held_len6 m0 (by omega)
  refine held_warm c2 (by k_asm) (by k_asm) (Warm.of (by k_asm) (by k_mem) (by k_mem) (by assumption)) (by show dp + 1 + 30 < _; omega) (by show un + 3 + 200 < _; omega) m0 (by omega) ?_
  intro D7 vs7 ep7 h5 tk5 F5 N5 i7 lt7 ltL7
  (try k_lt lt7)
  (try dsimp only); (try k_fold)
  k_steps
  · exact absurd ((within_fact m0 m1).2.2.2.2.1) (by assumption)
  have hlt := (within_fact m0 m1).2.2.2.2.2
  refine lot_warm (ns := withinF (a.fmod 16)) c2 (by k_asm) (by k_asm) (Warm.of (by k_asm) (by k_mem) (by k_mem) (by assumption)) (by show dp + 1 + 40 < _; omega) (by show un + 3 + 300 < _; omega) ⟨_, News.get (by k_asm) (by k_mem), rfl, _, rfl⟩ i5 (within_fact m0 m1).2.1 (Nat.le_trans hwl (by decide)) ?_
  intro t8 h8 tk8 F8 N8
  (try dsimp only); (try k_fold)
  k_steps
  unfold Stop
  refine' hnext _ _ _ D5 _ _ ?F ?m1 ?m2 ?m3 ?N i5
  case F => k_asm
  case m1 => assumption
  case m2 => assumption
  case m3 => rfl
  case N => exact news_sub (by k_asm) (by k_subL)
end
end Mine

end
/- part S6 -/
section
set_option maxRecDepth 100000
set_option maxHeartbeats 4000000
namespace Mine
local macro_rules | `(tactic| walk_at "idle 0") => `(tactic| skip)
local macro_rules | `(tactic| walk_at "idle 1") => `(tactic| skip)
local macro_rules | `(tactic| walk_at "idle 2") => `(tactic| skip)
local macro_rules | `(tactic| walk_at "idle 3") => `(tactic| skip)
local macro_rules | `(tactic| walk_at "idle 4") => `(tactic| skip)
local macro_rules | `(tactic| walk_at "idle 5") => `(tactic| skip)
local macro_rules | `(tactic| walk_at "idle 6") => `(tactic| skip)
local macro_rules | `(tactic| walk_at "idle 7") => `(tactic| skip)
local macro_rules | `(tactic| walk_at "idle 8") => `(tactic| skip)
local macro_rules | `(tactic| walk_at "idle 9") => `(tactic| skip)
local macro_rules | `(tactic| walk_at "idle 10") => `(tactic| skip)
local macro_rules | `(tactic| walk_at "eval Name") => `(tactic| (k_here; k_dflt (refine' nameX_L ?F ?v ?_ ?a ?b; (case F => k_asm); (case a => rfl); (case b => rfl); (case v => first | rfl | assumption); k_whole)))
local macro_rules | `(tactic| walk_at "exec For Name List cons nil") => `(tactic| (k_here; (rename Fr _ _ _ _ => lF'); (with_unfolding_all refine' For_turns lF' ?_); k_whole))
local macro_rules | `(tactic| walk_at "eval ListComp") => `(tactic| (k_here; k_dflt (refine' comp_keep ?g0 ?g1 ?g2 ?g3 ?g4 ?g5 ?g6 ?_ ?g7; (case g0 => k_asm); (case g1 => exact rfl); (case g2 => decide); (case g3 => exact rfl); (case g4 => decide); (case g5 => exact rfl); (case g6 => decide); (case g7 => (intro _; rfl)))))
local macro_rules | `(tactic| walk_at "pyIter ref") => `(tactic| (k_here; refine stop ?_))
theorem pl_t {p : Prop} [Decidable p] {g e : Bool} (h : (decide p && g) = e) (hp : p) (hz : (g != e) = true) : False := by
  rw [decide_eq_true hp, Bool.true_and] at h
  subst h
  simp at hz
theorem pl_f {p : Prop} [Decidable p] {g e : Bool} (h : (decide p && g) = e) (hp : ¬ p) (hz : (decide p != e) = true) : False := by
  rw [decide_eq_false hp, Bool.false_and] at h
  subst h
  rw [decide_eq_false hp] at hz
  cases hz
theorem same2 {x y : Str} {v1 v2 : Option Value} {u m₀ : Str → Option Value} {z : Str} (h1 : z ≠ x) (h3 : [y].contains z = false) :
    (if z = y then v1 else if z = x then v2 else kstB (fun z => if [y].contains z then u z else m₀ z) [] z) = m₀ z := by
  have hy : z ≠ y := by
    intro e
    subst e
    simp at h3
  rw [if_neg hy, if_neg h1]
  show (if _ then _ else _) = _
  rw [h3]
  rfl
theorem kst_id {h₀ h : Heap} {L : Addr} {l : List (Addr × Obj)} (N : News h₀ L h l) : News h₀ L h l := N
theorem place_facts : ∀ v k : Fin 16, (decide (bisF (withinF (v.val : Int)) (k.val : Int) < ((withinF (v.val : Int)).length : Int)) && ((withinF (v.val : Int)).getD (bisF (withinF (v.val : Int)) (k.val : Int)).toNat 0 == (k.val : Int))) = (Builtin.bitAnd (k.val : Int) (v.val : Int) == (k.val : Int)) := by decide +kernel
theorem place_fact {v k : Int} (h0 : 0 ≤ v) (h1 : v < 16) (k0 : 0 ≤ k) (k1 : k < 16) : (decide (bisF (withinF v) k < ((withinF v).length : Int)) && ((withinF v).getD (bisF (withinF v) k).toNat 0 == k)) = (Builtin.bitAnd k v == k) := by
  obtain ⟨n, rfl⟩ := Int.eq_ofNat_of_zero_le h0
  obtain ⟨j, rfl⟩ := Int.eq_ofNat_of_zero_le k0
  exact place_facts ⟨n, by omega⟩ ⟨j, by omega⟩
local macro_rules | `(tactic| walk_at "exec For") => `(tactic| (k_here; k_dflt (refine' for_stop ?f1 ?f2 ?f3 ?_ ?f4 ?f5; (case f1 => k_asm); (case f2 => rfl); (case f3 => rfl); (case f4 => (intro _; rfl)); (case f5 => passes_own))))

theorem stop_seg6 {M : Model} {A : Around} {env : Env} {Q : Flow → Shared → Prop} {E : Value → Shared → Prop} {s : Shared} (h : Stop (wpAny M A (execs (lawB.drop 9) env) Q E s)) : wpAny M A (execs (lawB.drop 9) env) Q E s := h
local macro_rules | `(tactic| walk_at "execs cons") => `(tactic| (k_here; k_dflt (refine' stop_seg6 ?_)))
section
variable {prog : Program} {w : World} {p : Program} {loose : List Str} {mean : ExcName → Option Value} {mg mb : Str → Option Value}
  {A : Around} {h₀ : Heap} {L : Nat} {fa : Addr} {cd : Value} {m : Str → Option Value} {s : Shared} {h₁ : Heap} {tk₁ : Nat} {Q : Flow → Shared → Prop} {E : Value → Shared → Prop} {o1 o2 ocA ocB : Obj} {cA cB : Nat} {rest : List (Addr × Obj)} {v : Int} {t : Tok}
theorem seg6 {a b : Int} {ta tb : Tok} {o3 o4 o5 : Obj} {D1 D5 : Nat} {vs1 vs5 : List Value} {ep1 ep5 : Nat} (c2 : Cx (hd.heap_39 w.params) p loose mean mg mb (A.deeper (lawE L fa cd)) h₀ L) (hdp : A.depth + 100 < recursionLimit) (hun : A.units + 1000 < cLine) (l0 : 23 < L ∧ 16 < L)
    (F : Fr h₀ L h₁ m) (ma : m (Str.ofString "one") = some (.int a ta)) (mb : m (Str.ofString "other") = some (.int b tb))
    (ha0 : 0 ≤ a) (ha1 : a < 64) (hb0 : 0 ≤ b) (hb1 : b < 64) (hE : PassesOwn (model prog w) (A.deeper (lawE L fa cd)) (lawE L fa cd) E) (kA : CodeOk ocA qualA) (kB : CodeOk ocB qualB) (lA : @LT.lt Nat _ (L + 5) cA) (lB : @LT.lt Nat _ (L + 5) cB)
    (mo : m (Str.ofString "order") = some (.ref D5)) (N : News h₀ L h₁ [(L + 5, o5), (L + 4, o4), (L + 3, o3), (L + 2, o2), (L + 1, o1), (cB, ocB), (23, tabFor inB cB), (cA, ocA), (16, tabFor inA cA), (D1, listOf vs1.toArray ep1), (D5, listOf vs5.toArray ep5)])
    (i1 : IntsAre vs1 (heldL a)) (d3 : o3.data = .cell (some (.ref D1))) (q1 : @LT.lt Nat _ (L + 5) D1) (i5 : IntsAre vs5 (withinF (a.fmod 16)))
    (hnext : ∀ h' tk' m', Fr h₀ L h' m' → m' (Str.ofString "one") = some (.int a ta) → m' (Str.ofString "other") = some (.int b tb) → News h₀ L h' [(L + 5, o5), (L + 4, o4), (L + 3, o3), (L + 2, o2), (L + 1, o1), (cB, ocB), (23, tabFor inB cB), (cA, ocA), (16, tabFor inA cA), (D1, listOf vs1.toArray ep1)] → wpAny (model prog w) (A.deeper (lawE L fa cd)) (execs (lawB.drop 9) (lawE L fa cd)) Q E { s with heap := h', toks := tk' }) :
    wpAny (model prog w) (A.deeper (lawE L fa cd)) (execs (lawB.drop 8) (lawE L fa cd)) Q E { s with heap := h₁, toks := tk₁ } := by
  have hh := c2.hh
  obtain ⟨hnd, dp, frs, gd, un⟩ := A
  simp only at hdp hun
  have hh : hnd = none := hh
  subst hh
  have eB : lawB.drop 8 = lawB.drop 8 := rfl
  conv at eB => rhs; whnf
  have eS : sScope (sAt pTop 11) = sScope (sAt pTop 11) := rfl
  conv at eS => rhs; whnf
  rw [lawE, eS] at c2 hE ⊢
  rw [eB]
  clear eB eS
  have X' := c2.X
  have T' := c2.T
  obtain ⟨env', outer, A₀, base, hfr, -, -, B'⟩ := id c2.fr
  have hdp2 : dp + 1 + 30 < recursionLimit := by omega
  have hun2 : un + 3 + 200 < cLine := by omega
  k_unmd; (try dsimp only); (try k_fold)
  obtain ⟨m0, m1⟩ := @mod_16 a
  k_steps
  unfold Stop
  refine kst_range (σ := Unit) (n := (a.fmod 16 + 1).toNat) (fun _ => [(L + 5, o5), (L + 4, o4), (L + 3, o3), (L + 2, o2), (L + 1, o1), (cB, ocB), (23, tabFor inB cB), (cA, ocA), (16, tabFor inA cA), (D1, listOf vs1.toArray ep1), (D5, listOf vs5.toArray ep5)]) (fun _ => []) (fun _ => True) [Str.ofString "place"] (fun _ _ => True) () rfl (by assumption) (small_one (by omega) (by omega) (by omega) (by omega)) (by rw [rangeSize_nat]; omega) (by assumption) (by assumption) True.intro (List.forall_mem_nil _) True.intro ?_ ?_
  · intro cc pre k t u h7 tk7 own hk hpre hoff _ _ F7 N7
    have hk0 : 0 ≤ k := by omega
    have hk1 : k < 16 := by omega
    (try k_fold)
    k_steps
    refine bisect_two c2 (by k_asm) (by k_asm) (by show dp + 1 + 10 < _; omega) (by show un + 3 + 100 < _; omega) ⟨_, News.get (by k_asm) (by k_mem), rfl, _, rfl⟩ i5 (within_fact m0 m1).1 (Nat.le_trans (within_fact m0 m1).2.2.1 (by decide)) ?_
    intro t8 h8 tk8 F8 N8
    have hp0 : 0 ≤ bisF (withinF (a.fmod 16)) k := Int.natCast_nonneg _
    have hpf := place_fact m0 m1 hk0 hk1
    have hwl : (withinF (a.fmod 16)).length ≤ 16 := (within_fact m0 m1).2.2.1
    (try dsimp only); (try k_fold)
    k_steps
    refine len_ints (by k_asm) (by k_mem) i5 (by omega) ?_
    intro t9 tk9
    (try dsimp only); (try k_fold)
    k_steps
    · exact (pl_t hpf (by assumption) (by assumption)).elim
    · exact kst_end () (by k_asm) (kst_id (by k_asm)) (fun q hq => List.mem_append_left own hq) (fun q hq => List.mem_append_right _ hq) rfl True.intro (List.forall_mem_nil _) (fun z h1 h2 h3 => same2 h1 h3) True.intro
    · exact (pl_f hpf (by assumption) (by assumption)).elim
    · exact kst_end () (by k_asm) (kst_id (by k_asm)) (fun q hq => List.mem_append_left own hq) (fun q hq => List.mem_append_right _ hq) rfl True.intro (List.forall_mem_nil _) (fun z h1 h2 h3 => same2 h1 h3) True.intro
  · intro cc u h7 tk7 _ _ F7 N7
    (try dsimp only); (try k_fold)
    k_steps
    unfold Stop
    refine' hnext _ _ _ ?F ?m1 ?m2 ?N
    case F => k_asm
    case m1 => exact ma
    case m2 => exact mb
    case N => exact news_sub (by k_asm) (by k_subL)
end
end Mine

end
/- part S7 -/
section
set_option maxRecDepth 100000
set_option maxHeartbeats 4000000
namespace Mine
local macro_rules | `(tactic| walk_at "eval Name") => `(tactic| (k_here; k_dflt (refine' nameX_L ?F ?v ?_ ?a ?b; (case F => k_asm); (case a => rfl); (case b => rfl); (case v => first | rfl | assumption); k_whole)))
local macro_rules | `(tactic| walk_at "exec For Name List cons nil") => `(tactic| (k_here; (rename Fr _ _ _ _ => lF'); (with_unfolding_all refine' For_turns lF' ?_); k_whole))
local macro_rules | `(tactic| walk_at "eval ListComp") => `(tactic| (k_here; k_dflt (refine' comp_keep ?g0 ?g1 ?g2 ?g3 ?g4 ?g5 ?g6 ?_ ?g7; (case g0 => k_asm); (case g1 => exact rfl); (case g2 => decide); (case g3 => exact rfl); (case g4 => decide); (case g5 => exact rfl); (case g6 => decide); (case g7 => (intro _; rfl)))))
local macro_rules | `(tactic| walk_at "pyIter ref") => `(tactic| (k_here; refine stop ?_))
section
variable {prog : Program} {w : World} {A : Around} {E : Value → Shared → Prop} {s : Shared} {h₀ : Heap} {L : Addr} {m : Str → Option Value} {news : List (Addr × Obj)} {Q : Value → Shared → Prop}
theorem iter_range3 {r : Addr} {a b : Int} {t u v : Tok} {n : Nat} (hr : IsRange s.heap r a b 1 t u v) (hsm : Builtin.Range.small a b 1 = true) (hn : Builtin.Range.rangeSize a b 1 = (n : Int)) (F : Fr h₀ L s.heap m) (N : News h₀ L s.heap news)
    (h : ∀ (I : Nat) h', IsRangeIter h' I (a + ((0 : Nat) : Int) * 1) ((n : Int) - ((0 : Nat) : Int)) 1 → Fr h₀ L h' m → News h₀ L h' news → I ≠ L → h₀.get? I = none → (∀ p ∈ news, p.1 < I) → Q (.ref I) { s with heap := h' }) :
    wpAny (model prog w) A (pyIter (.ref r)) Q E s :=
  wpAny_pyIter_range hr hsm (h _ _ (by show IsRangeIter _ _ _ _ _; rw [hn]; simpa using Heap.get?_push_size _ rfl) (F.push _) (fun p hp => ⟨Heap.get?_push_of_some _ (N p hp).1, (N p hp).2⟩) (Nat.ne_of_gt F.ns.lt) (next_is_new F) (fun p hp => Heap.lt_size (N p hp).1))
theorem iter_list3 {ax : Addr} {vs : List Value} {k : Nat} (F : Fr h₀ L s.heap m) (N : News h₀ L s.heap news) (hm : (ax, listOf vs.toArray k) ∈ news)
    (h : ∀ (I : Nat) h', (h'.IsListIter I ax 0 ∧ h'.IsList ax vs.toArray) → Fr h₀ L h' m → News h₀ L h' news → I ≠ L → h₀.get? I = none → (∀ p ∈ news, p.1 < I) → Q (.ref I) { s with heap := h' }) :
    wpAny (model prog w) A (pyIter (.ref ax)) Q E s := by
  have hl : s.heap.IsList ax vs.toArray := ⟨_, (N _ hm).1, rfl, k, rfl⟩
  exact wpAny_pyIter_list hl (h _ _ ⟨⟨_, Heap.get?_push_size _ rfl, rfl, rfl⟩, hl.push _⟩ (F.push _) (fun p hp => ⟨Heap.get?_push_of_some _ (N p hp).1, (N p hp).2⟩) (Nat.ne_of_gt F.ns.lt) (next_is_new F) (fun p hp => Heap.lt_size (N p hp).1))
end
def pairG (i : Nat) : List Int := (List.range 3).map fun (j : Nat) => pairF (0 + (i : Int)) (0 + (j : Int))
theorem pairs_are : (List.range 3).flatMap pairG = [2, 10, 34, 12, 4, 68, 48, 80, 16] := by decide +kernel
theorem pairs_len : ∀ i, i ≤ 3 → ((List.range i).flatMap pairG).length ≤ 1000 := by decide +kernel
theorem pairG_at {i j : Nat} (hj : j < 3) : (pairG i)[j]? = some (pairF (0 + (i : Int)) (0 + (j : Int))) := by
  simp [pairG, hj]

theorem stop_seg7 {M : Model} {A : Around} {env : Env} {Q : Flow → Shared → Prop} {E : Value → Shared → Prop} {s : Shared} (h : Stop (wpAny M A (execs (lawB.drop 10) env) Q E s)) : wpAny M A (execs (lawB.drop 10) env) Q E s := h
local macro_rules | `(tactic| walk_at "execs cons") => `(tactic| (k_here; k_dflt (refine' stop_seg7 ?_)))
section
variable {prog : Program} {w : World} {p : Program} {loose : List Str} {mean : ExcName → Option Value} {mg mb : Str → Option Value}
  {A : Around} {h₀ : Heap} {L : Nat} {fa : Addr} {cd : Value} {m : Str → Option Value} {s : Shared} {h₁ : Heap} {tk₁ : Nat} {Q : Flow → Shared → Prop} {E : Value → Shared → Prop} {o1 o2 ocA ocB : Obj} {cA cB : Nat} {rest : List (Addr × Obj)} {v : Int} {t : Tok}
theorem seg7 {a b : Int} {ta tb : Tok} {o3 o4 o5 : Obj} {D1 : Nat} {vs1 : List Value} {ep1 : Nat} (c2 : Cx (hd.heap_39 w.params) p loose mean mg mb (A.deeper (lawE L fa cd)) h₀ L) (hdp : A.depth + 100 < recursionLimit) (hun : A.units + 1000 < cLine) (l0 : 23 < L ∧ 16 < L)
    (F : Fr h₀ L h₁ m) (ma : m (Str.ofString "one") = some (.int a ta)) (mb : m (Str.ofString "other") = some (.int b tb))
    (ha0 : 0 ≤ a) (ha1 : a < 64) (hb0 : 0 ≤ b) (hb1 : b < 64) (hE : PassesOwn (model prog w) (A.deeper (lawE L fa cd)) (lawE L fa cd) E) (kA : CodeOk ocA qualA) (kB : CodeOk ocB qualB) (lA : @LT.lt Nat _ (L + 5) cA) (lB : @LT.lt Nat _ (L + 5) cB)
    (N : News h₀ L h₁ [(L + 5, o5), (L + 4, o4), (L + 3, o3), (L + 2, o2), (L + 1, o1), (cB, ocB), (23, tabFor inB cB), (cA, ocA), (16, tabFor inA cA), (D1, listOf vs1.toArray ep1)])
    (i1 : IntsAre vs1 (heldL a)) (d3 : o3.data = .cell (some (.ref D1))) (q1 : @LT.lt Nat _ (L + 5) D1)
    (hnext : ∀ h' tk' m' (DP : Nat) vsP epP, Fr h₀ L h' m' → m' (Str.ofString "one") = some (.int a ta) → m' (Str.ofString "other") = some (.int b tb) → m' (Str.ofString "pairs") = some (.ref DP) → IntsAre vsP [2, 10, 34, 12, 4, 68, 48, 80, 16] → News h₀ L h' [(L + 5, o5), (L + 4, o4), (L + 3, o3), (L + 2, o2), (L + 1, o1), (cB, ocB), (23, tabFor inB cB), (cA, ocA), (16, tabFor inA cA), (D1, listOf vs1.toArray ep1), (DP, listOf vsP.toArray epP)] → wpAny (model prog w) (A.deeper (lawE L fa cd)) (execs (lawB.drop 10) (lawE L fa cd)) Q E { s with heap := h', toks := tk' }) :
    wpAny (model prog w) (A.deeper (lawE L fa cd)) (execs (lawB.drop 9) (lawE L fa cd)) Q E { s with heap := h₁, toks := tk₁ } := by
  have hh := c2.hh
  obtain ⟨hnd, dp, frs, gd, un⟩ := A
  simp only at hdp hun
  have hh : hnd = none := hh
  subst hh
  have eB : lawB.drop 9 = lawB.drop 9 := rfl
  conv at eB => rhs; whnf
  have eS : sScope (sAt pTop 11) = sScope (sAt pTop 11) := rfl
  conv at eS => rhs; whnf
  rw [lawE, eS] at c2 hE ⊢
  rw [eB]
  clear eB eS
  have X' := c2.X
  have T' := c2.T
  obtain ⟨env', outer, A₀, base, hfr, -, -, B'⟩ := id c2.fr
  have hdp2 : dp + 1 + 30 < recursionLimit := by omega
  have hun2 : un + 3 + 200 < cLine := by omega
  k_unmd; (try dsimp only); (try k_fold)
  have hdp3 : dp + 1 + 50 < recursionLimit := by omega
  have hun3 : un + 3 + 400 < cLine := by omega
  k_steps
  k_dflt (refine' assign_two (by k_asm) rfl ?sw ?clos ?cell ?kind ?names ?hx ?hy ?hxy ?hz ?hp ?hs2 ?_ ?hs; (case sw => exact rfl); (case clos => exact rfl); (case cell => decide); (case kind => exact rfl); (case names => decide); (case hx => exact rfl); (case hy => exact rfl); (case hxy => decide); (case hz => exact rfl); (case hp => exact rfl); (case hs2 => (intro _ _; rfl)); (case hs => (intro _; rfl)))
  k_steps
  unfold Stop
  refine iter_range3 (n := 3) (by assumption) (by decide) (by decide) (by k_asm) (by k_asm) ?_
  intro I h2 hst F2 N2 hIL hI₀ ltI
  refine ⟨I, 3, _, _, [], _, pairG, rfl, it_range rfl, hst, F2, N2, (fun q hq => nomatch hq), hIL, hI₀, (fun p hp => Nat.ne_of_lt (ltI p hp)), pairs_len, ?turn, ?fin⟩
  case turn =>
    intro i v oI oC C D m₂ ys h tk E' hi hP hC hx F N off ne
    obtain ⟨t1, rfl⟩ := hP
    (try k_fold)
    k_steps
    unfold Stop
    refine iter_range3 (n := 3) (by assumption) (by decide) (by decide) (by k_asm) (by k_asm) ?_
    intro I2 h3 hst2 F3 N3 hI2L hI2₀ ltI2
    refine ⟨_, _, I2, 3, _, _, [], _, rfl, rfl, it_range rfl, by simp [pairG], hst2, F3, N3, (fun q hq => hq), (fun q hq => nomatch hq), (fun p hp => ⟨Nat.ne_of_lt (ltI2 p (List.mem_cons_of_mem _ (List.mem_cons_of_mem _ (List.mem_cons_of_mem _ hp)))), off p hp⟩), ⟨Nat.ne_of_gt (ltI2 (I, oI) List.mem_cons_self), Nat.ne_of_gt (ltI2 (C, oC) (List.mem_cons_of_mem _ List.mem_cons_self)), Nat.ne_of_gt (ltI2 (D, LCg.lst ys) (List.mem_cons_of_mem _ (List.mem_cons_of_mem _ List.mem_cons_self))), hI2L⟩, hI2₀, ?elt⟩
    intro j v2 oI2 oC' m₃ zs h4 tk4 E4 hP2 hj hC' hy' hx' F4 N4
    obtain ⟨t2, rfl⟩ := hP2
    (try k_fold)
    k_steps
    refine pair_warm c2 (by k_asm) (by k_asm) (Warm.of (by k_asm) (by k_mem) (by k_mem) (by assumption)) (by show dp + 1 + 50 < _; omega) (by show un + 3 + 400 < _; omega) (by omega) (by omega) (by omega) (by omega) ?_
    intro t5 h5 tk5 F5 N5
    exact ⟨⟨_, t5, pairG_at hj, rfl⟩, h5, tk5, rfl, F5, N5⟩
  case fin =>
    intro D h' tk' ys F6 N6 lt6 hLD i6
    rw [pairs_are] at i6
    dsimp only
    k_steps
    unfold Stop
    refine' hnext _ _ _ D ys _ ?F ?m1 ?m2 ?m3 i6 ?N
    case F => k_asm
    case m1 => assumption
    case m2 => assumption
    case m3 => rfl
    case N => exact news_sub (by k_asm) (by k_subL)
end
end Mine

end
/- part S7b -/
section
set_option maxRecDepth 100000
set_option maxHeartbeats 1500000
namespace Mine
local macro_rules | `(tactic| walk_at "idle 0") => `(tactic| skip)
local macro_rules | `(tactic| walk_at "idle 1") => `(tactic| skip)
local macro_rules | `(tactic| walk_at "idle 2") => `(tactic| skip)
local macro_rules | `(tactic| walk_at "idle 3") => `(tactic| skip)
local macro_rules | `(tactic| walk_at "idle 4") => `(tactic| skip)
local macro_rules | `(tactic| walk_at "idle 5") => `(tactic| skip)
local macro_rules | `(tactic| walk_at "eval Name") => `(tactic| (k_here; k_dflt (refine' nameX_L ?F ?v ?_ ?a ?b; (case F => k_asm); (case a => rfl); (case b => rfl); (case v => first | rfl | assumption); k_whole)))
local macro_rules | `(tactic| walk_at "call ref") => `(tactic| (k_here; k_dflt (refine' pair_warm ?c ?F ?N ?W ?d ?u ?a0 ?a1 ?b0 ?b1 ?_; (case c => assumption); (case F => k_asm); (case N => k_asm); (case W => exact Warm.of (by k_asm) (by k_mem) (by k_mem) (by assumption)); (case d => assumption); (case u => assumption); (case a0 => first | decide | omega); (case a1 => first | decide | omega); (case b0 => first | decide | omega); (case b1 => first | decide | omega)); (intro t' h' tk' F' N'); (try dsimp only); (try k_fold)))
local macro_rules | `(tactic| walk_at "exec For Name List cons nil") => `(tactic| (k_here; (rename Fr _ _ _ _ => lF'); (with_unfolding_all refine' For_turns lF' ?_); k_whole))
local macro_rules | `(tactic| walk_at "eval ListComp") => `(tactic| (k_here; k_dflt (refine' comp_keep ?g0 ?g1 ?g2 ?g3 ?g4 ?g5 ?g6 ?_ ?g7; (case g0 => k_asm); (case g1 => exact rfl); (case g2 => decide); (case g3 => exact rfl); (case g4 => decide); (case g5 => exact rfl); (case g6 => decide); (case g7 => (intro _; rfl)))))
local macro_rules | `(tactic| walk_at "eval ListComp") => `(tactic| (k_here; k_dflt (refine' comp_tup ?g0 ?clos ?cell ?kind ?names ?hx ?_ ?hs; (case g0 => k_asm); (case clos => exact rfl); (case cell => decide); (case kind => exact rfl); (case names => decide); (case hx => exact rfl); (case hs => (intro _; rfl)))))
local macro_rules | `(tactic| walk_at "call type:dict") => `(tactic| (k_here; refine stop ?_))
local macro_rules | `(tactic| walk_at "call builtin:len") => `(tactic| (k_here; refine stop ?_))
theorem tups_kvs {rows : List (Addr × Obj)} : ∀ {ys : List Value} {ks : List Int}, Tups rows ys ks → ∃ kvs : List (Int × Value), kvs.map (·.1) = ks ∧ ∀ (i : Nat) v, ys[i]? = some v → ∃ T k t u, kvs[i]? = some (k, .int 1 u) ∧ v = .ref T ∧ (T, tupOf k t u) ∈ rows
  | [], [], _ => ⟨[], rfl, fun i v h => by simp at h⟩
  | [], _ :: _, h => absurd h.1 (by simp)
  | _ :: _, [], h => absurd h.1 (by simp)
  | y :: ys, k :: ks, h => by
    obtain ⟨T, t, u, e1, e2⟩ := h.2 0 k rfl
    obtain ⟨kvs, hm, ha⟩ := tups_kvs (rows := rows) (ys := ys) (ks := ks) ⟨by simpa using h.1, fun i k' hk => h.2 (i + 1) k' (by simpa using hk)⟩
    refine ⟨(k, .int 1 u) :: kvs, by rw [List.map_cons, hm], fun i v hv => ?_⟩
    cases i with
    | zero =>
      simp only [List.getElem?_cons_zero, Option.some.injEq] at hv e1
      exact ⟨T, k, t, u, rfl, by rw [← hv, e1], e2⟩
    | succ i => exact ha i v (by simpa using hv)
theorem kvF_all : ∀ (kvs a : List (Int × Value)), (a.map (·.1) ++ kvs.map (·.1)).Nodup → kvs.foldl (fun a p => stored a p.1 p.2) a = a ++ kvs
  | [], a, _ => by simp
  | p :: r, a, h => by
    have hk : ¬ (a.any fun kv => decide (kv.1 = p.1)) = true := by
      intro hany
      obtain ⟨q, hq, hqe⟩ := List.any_eq_true.mp hany
      have hq2 : q.1 = p.1 := of_decide_eq_true hqe
      rw [List.nodup_append] at h
      exact h.2.2 q.1 (List.mem_map_of_mem hq) p.1 (by simp) hq2
    have e : stored a p.1 p.2 = a ++ [(p.1, p.2)] := by
      unfold stored
      rw [if_neg hk]
    rw [List.foldl_cons, e, kvF_all r _ (by rw [List.map_append]; simpa using h)]
    simp
theorem kvF_len9 {kvs : List (Int × Value)} (h : kvs.map (·.1) = [2, 10, 34, 12, 4, 68, 48, 80, 16]) : (kvF kvs).length = 9 := by
  rw [kvF, kvF_all kvs [] (by rw [h]; decide), List.nil_append, ← List.length_map (f := (·.1)), h]
  rfl
theorem pair_vals : pairF 0 0 = 2 ∧ pairF 0 1 = 10 := by decide +kernel

theorem stop_seg7b {M : Model} {A : Around} {env : Env} {Q : Flow → Shared → Prop} {E : Value → Shared → Prop} {s : Shared} (h : Stop (wpAny M A (execs (lawB.drop 11) env) Q E s)) : wpAny M A (execs (lawB.drop 11) env) Q E s := h
local macro_rules | `(tactic| walk_at "execs cons") => `(tactic| (k_here; k_dflt (refine' stop_seg7b ?_)))
section
variable {prog : Program} {w : World} {p : Program} {loose : List Str} {mean : ExcName → Option Value} {mg mb : Str → Option Value}
  {A : Around} {h₀ : Heap} {L : Nat} {fa : Addr} {cd : Value} {m : Str → Option Value} {s : Shared} {h₁ : Heap} {tk₁ : Nat} {Q : Flow → Shared → Prop} {E : Value → Shared → Prop} {o1 o2 ocA ocB : Obj} {cA cB : Nat} {rest : List (Addr × Obj)} {v : Int} {t : Tok}
theorem seg7b {a b : Int} {ta tb : Tok} {o3 o4 o5 : Obj} {D1 DP : Nat} {vs1 vsP : List Value} {ep1 epP : Nat} (c2 : Cx (hd.heap_39 w.params) p loose mean mg mb (A.deeper (lawE L fa cd)) h₀ L) (hdp : A.depth + 100 < recursionLimit) (hun : A.units + 1000 < cLine) (l0 : 23 < L ∧ 16 < L)
    (F : Fr h₀ L h₁ m) (ma : m (Str.ofString "one") = some (.int a ta)) (mb : m (Str.ofString "other") = some (.int b tb))
    (ha0 : 0 ≤ a) (ha1 : a < 64) (hb0 : 0 ≤ b) (hb1 : b < 64) (hE : PassesOwn (model prog w) (A.deeper (lawE L fa cd)) (lawE L fa cd) E) (kA : CodeOk ocA qualA) (kB : CodeOk ocB qualB) (lA : @LT.lt Nat _ (L + 5) cA) (lB : @LT.lt Nat _ (L + 5) cB)
    (mp : m (Str.ofString "pairs") = some (.ref DP)) (iP : IntsAre vsP [2, 10, 34, 12, 4, 68, 48, 80, 16]) (N : News h₀ L h₁ [(L + 5, o5), (L + 4, o4), (L + 3, o3), (L + 2, o2), (L + 1, o1), (cB, ocB), (23, tabFor inB cB), (cA, ocA), (16, tabFor inA cA), (D1, listOf vs1.toArray ep1), (DP, listOf vsP.toArray epP)])
    (i1 : IntsAre vs1 (heldL a)) (d3 : o3.data = .cell (some (.ref D1))) (q1 : @LT.lt Nat _ (L + 5) D1)
    (hnext : ∀ h' tk' m', Fr h₀ L h' m' → m' (Str.ofString "one") = some (.int a ta) → m' (Str.ofString "other") = some (.int b tb) → News h₀ L h' [(L + 5, o5), (L + 4, o4), (L + 3, o3), (L + 2, o2), (L + 1, o1), (cB, ocB), (23, tabFor inB cB), (cA, ocA), (16, tabFor inA cA), (D1, listOf vs1.toArray ep1)] → wpAny (model prog w) (A.deeper (lawE L fa cd)) (execs (lawB.drop 11) (lawE L fa cd)) Q E { s with heap := h', toks := tk' }) :
    wpAny (model prog w) (A.deeper (lawE L fa cd)) (execs (lawB.drop 10) (lawE L fa cd)) Q E { s with heap := h₁, toks := tk₁ } := by
  have hh := c2.hh
  obtain ⟨hnd, dp, frs, gd, un⟩ := A
  simp only at hdp hun
  have hh : hnd = none := hh
  subst hh
  have eB : lawB.drop 10 = lawB.drop 10 := rfl
  conv at eB => rhs; whnf
  have eS : sScope (sAt pTop 11) = sScope (sAt pTop 11) := rfl
  conv at eS => rhs; whnf
  rw [lawE, eS] at c2 hE ⊢
  rw [eB]
  clear eB eS
  have X' := c2.X
  have T' := c2.T
  obtain ⟨env', outer, A₀, base, hfr, -, -, B'⟩ := id c2.fr
  have hdp2 : dp + 1 + 30 < recursionLimit := by omega
  have hun2 : un + 3 + 200 < cLine := by omega
  k_unmd; (try dsimp only); (try k_fold)
  have hdp3 : dp + 1 + 50 < recursionLimit := by omega
  have hun3 : un + 3 + 400 < cLine := by omega
  obtain ⟨p00, p01⟩ := pair_vals
  k_steps
  refine ⟨DP, vsP, _, epP, _, rfl, rfl, by k_asm, by k_asm, by k_mem, iP, by decide, ?turn, ?fin⟩
  case turn =>
    intro g k t I oI C oC D m₂ ys h tk E' nw hC hx F N
    (try k_fold)
    k_steps
    · k_asm
    · k_asm
    · rename_i l9 q9 hq9
      simp only [List.mem_cons] at hq9
      rcases hq9 with rfl | rfl | rfl | hq9
      · exact l9.1
      · exact l9.2.1
      · exact l9.2.2.1
      · exact kst_ltOf l9.2.2.2 q9 hq9
  case fin =>
    intro D h6 tk6 ys rows F6 N6 ne6 htup
    (try dsimp only); (try k_fold)
    k_steps
    unfold Stop
    obtain ⟨kvs, hkm, hkv⟩ := tups_kvs htup
    refine dict_pairs rfl (kvs := kvs) (N6 _ List.mem_cons_self).1 ?hks ?hb ?hp ?_
    case hks =>
      have := congrArg List.length hkm
      rw [List.length_map] at this
      rw [List.size_toArray, htup.1]
      exact this
    case hb => rw [List.size_toArray, htup.1]; decide
    case hp =>
      intro i v hv
      obtain ⟨T, k, t, u, e1, e2, e3⟩ := hkv i v (by simpa using hv)
      exact ⟨T, k, t, _, e1, e2, (N6 _ (List.mem_cons_of_mem _ (List.mem_append_left _ e3))).1⟩
    intro h8 tk8 d8 up8
    have F8 : Fr h₀ L h8 m := F6.keeps up8
    have N8 : News h₀ L h8 [(L + 5, o5), (L + 4, o4), (L + 3, o3), (L + 2, o2), (L + 1, o1), (cB, ocB), (23, tabFor inB cB), (cA, ocA), (16, tabFor inA cA), (D1, listOf vs1.toArray ep1)] := fun q hq => by
      have z := N6 q (List.mem_cons_of_mem _ (List.mem_append_right rows (by simp only [List.mem_cons, List.not_mem_nil, or_false] at hq ⊢; rcases hq with h | h | h | h | h | h | h | h | h | h <;> simp [h])))
      exact ⟨up8 _ _ z.1, z.2⟩
    have lo : (h6.objs.size == sysModules) = false := F6.notModules (modules_low (Top.nolimit T'))
    have e9 := kvF_len9 hkm
    (try dsimp only); (try k_fold)
    k_steps
    unfold Stop
    refine call_len_dict (knd := intKind prog w) lo d8 (by rw [e9]; decide) ?_
    rw [e9]
    (try dsimp only); (try k_fold)
    k_steps
    unfold Stop
    refine' hnext _ _ _ ?F ?m1 ?m2 ?N
    case F => k_asm
    case m1 => assumption
    case m2 => assumption
    case N => k_asm
end
end Mine

end
/- part S8 -/
section
set_option maxRecDepth 100000
set_option maxHeartbeats 4000000
namespace Mine
local macro_rules | `(tactic| walk_at "eval Name") => `(tactic| (k_here; k_dflt (refine' nameX_L ?F ?v ?_ ?a ?b; (case F => k_asm); (case a => rfl); (case b => rfl); (case v => first | rfl | assumption); k_whole)))
local macro_rules | `(tactic| walk_at "exec For Name List cons nil") => `(tactic| (k_here; (rename Fr _ _ _ _ => lF'); (with_unfolding_all refine' For_turns lF' ?_); k_whole))
local macro_rules | `(tactic| walk_at "eval ListComp") => `(tactic| (k_here; k_dflt (refine' comp_keep ?g0 ?g1 ?g2 ?g3 ?g4 ?g5 ?g6 ?_ ?g7; (case g0 => k_asm); (case g1 => exact rfl); (case g2 => decide); (case g3 => exact rfl); (case g4 => decide); (case g5 => exact rfl); (case g6 => decide); (case g7 => (intro _; rfl)))))

theorem stop_seg8 {M : Model} {A : Around} {env : Env} {Q : Flow → Shared → Prop} {E : Value → Shared → Prop} {s : Shared} (h : Stop (wpAny M A (execs (lawB.drop 14) env) Q E s)) : wpAny M A (execs (lawB.drop 14) env) Q E s := h
local macro_rules | `(tactic| walk_at "execs cons") => `(tactic| (k_here; k_dflt (refine' stop_seg8 ?_)))
section
variable {prog : Program} {w : World} {p : Program} {loose : List Str} {mean : ExcName → Option Value} {mg mb : Str → Option Value}
  {A : Around} {h₀ : Heap} {L : Nat} {fa : Addr} {cd : Value} {m : Str → Option Value} {s : Shared} {h₁ : Heap} {tk₁ : Nat} {Q : Flow → Shared → Prop} {E : Value → Shared → Prop} {o1 o2 ocA ocB : Obj} {cA cB : Nat} {rest : List (Addr × Obj)} {v : Int} {t : Tok}
theorem seg8 {a b : Int} {ta tb : Tok} {o3 o4 o5 : Obj} {D1 : Nat} {vs1 : List Value} {ep1 : Nat} {v1 : Option Value} (c2 : Cx (hd.heap_39 w.params) p loose mean mg mb (A.deeper (lawE L fa cd)) h₀ L) (hdp : A.depth + 100 < recursionLimit) (hun : A.units + 1000 < cLine) (l0 : 23 < L ∧ 16 < L)
    (F : Fr h₀ L h₁ m) (ma : m (Str.ofString "one") = some (.int a ta)) (mb : m (Str.ofString "other") = some (.int b tb))
    (ha0 : 0 ≤ a) (ha1 : a < 64) (hb0 : 0 ≤ b) (hb1 : b < 64) (hE : PassesOwn (model prog w) (A.deeper (lawE L fa cd)) (lawE L fa cd) E) (kA : CodeOk ocA qualA) (kB : CodeOk ocB qualB) (lA : @LT.lt Nat _ (L + 5) cA) (lB : @LT.lt Nat _ (L + 5) cB)
    (N : News h₀ L h₁ [(L + 5, o5), (L + 4, o4), (L + 3, o3), (L + 2, o2), (L + 1, o1), (cB, ocB), (23, tabFor inB cB), (cA, ocA), (16, tabFor inA cA), (D1, listOf vs1.toArray ep1)])
    (i1 : IntsAre vs1 (heldL a)) (d3 : o3.data = .cell (some (.ref D1))) (q1 : @LT.lt Nat _ (L + 5) D1) (d5 : o5.data = .cell none) (d1 : o1.data = .cell v1)
    (hnext : ∀ h' tk' m' o5' (DR : Nat) x0 x1 x2 x3 epR, Fr h₀ L h' m' → m' (Str.ofString "one") = some (.int a ta) → m' (Str.ofString "other") = some (.int b tb) → News h₀ L h' [(L + 5, o5'), (L + 4, o4), (L + 3, o3), (L + 2, o2), (L + 1, o1), (cB, ocB), (23, tabFor inB cB), (cA, ocA), (16, tabFor inA cA), (D1, listOf vs1.toArray ep1), (DR, listOf [.int 0 x0, .int 1 x1, .int 3 x2, .int 11 x3].toArray epR)] → o5'.data = .cell (some (.ref DR)) → @LT.lt Nat _ (L + 5) DR → wpAny (model prog w) (A.deeper (lawE L fa cd)) (execs (lawB.drop 14) (lawE L fa cd)) Q E { s with heap := h', toks := tk' }) :
    wpAny (model prog w) (A.deeper (lawE L fa cd)) (execs (lawB.drop 11) (lawE L fa cd)) Q E { s with heap := h₁, toks := tk₁ } := by
  have hh := c2.hh
  obtain ⟨hnd, dp, frs, gd, un⟩ := A
  simp only at hdp hun
  have hh : hnd = none := hh
  subst hh
  have eB : lawB.drop 11 = lawB.drop 11 := rfl
  conv at eB => rhs; whnf
  have eS : sScope (sAt pTop 11) = sScope (sAt pTop 11) := rfl
  conv at eS => rhs; whnf
  rw [lawE, eS] at c2 hE ⊢
  rw [eB]
  clear eB eS
  have X' := c2.X
  have T' := c2.T
  obtain ⟨env', outer, A₀, base, hfr, -, -, B'⟩ := id c2.fr
  have hdp2 : dp + 1 + 30 < recursionLimit := by omega
  have hun2 : un + 3 + 200 < cLine := by omega
  k_unmd; (try dsimp only); (try k_fold)
  k_steps
  refine lot_warm (ns := [0]) c2 (by k_asm) (by k_asm) (Warm.of (by k_asm) (by k_mem) (by k_mem) (by assumption)) (by show dp + 1 + 40 < _; omega) (by show un + 3 + 300 < _; omega) ⟨_, News.get (by k_asm) (by k_mem), rfl, _, rfl⟩ (.cons _ _ .nil) (by decide) (by decide) ?_
  intro t1 h1 tk1 F1 N1
  rw [show lotF [0] = 1 from by decide +kernel]
  (try dsimp only); (try k_fold)
  k_steps
  refine lot_warm (ns := [0, 1]) (vs := [.int 0 _, .int 1 _]) c2 (by k_asm) (by k_asm) (Warm.of (by k_asm) (by k_mem) (by k_mem) (by assumption)) (by show dp + 1 + 40 < _; omega) (by show un + 3 + 300 < _; omega) ⟨_, News.get (by k_asm) (by k_mem), rfl, _, rfl⟩ (.cons _ _ (.cons _ _ .nil)) (by decide) (by decide) ?_
  intro t3 h3 tk3 F3 N3
  rw [show lotF [0, 1] = 3 from by decide +kernel]
  (try dsimp only); (try k_fold)
  k_steps
  refine lot_warm (ns := [0, 1, 3]) (vs := [.int 0 _, .int 1 _, .int 3 _]) c2 (by k_asm) (by k_asm) (Warm.of (by k_asm) (by k_mem) (by k_mem) (by assumption)) (by show dp + 1 + 40 < _; omega) (by show un + 3 + 300 < _; omega) ⟨_, News.get (by k_asm) (by k_mem), rfl, _, rfl⟩ (.cons _ _ (.cons _ _ (.cons _ _ .nil))) (by decide) (by decide) ?_
  intro t11 h11 tk11 F11 N11
  rw [show lotF [0, 1, 3] = 11 from by decide +kernel]
  (try dsimp only); (try k_fold)
  k_steps
  unfold Stop
  refine' hnext _ _ _ _ _ _ _ _ _ _ ?F ?m1 ?m2 ?N ?d ?q
  case d => assumption
  case F => k_asm
  case m1 => assumption
  case m2 => assumption
  case N => exact news_sub (by k_asm) (by k_subL)
  case q => omega
end
end Mine

end
/- part S9 -/
section
set_option maxRecDepth 100000
set_option maxHeartbeats 4000000
namespace Mine
local macro_rules | `(tactic| walk_at "idle 0") => `(tactic| skip)
local macro_rules | `(tactic| walk_at "idle 1") => `(tactic| skip)
local macro_rules | `(tactic| walk_at "idle 2") => `(tactic| skip)
local macro_rules | `(tactic| walk_at "idle 3") => `(tactic| skip)
local macro_rules | `(tactic| walk_at "idle 4") => `(tactic| skip)
local macro_rules | `(tactic| walk_at "eval Name") => `(tactic| (k_here; k_dflt (refine' nameX_L ?F ?v ?_ ?a ?b; (case F => k_asm); (case a => rfl); (case b => rfl); (case v => first | rfl | assumption); k_whole)))
local macro_rules | `(tactic| walk_at "exec For Name List cons nil") => `(tactic| (k_here; (rename Fr _ _ _ _ => lF'); (with_unfolding_all refine' For_turns lF' ?_); k_whole))
local macro_rules | `(tactic| walk_at "eval ListComp") => `(tactic| (k_here; k_dflt (refine' comp_keep ?g0 ?g1 ?g2 ?g3 ?g4 ?g5 ?g6 ?_ ?g7; (case g0 => k_asm); (case g1 => exact rfl); (case g2 => decide); (case g3 => exact rfl); (case g4 => decide); (case g5 => exact rfl); (case g6 => decide); (case g7 => (intro _; rfl)))))
def rowP (v k : Int) : Bool := !([0, 1, 3, 11].any fun x => x == k) || !decide ((heldL k).filter (fun d => !(heldL v).any fun x => x == d) = [])
theorem rowP_f {v k : Int} (h1 : ([0, 1, 3, 11].any fun x => x == k) = true) (h2 : decide ((heldL k).filter (fun d => !(heldL v).any fun x => x == d) = []) = true) : false = rowP v k := by rw [rowP, h1, h2]; rfl
theorem rowP_t {v k : Int} (h2 : decide ((heldL k).filter (fun d => !(heldL v).any fun x => x == d) = []) = false) : true = rowP v k := by rw [rowP, h2]; simp
def rowOk (v : Int) : Prop := 0 ≤ v ∧ v < 64 ∧ (heldL v).filter (rowP v) = []
section
variable {prog : Program} {w : World} {p : Program} {loose : List Str} {mean : ExcName → Option Value} {mg mb : Str → Option Value}
  {A : Around} {h₀ : Heap} {L : Nat} {fa : Addr} {cd : Value} {m : Str → Option Value} {s : Shared} {h₁ : Heap} {tk₁ : Nat} {Q : Flow → Shared → Prop} {E : Value → Shared → Prop} {o1 o2 ocA ocB : Obj} {cA cB : Nat} {rest : List (Addr × Obj)} {v : Int} {t : Tok}
local macro_rules | `(tactic| walk_at "call ref") => `(tactic| (k_here; k_dflt (refine' held_warm ?c ?F ?N ?W ?d ?u ?v0 ?v1 ?_; (case c => assumption); (case F => k_asm); (case N => k_asm); (case W => exact Warm.of (by k_asm) (by k_mem) (by k_mem) (by assumption)); (case d => assumption); (case u => assumption); (case v0 => assumption); (case v1 => assumption)); (intro D' vs' ep' h' tk' F' N' i1 l1 lD'); (try k_lt l1); (try dsimp only); (try k_fold)))
theorem turn9 {DR : Nat} {x0 x1 x2 x3 : Tok} {epR : Nat} {o5 : Obj} (c2 : Cx (hd.heap_39 w.params) p loose mean mg mb (A.deeper (lawE L fa cd)) h₀ L) (hdp : A.depth + 100 < recursionLimit) (hun : A.units + 1000 < cLine) (l0 : 23 < L ∧ 16 < L)
    (F : Fr h₀ L h₁ m) (N : News h₀ L h₁ ((L + 5, o5) :: (L + 1, o1) :: (cB, ocB) :: (23, tabFor inB cB) :: (cA, ocA) :: (16, tabFor inA cA) :: (DR, listOf [.int 0 x0, .int 1 x1, .int 3 x2, .int 11 x3].toArray epR) :: rest))
    (kA : CodeOk ocA qualA) (kB : CodeOk ocB qualB) (d1 : o1.data = .cell (some (.int v t))) (d5 : o5.data = .cell (some (.ref DR))) (hv : rowOk v)
    (hE : PassesOwn (model prog w) (A.deeper (lawE L fa cd)) (lawE L fa cd) E)
    (hret : ∀ h' tk', Fr h₀ L h' m → News h₀ L h' ((L + 5, o5) :: (L + 1, o1) :: (cB, ocB) :: (23, tabFor inB cB) :: (cA, ocA) :: (16, tabFor inA cA) :: (DR, listOf [.int 0 x0, .int 1 x1, .int 3 x2, .int 11 x3].toArray epR) :: rest) → Q .next { s with heap := h', toks := tk' }) :
    wpAny (model prog w) (A.deeper (lawE L fa cd)) (execs (sFor (sAt lawB 14)) (lawE L fa cd)) Q E { s with heap := h₁, toks := tk₁ } := by
  have hh := c2.hh
  obtain ⟨hnd, dp, frs, gd, un⟩ := A
  simp only at hdp hun
  have hh : hnd = none := hh
  subst hh
  have eB : sFor (sAt lawB 14) = sFor (sAt lawB 14) := rfl
  conv at eB => rhs; whnf
  have eS : sScope (sAt pTop 11) = sScope (sAt pTop 11) := rfl
  conv at eS => rhs; whnf
  rw [lawE, eS] at c2 hE ⊢
  rw [eB]
  clear eB eS
  have X' := c2.X
  have T' := c2.T
  obtain ⟨env', outer, A₀, base, hfr, -, -, B'⟩ := id c2.fr
  have hdp2 : dp + 1 + 30 < recursionLimit := by omega
  have hun2 : un + 3 + 200 < cLine := by omega
  obtain ⟨hv0, hv1, hv2⟩ := hv
  have iR : IntsAre [.int 0 x0, .int 1 x1, .int 3 x2, .int 11 x3] [0, 1, 3, 11] := .cons _ _ (.cons _ _ (.cons _ _ (.cons _ _ .nil)))
  k_unmd; (try dsimp only); (try k_fold)
  k_steps
  refine ⟨_, _, heldL v, _, rowP v, rfl, rfl, by k_asm, by k_asm, .inr ⟨_, by k_mem⟩, by assumption, held_len hv0 hv1, ?turn, ?fin⟩
  case turn =>
    intro k2 t2 I oI C oC D2 m2 ys2 h8 tk8 E8 hk2 hC2 hx2 F8 N8 off8 ne8
    have e0 : 0 ≤ k2 := ((held_fact hv0 hv1).2.1 k2 hk2).1
    have e1 : k2 < 64 := Int.lt_of_le_of_lt ((held_fact hv0 hv1).2.1 k2 hk2).2 (by decide)
    (try k_fold)
    k_steps
    · refine ⟨_, _, heldL k2, _, (fun d => !(heldL v).any fun x => x == d), rfl, rfl, by k_asm, by k_asm, .inr ⟨_, by k_mem⟩, by assumption, held_len e0 e1, ?turn3, ?fin3⟩
      case turn3 =>
        intro k3 t3 I3 oI3 C3 oC3 D5 m3 ys3 h3 tk3 E3 hk3 hC3 hx3 F3 N3 off3 ne3
        (try k_fold)
        k_steps
        · k_asm
        · exact news_tail (by k_asm)
      case fin3 =>
        intro D6 h9 tk9 ys3 F9 N9 ne9 i9
        (try dsimp only); (try k_fold)
        k_steps
        · exact rowP_f (by assumption) (by assumption)
        · k_asm
        · exact news_tail (news_tail (news_tail (by k_asm)))
        · exact rowP_t (by assumption)
        · k_asm
        · exact news_tail (news_tail (news_tail (by k_asm)))
    · rename_i hb
      rw [rowP, hb]; rfl
    · k_asm
    · k_asm
  case fin =>
    intro D6 h9 tk9 ys3 F9 N9 ne9 i9
    rw [hv2] at i9
    cases i9
    (try dsimp only); (try k_fold)
    k_steps
    exact hret _ _ (by k_asm) (news_tail (news_tail (news_tail (by k_asm))))
end
end Mine

end
/- part S9b -/
section
set_option maxRecDepth 100000
set_option maxHeartbeats 4000000
namespace Mine
local macro_rules | `(tactic| walk_at "idle 0") => `(tactic| skip)
local macro_rules | `(tactic| walk_at "idle 1") => `(tactic| skip)
local macro_rules | `(tactic| walk_at "idle 2") => `(tactic| skip)
local macro_rules | `(tactic| walk_at "idle 3") => `(tactic| skip)
local macro_rules | `(tactic| walk_at "idle 4") => `(tactic| skip)
local macro_rules | `(tactic| walk_at "idle 5") => `(tactic| skip)
local macro_rules | `(tactic| walk_at "idle 6") => `(tactic| skip)
local macro_rules | `(tactic| walk_at "idle 7") => `(tactic| skip)
local macro_rules | `(tactic| walk_at "idle 8") => `(tactic| skip)
local macro_rules | `(tactic| walk_at "idle 9") => `(tactic| skip)
local macro_rules | `(tactic| walk_at "eval Name") => `(tactic| (k_here; k_dflt (refine' nameX_L ?F ?v ?_ ?a ?b; (case F => k_asm); (case a => rfl); (case b => rfl); (case v => first | rfl | assumption); k_whole)))
local macro_rules | `(tactic| walk_at "exec For Name List cons nil") => `(tactic| (k_here; (rename Fr _ _ _ _ => lF'); (with_unfolding_all refine' For_turns lF' ?_); k_whole))
local macro_rules | `(tactic| walk_at "eval ListComp") => `(tactic| (k_here; k_dflt (refine' comp_keep ?g0 ?g1 ?g2 ?g3 ?g4 ?g5 ?g6 ?_ ?g7; (case g0 => k_asm); (case g1 => exact rfl); (case g2 => decide); (case g3 => exact rfl); (case g4 => decide); (case g5 => exact rfl); (case g6 => decide); (case g7 => (intro _; rfl)))))
local macro_rules | `(tactic| walk_at "exec For Name Name cons nil") => `(tactic| (k_here; (rename Fr _ _ _ _ => lF'); (with_unfolding_all refine' For_turns lF' ?_); k_whole))
theorem body_stop9 {M : Model} {A : Around} {env : Env} {Q : Flow → Shared → Prop} {E : Value → Shared → Prop} {s : Shared} (h : Stop (wpAny M A (execs (sFor (sAt lawB 14)) env) Q E s)) : wpAny M A (execs (sFor (sAt lawB 14)) env) Q E s := h
local macro_rules | `(tactic| walk_at "execs cons") => `(tactic| (k_here; k_dflt (refine' body_stop9 ?_)))
section
variable {h₀ h : Heap} {L : Addr} {a b c d e f g x y t u z : Addr × Obj}
theorem perm8 {r : List (Addr × Obj)} (N : News h₀ L h (a :: b :: c :: d :: e :: f :: g :: x :: r)) : News h₀ L h (b :: c :: d :: e :: f :: g :: x :: a :: r) := fun q hq => N q (by simp only [List.mem_cons] at hq ⊢; rcases hq with h | h | h | h | h | h | h | h | h <;> simp [h])
theorem perm12 (N : News h₀ L h [a, b, c, d, e, f, g, x, y, t, u, z]) : News h₀ L h (b :: f :: g :: x :: y :: t :: z :: [a, c, d, e, u]) := fun q hq => N q (by simp only [List.mem_cons, List.not_mem_nil, or_false] at hq ⊢; rcases hq with h | h | h | h | h | h | h | h | h | h | h | h <;> simp [h])
end
theorem row_oks : rowOk 0 ∧ rowOk 1 ∧ rowOk 3 ∧ rowOk 11 := by
  refine ⟨⟨by decide, by decide, ?_⟩, ⟨by decide, by decide, ?_⟩, ⟨by decide, by decide, ?_⟩, ⟨by decide, by decide, ?_⟩⟩ <;> decide +kernel

theorem stop_seg9 {M : Model} {A : Around} {env : Env} {Q : Flow → Shared → Prop} {E : Value → Shared → Prop} {s : Shared} (h : Stop (wpAny M A (execs (lawB.drop 15) env) Q E s)) : wpAny M A (execs (lawB.drop 15) env) Q E s := h
local macro_rules | `(tactic| walk_at "execs cons") => `(tactic| (k_here; k_dflt (refine' stop_seg9 ?_)))
section
variable {prog : Program} {w : World} {p : Program} {loose : List Str} {mean : ExcName → Option Value} {mg mb : Str → Option Value}
  {A : Around} {h₀ : Heap} {L : Nat} {fa : Addr} {cd : Value} {m : Str → Option Value} {s : Shared} {h₁ : Heap} {tk₁ : Nat} {Q : Flow → Shared → Prop} {E : Value → Shared → Prop} {o1 o2 ocA ocB : Obj} {cA cB : Nat} {rest : List (Addr × Obj)} {v : Int} {t : Tok}
theorem seg9 {a b : Int} {ta tb : Tok} {o3 o4 o5 : Obj} {D1 DR : Nat} {vs1 : List Value} {ep1 epR : Nat} {v1 : Option Value} {x0 x1 x2 x3 : Tok} (c2 : Cx (hd.heap_39 w.params) p loose mean mg mb (A.deeper (lawE L fa cd)) h₀ L) (hdp : A.depth + 100 < recursionLimit) (hun : A.units + 1000 < cLine) (l0 : 23 < L ∧ 16 < L)
    (F : Fr h₀ L h₁ m) (ma : m (Str.ofString "one") = some (.int a ta)) (mb : m (Str.ofString "other") = some (.int b tb))
    (ha0 : 0 ≤ a) (ha1 : a < 64) (hb0 : 0 ≤ b) (hb1 : b < 64) (hE : PassesOwn (model prog w) (A.deeper (lawE L fa cd)) (lawE L fa cd) E) (kA : CodeOk ocA qualA) (kB : CodeOk ocB qualB) (lA : @LT.lt Nat _ (L + 5) cA) (lB : @LT.lt Nat _ (L + 5) cB)
    (N : News h₀ L h₁ [(L + 5, o5), (L + 4, o4), (L + 3, o3), (L + 2, o2), (L + 1, o1), (cB, ocB), (23, tabFor inB cB), (cA, ocA), (16, tabFor inA cA), (D1, listOf vs1.toArray ep1), (DR, listOf [.int 0 x0, .int 1 x1, .int 3 x2, .int 11 x3].toArray epR)])
    (i1 : IntsAre vs1 (heldL a)) (d3 : o3.data = .cell (some (.ref D1))) (q1 : @LT.lt Nat _ (L + 5) D1) (qR : @LT.lt Nat _ (L + 5) DR) (d5 : o5.data = .cell (some (.ref DR))) (d1 : o1.data = .cell v1)
    (hnext : ∀ h' tk' m' o1', Fr h₀ L h' m' → m' (Str.ofString "one") = some (.int a ta) → m' (Str.ofString "other") = some (.int b tb) → News h₀ L h' [(L + 5, o5), (L + 4, o4), (L + 3, o3), (L + 2, o2), (L + 1, o1'), (cB, ocB), (23, tabFor inB cB), (cA, ocA), (16, tabFor inA cA), (D1, listOf vs1.toArray ep1)] → wpAny (model prog w) (A.deeper (lawE L fa cd)) (execs (lawB.drop 15) (lawE L fa cd)) Q E { s with heap := h', toks := tk' }) :
    wpAny (model prog w) (A.deeper (lawE L fa cd)) (execs (lawB.drop 14) (lawE L fa cd)) Q E { s with heap := h₁, toks := tk₁ } := by
  have hh := c2.hh
  obtain ⟨hnd, dp, frs, gd, un⟩ := A
  simp only at hdp hun
  have hh : hnd = none := hh
  subst hh
  have eB : lawB.drop 14 = lawB.drop 14 := rfl
  conv at eB => rhs; whnf
  have eS : sScope (sAt pTop 11) = sScope (sAt pTop 11) := rfl
  conv at eS => rhs; whnf
  rw [lawE, eS] at c2 hE ⊢
  rw [eB]
  clear eB eS
  have X' := c2.X
  have T' := c2.T
  obtain ⟨env', outer, A₀, base, hfr, -, -, B'⟩ := id c2.fr
  have hdp2 : dp + 1 + 30 < recursionLimit := by omega
  have hun2 : un + 3 + 200 < cLine := by omega
  k_unmd; (try dsimp only); (try k_fold)
  have r0 := row_oks.1
  have r1 := row_oks.2.1
  have r3 := row_oks.2.2.1
  have r11 := row_oks.2.2.2
  k_steps
  refine turn9 (rest := [_, _, _, _, _]) c2 hdp hun l0 (by k_asm) (perm12 (by k_asm)) kA kB (by k_asm) d5 r0 hE ?_
  intro hN0 tkN0 FN0 NN0
  (try dsimp only); (try k_fold)
  k_steps
  refine turn9 (rest := [_, _, _, _, _]) c2 hdp hun l0 (by k_asm) (perm8 (by k_asm)) kA kB (by k_asm) d5 r1 hE ?_
  intro hN1 tkN1 FN1 NN1
  (try dsimp only); (try k_fold)
  k_steps
  refine turn9 (rest := [_, _, _, _, _]) c2 hdp hun l0 (by k_asm) (perm8 (by k_asm)) kA kB (by k_asm) d5 r3 hE ?_
  intro hN2 tkN2 FN2 NN2
  (try dsimp only); (try k_fold)
  k_steps
  refine turn9 (rest := [_, _, _, _, _]) c2 hdp hun l0 (by k_asm) (perm8 (by k_asm)) kA kB (by k_asm) d5 r11 hE ?_
  intro hN3 tkN3 FN3 NN3
  (try dsimp only); (try k_fold)
  k_steps
  unfold Stop
  refine' hnext _ _ _ _ ?F ?m1 ?m2 ?N
  case F => k_asm
  case m1 => assumption
  case m2 => assumption
  case N => exact news_sub (by k_asm) (by k_subL)
end
end Mine

end
/- part S10 -/
section
set_option maxRecDepth 100000
set_option maxHeartbeats 1000000
namespace Mine
local macro_rules | `(tactic| walk_at "eval Name") => `(tactic| (k_here; k_dflt (refine' nameX_L ?F ?v ?_ ?a ?b; (case F => k_asm); (case a => rfl); (case b => rfl); (case v => first | rfl | assumption); k_whole)))
local macro_rules | `(tactic| walk_at "exec For Name List cons nil") => `(tactic| (k_here; (rename Fr _ _ _ _ => lF'); (with_unfolding_all refine' For_turns lF' ?_); k_whole))
local macro_rules | `(tactic| walk_at "eval ListComp") => `(tactic| (k_here; k_dflt (refine' comp_keep ?g0 ?g1 ?g2 ?g3 ?g4 ?g5 ?g6 ?_ ?g7; (case g0 => k_asm); (case g1 => exact rfl); (case g2 => decide); (case g3 => exact rfl); (case g4 => decide); (case g5 => exact rfl); (case g6 => decide); (case g7 => (intro _; rfl)))))
local macro_rules | `(tactic| walk_at "eval ListComp") => `(tactic| (k_here; k_dflt (refine' comp_two ?g0 ?clos ?cell ?kind ?names ?hx ?hy ?hxy ?hs2 ?_ ?hs; (case g0 => k_asm); (case clos => exact rfl); (case cell => decide); (case kind => exact rfl); (case names => decide); (case hx => exact rfl); (case hy => exact rfl); (case hxy => decide); (case hs2 => (intro _ _; rfl)); (case hs => (intro _; rfl)))))
local macro_rules | `(tactic| walk_at "pyIter ref") => `(tactic| (k_here; refine stop ?_))
def deepG (a : Int) (i : Nat) : List Int := heldL ((heldL a).getD i 0)
def deepF (a : Int) : List Int := (List.range (heldL a).length).flatMap (deepG a)
theorem deep_facts : ∀ n : Fin 64, (∀ k ∈ deepF (n.val : Int), 0 ≤ k ∧ k ≤ 15) ∧ (deepF (n.val : Int)).length ≤ 100 ∧ lotF (deepF (n.val : Int)) < 2 * mx ([1] ++ heldL (n.val : Int)) := by decide +kernel
theorem deep_lens : ∀ n : Fin 64, ∀ i, i ≤ (heldL (n.val : Int)).length → ((List.range i).flatMap (deepG (n.val : Int))).length ≤ 1000 := by decide +kernel
theorem deep_fact {a : Int} (h0 : 0 ≤ a) (h1 : a < 64) : ((∀ k ∈ deepF a, 0 ≤ k ∧ k ≤ 15) ∧ (deepF a).length ≤ 100 ∧ lotF (deepF a) < 2 * mx ([1] ++ heldL a)) ∧ ∀ i, i ≤ (heldL a).length → ((List.range i).flatMap (deepG a)).length ≤ 1000 := by
  obtain ⟨n, rfl⟩ := Int.eq_ofNat_of_zero_le h0
  exact ⟨deep_facts ⟨n, by omega⟩, deep_lens ⟨n, by omega⟩⟩
theorem mx_le {ns : List Int} {M : Int} (h1 : (1 : Int) ∈ ns) (b : ∀ x ∈ ns, x ≤ M) : mx ns ≤ M := by
  rcases foldl_max_mem ns 0 with h | h
  · have := b 1 h1
    unfold mx
    omega
  · exact b _ h
theorem perm_d {h₀ h : Heap} {L : Addr} {d a b c : Addr × Obj} {r : List (Addr × Obj)} (N : News h₀ L h (d :: a :: b :: c :: r)) : News h₀ L h (a :: b :: c :: d :: r) := fun q hq => N q (by simp only [List.mem_cons] at hq ⊢; rcases hq with h | h | h | h | h <;> simp [h])

section
variable {prog : Program} {w : World} {p : Program} {loose : List Str} {mean : ExcName → Option Value} {mg mb : Str → Option Value}
  {A : Around} {h₀ : Heap} {L : Nat} {fa : Addr} {cd : Value} {m : Str → Option Value} {s : Shared} {h₁ : Heap} {tk₁ : Nat} {Q : Flow → Shared → Prop} {E : Value → Shared → Prop} {o1 o2 ocA ocB : Obj} {cA cB : Nat} {rest : List (Addr × Obj)} {v : Int} {t : Tok}
theorem seg10 {a b : Int} {ta tb : Tok} {o3 o4 o5 : Obj} {D1 : Nat} {vs1 : List Value} {ep1 : Nat} (c2 : Cx (hd.heap_39 w.params) p loose mean mg mb (A.deeper (lawE L fa cd)) h₀ L) (hdp : A.depth + 100 < recursionLimit) (hun : A.units + 1000 < cLine) (l0 : 23 < L ∧ 16 < L)
    (F : Fr h₀ L h₁ m) (ma : m (Str.ofString "one") = some (.int a ta)) (mb : m (Str.ofString "other") = some (.int b tb))
    (ha0 : 0 ≤ a) (ha1 : a < 64) (hb0 : 0 ≤ b) (hb1 : b < 64) (hE : PassesOwn (model prog w) (A.deeper (lawE L fa cd)) (lawE L fa cd) E) (kA : CodeOk ocA qualA) (kB : CodeOk ocB qualB) (lA : @LT.lt Nat _ (L + 5) cA) (lB : @LT.lt Nat _ (L + 5) cB)
    (N : News h₀ L h₁ [(L + 5, o5), (L + 4, o4), (L + 3, o3), (L + 2, o2), (L + 1, o1), (cB, ocB), (23, tabFor inB cB), (cA, ocA), (16, tabFor inA cA), (D1, listOf vs1.toArray ep1)])
    (i1 : IntsAre vs1 (heldL a)) (d3 : o3.data = .cell (some (.ref D1))) (q1 : @LT.lt Nat _ (L + 5) D1)
    (hnext : ∀ h' tk' m', Fr h₀ L h' m' → News h₀ L h' [(23, tabFor inB cB), (16, tabFor inA cA)] → Q (.ret (.bool true)) { s with heap := h', toks := tk' }) :
    wpAny (model prog w) (A.deeper (lawE L fa cd)) (execs (lawB.drop 15) (lawE L fa cd)) Q E { s with heap := h₁, toks := tk₁ } := by
  have hh := c2.hh
  obtain ⟨hnd, dp, frs, gd, un⟩ := A
  simp only at hdp hun
  have hh : hnd = none := hh
  subst hh
  have eB : lawB.drop 15 = lawB.drop 15 := rfl
  conv at eB => rhs; whnf
  have eS : sScope (sAt pTop 11) = sScope (sAt pTop 11) := rfl
  conv at eS => rhs; whnf
  rw [lawE, eS] at c2 hE ⊢
  rw [eB]
  clear eB eS
  have X' := c2.X
  have T' := c2.T
  obtain ⟨env', outer, A₀, base, hfr, -, -, B'⟩ := id c2.fr
  have hdp2 : dp + 1 + 30 < recursionLimit := by omega
  have hun2 : un + 3 + 200 < cLine := by omega
  k_unmd; (try dsimp only); (try k_fold)
  k_steps
  unfold Stop
  refine iter_list3 (by k_asm) (by k_asm) (k := ep1) (vs := vs1) (by k_mem) ?_
  intro I h2 hst F2 N2 hIL hI₀ ltI
  have ltI1 : @LT.lt Nat _ D1 I := ltI (D1, _) (by k_mem)
  refine ⟨I, vs1.toArray.size, _, _, [(D1, listOf vs1.toArray ep1)], _, deepG a, rfl, it_list rfl (Nat.ne_of_lt ltI1), hst, F2, N2, (fun q hq => by rw [List.mem_singleton.mp hq]; k_mem), hIL, hI₀, (fun p hp => Nat.ne_of_lt (ltI p hp)), ?len, ?turn, ?fin⟩
  case len =>
    intro i hi
    rw [List.size_toArray, i1.length] at hi
    exact (deep_fact ha0 ha1).2 i hi
  case turn =>
    intro i v oI oC C D m₂ ys h tk E' hi hP hC hx F N off ne
    obtain ⟨k, t1, rfl, hk⟩ := IntsAre.at i1 i v (by simpa using hP)
    have hkm := (held_fact ha0 ha1).2.1 k (List.mem_of_getElem? hk)
    have hk0 : 0 ≤ k := hkm.1
    have hk1 : k < 64 := by omega
    have hg : deepG a i = heldL k := by rw [deepG, List.getD_eq_getElem?_getD, hk]; rfl
    rw [hg]
    (try k_fold)
    k_steps
    refine held_warm c2 (by k_asm) (by k_asm) (Warm.of (by k_asm) (by k_mem) (by k_mem) (by assumption)) (by show dp + 1 + 30 < _; omega) (by show un + 3 + 200 < _; omega) hk0 hk1 ?_
    intro D7 vs7 ep7 h7 tk7 F7 N7 i7 lt7 ltL7
    refine iter_list3 F7 N7 List.mem_cons_self ?_
    intro I2 h3 hst2 F3 N3 hI2L hI2₀ ltI2
    have l7 := ltI2 (D7, _) List.mem_cons_self
    have lI := lt7 (I, oI) List.mem_cons_self
    have lC := lt7 (C, oC) (List.mem_cons_of_mem _ List.mem_cons_self)
    have lD := lt7 (D, LCg.lst ys) (List.mem_cons_of_mem _ (List.mem_cons_of_mem _ List.mem_cons_self))
    refine ⟨_, _, I2, vs7.toArray.size, _, _, [(D7, listOf vs7.toArray ep7)], _, rfl, rfl, it_list rfl (Nat.ne_of_lt l7), by rw [List.size_toArray, i7.length], hst2, F3, perm_d N3, (fun q hq => List.mem_cons_of_mem _ hq), (fun q hq => by rw [List.mem_singleton.mp hq]; exact List.mem_cons_self), (fun p hp => ?_), ⟨Nat.ne_of_gt (Nat.lt_trans lI l7), Nat.ne_of_gt (Nat.lt_trans lC l7), Nat.ne_of_gt (Nat.lt_trans lD l7), hI2L⟩, hI2₀, ?elt⟩
    · rcases List.mem_cons.mp hp with rfl | hp
      · exact ⟨Nat.ne_of_lt l7, Nat.ne_of_gt lI, Nat.ne_of_gt lC, Nat.ne_of_gt lD⟩
      · exact ⟨Nat.ne_of_lt (ltI2 p (List.mem_cons_of_mem _ (List.mem_cons_of_mem _ (List.mem_cons_of_mem _ (List.mem_cons_of_mem _ hp))))), off p hp⟩
    case elt =>
      intro j v2 oI2 oC' m₃ zs h4 tk4 E4 hP2 hj hC' hy' hx' F4 N4
      obtain ⟨a2, t2, rfl, ha2⟩ := IntsAre.at i7 j v2 (by simpa using hP2)
      (try k_fold)
      k_steps
      · k_asm
      · k_asm
  case fin =>
    intro D h' tk' ys F6 N6 lt6 hLD i6
    have i6' : IntsAre ys (deepF a) := by rw [List.size_toArray, i1.length] at i6; exact i6
    (try dsimp only); (try k_fold)
    k_steps
    refine lot_warm (ns := deepF a) c2 (by k_asm) (by k_asm) (Warm.of (by k_asm) (by k_mem) (by k_mem) (by assumption)) (by show dp + 1 + 40 < _; omega) (by show un + 3 + 300 < _; omega) ⟨_, News.get (by k_asm) (by k_mem), rfl, _, rfl⟩ i6' (deep_fact ha0 ha1).1.1 (deep_fact ha0 ha1).1.2.1 ?_
    intro t8 h8 tk8 F8 N8
    have hdl := (deep_fact ha0 ha1).1.2.2
    have hll := held_len6 ha0 ha1
    (try dsimp only); (try k_fold)
    k_steps
    rename_i M9 t9 k9 F9 N9 a9 b9
    have hM : lotF (deepF a) < 2 * M9 := Int.lt_of_lt_of_le hdl (by have := mx_le (by simp) b9; omega)
    rw [decide_eq_true hM]
    exact hnext _ _ _ F9 (news_sub N9 (by k_subL))
end
end Mine

end
/- part LC -/
section
set_option maxRecDepth 100000
set_option maxHeartbeats 4000000
namespace Mine
section
variable {prog : Program} {w : World} {p : Program} {loose : List Str} {mean : ExcName → Option Value} {mg mb : Str → Option Value}
  {A : Around} {h₀ : Heap} {L : Nat} {fa : Addr} {cd : Value} {m : Str → Option Value} {s : Shared} {h₁ : Heap} {tk₁ : Nat} {Q : Flow → Shared → Prop} {E : Value → Shared → Prop} {o1 o2 o3 o4 o5 : Obj} {a b c : Int} {ta tb tc : Tok}
theorem law_chain (c2 : Cx (hd.heap_39 w.params) p loose mean mg mb (A.deeper (lawE L fa cd)) h₀ L) (hdp : A.depth + 100 < recursionLimit) (hun : A.units + 1000 < cLine) (l0 : 23 < L ∧ 16 < L)
    (F : Fr h₀ L h₁ m) (N : News h₀ L h₁ [(L + 5, o5), (L + 4, o4), (L + 3, o3), (L + 2, o2), (L + 1, o1), (23, tabObj #[]), (16, tabObj #[])])
    (d1 : o1.data = .cell none) (d2 : o2.data = .cell none) (d3 : o3.data = .cell none) (d4 : o4.data = .cell none) (d5 : o5.data = .cell none) (ma : m (Str.ofString "one") = some (.int a ta)) (mb : m (Str.ofString "other") = some (.int b tb)) (mc : m (Str.ofString "third") = some (.int c tc))
    (ha0 : 0 ≤ a) (ha1 : a < 64) (hb0 : 0 ≤ b) (hb1 : b < 64) (hc0 : 0 ≤ c) (hc1 : c < 64) (hE : PassesOwn (model prog w) (A.deeper (lawE L fa cd)) (lawE L fa cd) E)
    (hret : ∀ h' tk' m' (cA cB : Nat), Fr h₀ L h' m' → News h₀ L h' [(23, tabFor inB cB), (16, tabFor inA cA)] → Q (.ret (.bool true)) { s with heap := h', toks := tk' }) :
    wpAny (model prog w) (A.deeper (lawE L fa cd)) (execs (lawB.drop 1) (lawE L fa cd)) Q E { s with heap := h₁, toks := tk₁ } := by
  show wpAny _ _ (execs (sAt lawB 1 :: lawB.drop 2) _) _ _ _
  refine wpAny_execs_cons ?_
  refine seg1 c2 hdp hun l0 F N d1 d2 ma mb mc ha0 ha1 hb0 hb1 hc0 hc1 hE fun h2 tk2 o1' o2' cA ocA cB ocB v1 v2 F2 N2 kA kB lA lB e1 e2 => ?_
  dsimp only
  refine seg2 c2 hdp hun l0 F2 ma mb ha0 ha1 hb0 hb1 hE kA kB lA lB N2 d3 d4 fun h3 tk3 m3 o3' o4' D1 D2 vs1 ep1 vs2 ep2 tt F3 ma3 mb3 mbo N3 i1 i2 d3' d4' q1 q2 => ?_
  refine seg3 c2 hdp hun l0 F3 ma3 mb3 ha0 ha1 hb0 hb1 hE kA kB lA lB mbo N3 i1 i2 d3' d4' q1 q2 fun h4 tk4 F4 N4 => ?_
  refine seg4 (tt := tt) c2 hdp hun l0 F4 ma3 mb3 ha0 ha1 hb0 hb1 hE kA kB lA lB N4 i1 i2 d3' d4' q1 q2 fun h5 tk5 F5 N5 => ?_
  refine seg5 c2 hdp hun l0 F5 ma3 mb3 ha0 ha1 hb0 hb1 hE kA kB lA lB (news_sub N5 (by k_subL)) i1 d3' q1 fun h6 tk6 m6 D5 vs5 ep5 F6 ma6 mb6 mo6 N6 i5 => ?_
  refine seg6 c2 hdp hun l0 F6 ma6 mb6 ha0 ha1 hb0 hb1 hE kA kB lA lB mo6 N6 i1 d3' q1 i5 fun h7 tk7 m7 F7 ma7 mb7 N7 => ?_
  refine seg7 c2 hdp hun l0 F7 ma7 mb7 ha0 ha1 hb0 hb1 hE kA kB lA lB N7 i1 d3' q1 fun h8 tk8 m8 DP vsP epP F8 ma8 mb8 mp iP N8 => ?_
  refine seg7b c2 hdp hun l0 F8 ma8 mb8 ha0 ha1 hb0 hb1 hE kA kB lA lB mp iP N8 i1 d3' q1 fun h9 tk9 m9 F9 ma9 mb9 N9 => ?_
  refine seg8 c2 hdp hun l0 F9 ma9 mb9 ha0 ha1 hb0 hb1 hE kA kB lA lB N9 i1 d3' q1 d5 e1 fun h10 tk10 m10 o5' DR x0 x1 x2 x3 epR F10 ma10 mb10 N10 d5' qR => ?_
  refine seg9 c2 hdp hun l0 F10 ma10 mb10 ha0 ha1 hb0 hb1 hE kA kB lA lB N10 i1 d3' q1 qR d5' e1 fun h11 tk11 m11 o1'' F11 ma11 mb11 N11 => ?_
  exact seg10 c2 hdp hun l0 F11 ma11 mb11 ha0 ha1 hb0 hb1 hE kA kB lA lB N11 i1 d3' q1 fun h' tk' m' F' N' => hret h' tk' m' _ _ F' N'
end
end Mine

end
/- part G0 -/
section
set_option maxRecDepth 100000
set_option maxHeartbeats 4000000
namespace Mine
local macro_rules | `(tactic| walk_at "idle 0") => `(tactic| skip)
local macro_rules | `(tactic| walk_at "idle 1") => `(tactic| skip)
local macro_rules | `(tactic| walk_at "idle 2") => `(tactic| skip)
local macro_rules | `(tactic| walk_at "idle 3") => `(tactic| skip)
local macro_rules | `(tactic| walk_at "idle 4") => `(tactic| skip)
local macro_rules | `(tactic| walk_at "idle 5") => `(tactic| skip)
theorem stop_1 {M : Model} {A : Around} {env : Env} {Q : Flow → Shared → Prop} {E : Value → Shared → Prop} {s : Shared} (h : Stop (wpAny M A (execs (lawB.drop 1) env) Q E s)) : wpAny M A (execs (lawB.drop 1) env) Q E s := h
/- the subscript of a made list is read as that of a name's: said here, since the library's own line for it stands last and a line ahead of it costs 7 GB -/
local macro_rules | `(tactic| walk_at "subscriptTail BinOp") => `(tactic| (k_here; k_dflt (refine kba_turn (value' := Expr.Name (Str.ofString "_") ⟨0, 0, 0, 0⟩) (fun _ => rfl) ?_)))
local macro_rules | `(tactic| walk_at "execs cons") => `(tactic| (k_here; k_dflt (refine' stop_1 ?_)))
theorem three_ints {ns : List Int} : ∃ a b c : Int, (ns ++ [0, 0, 0]).take 3 = [a, b, c] := by
  match ns with
  | [] => exact ⟨0, 0, 0, rfl⟩
  | [x] => exact ⟨x, 0, 0, rfl⟩
  | [x, y] => exact ⟨x, y, 0, rfl⟩
  | x :: y :: z :: r => exact ⟨x, y, z, rfl⟩
theorem three_of {ys : List Value} {ns : List Int} (h : IntsAre ys (((ns ++ [0, 0, 0]).take 3).map fun k => (if k < 0 then -k else k).fmod 64)) :
    ∃ (a b c : Int) (ta tb tc : Tok), ys = [.int a ta, .int b tb, .int c tc] ∧ (0 ≤ a ∧ a < 64) ∧ (0 ≤ b ∧ b < 64) ∧ (0 ≤ c ∧ c < 64) := by
  obtain ⟨x, y, z, e⟩ := three_ints (ns := ns)
  rw [e] at h
  have bd : ∀ k : Int, 0 ≤ (if k < 0 then -k else k).fmod 64 ∧ (if k < 0 then -k else k).fmod 64 < 64 := fun k =>
    ⟨Int.fmod_nonneg_of_pos _ (by decide), Int.fmod_lt_of_pos _ (by decide)⟩
  cases h with
  | cons _ ta h =>
    cases h with
    | cons _ tb h =>
      cases h with
      | cons _ tc h =>
        cases h
        exact ⟨_, _, _, ta, tb, tc, rfl, bd x, bd y, bd z⟩
theorem lawgo : PySem.Challenge.rw_hi0002_01.Holds := hd (by
  k_go0
  (all_goals try k_fold)
  k_steps
  obtain ⟨a, b, c, ta, tb, tc, rfl, ⟨ha0, ha1⟩, ⟨hb0, hb1⟩, hc0, hc1⟩ := three_of (by assumption)
  (try dsimp only); (try k_fold)
  k_steps
  unfold Stop
  refine' law_chain (a := a) (b := b) (c := c) (ta := ta) (tb := tb) (tc := tc) ?c2 ?hdp ?hun ?l0 ?F ?N ?d1 ?d2 ?d3 ?d4 ?d5 ?ma ?mb ?mc ha0 ha1 hb0 hb1 hc0 hc1 ?hE ?hret
  case c2 => exact ⟨rfl, ⟨_, _, _, _, rfl, rfl, rfl, by assumption⟩, by assumption, by assumption, by assumption, by assumption⟩
  case hdp => decide
  case hun => decide
  case l0 => assumption
  case F => k_asm
  case N => exact news_sub (by k_asm) (by k_subL)
  case ma => rfl
  case mb => rfl
  case mc => rfl
  case d1 => assumption
  case d2 => assumption
  case d3 => assumption
  case d4 => assumption
  case d5 => assumption
  case hE => passes_own
  case hret =>
    intro h9 tk9 m9 cA cB F9 N9
    refine And.intro ?g1 ⟨GrownAt.of N9 (by k_mem), GrownAt.of N9 (by k_mem), True.intro⟩
    case g1 =>
      wrow_close)
end Mine

end
theorem PySem.Challenge.cw_hi0002_01_holds : PySem.Challenge.rw_hi0002_01.Holds := by
  exact Mine.lawgo
