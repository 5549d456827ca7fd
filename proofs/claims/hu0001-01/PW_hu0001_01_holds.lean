import PyProof.Rows.All
import Wide.All
import OpenK.AllK
import Wide.FinOn
import PySem.Challenge.RW_hu0001_01
set_option Elab.async false
section
open PySem PySem.W PyProof.Rows
set_option maxRecDepth 100000
namespace Mine
set_option maxHeartbeats 8000000 in
open_top hd for PySem.Challenge.rw_hu0001_01
end Mine
end
section
open PySem PySem.W PyProof.Rows
set_option maxRecDepth 100000
namespace Mine
theorem intBits_zero : Builtin.Int.intBits 0 = 0 := by decide
theorem size_is (n : Int) (k : Nat) (h : Builtin.Int.intBits n = k) : ((Builtin.Int.intBits n : Int) + 1 - 1).fdiv 1 = (k : Int) := by
  rw [h]; simp
section
variable {prog : Program} {w : World} {A : Around} {E : Value → Shared → Prop} {s : Shared} {h₀ : Heap} {L : Addr} {m : Str → Option Value} {news : List (Addr × Obj)} {l : Addr} {c : Nat} {v : Value} {x : Int} {u : Tok} {Q : Value → Shared → Prop}
theorem flat_one (v : Value) (k : Nat) : (List.replicate k [v]).flatten = List.replicate k v := by
  induction k with
  | zero => rfl
  | succ k ih => rw [List.replicate_succ, List.flatten_cons, ih, List.replicate_succ]; rfl
theorem mul_one_item (Fm : Fr h₀ L s.heap m) (N : News h₀ L s.heap news) (hm : (l, W.listOf [v].toArray c) ∈ news) (k : Nat) (hk : x = (k : Int)) (hsz : k ≤ 256)
    (h : ∀ D h', Fr h₀ L h' m → News h₀ L h' ((D, W.listOf (List.replicate k v).toArray 0) :: news) → (∀ p ∈ news, p.1 < D) → Q (.ref D) { s with heap := h' }) : wpAny (model prog w) A (binaryOp .Mult (.ref l) (.int x u)) Q E s := by
  subst hk
  refine KMa.mul Fm N (News.isList N hm) (by omega) (by omega) (by simp; omega) (by rw [Int.toNat_natCast]; exact flat_one v k) h
end
end Mine
namespace Mine
theorem ne_of_allLt {d b : Nat} {l : List (Addr × Obj)} (h : AllLt b l) (hb : b ≤ d) : ∀ p ∈ l, p.1 ≠ d := fun p hp e => by
  have h2 : @LT.lt Nat _ p.1 b := kst_ltOf h p hp
  have h3 : @LT.lt Nat _ p.1 d := Nat.lt_of_lt_of_le h2 hb
  exact absurd h3 (e ▸ Nat.lt_irrefl _)
end Mine
end
section
open PySem PySem.W PyProof.Rows
set_option maxRecDepth 100000
namespace Mine
def digs (x k : Nat) : List Int := (List.range k).map (fun i => (((x >>> i) % 2 : Nat) : Int))
def wr (ns : List Int) (l k : Nat) (x : Nat) : List Int := ns.take l ++ digs x k ++ ns.drop (l + k)
theorem digs_length (x k : Nat) : (digs x k).length = k := by simp [digs]
theorem wr_length {ns : List Int} {l k x : Nat} (h : l + k ≤ ns.length) : (wr ns l k x).length = ns.length := by
  simp [wr, digs_length]; omega
theorem xor_low : ∀ x < 32, ∀ a < 6, Builtin.bitXor ((x : Nat) : Int) (((x / 2 ^ a : Nat) : Int) * 2 ^ a) = ((x % 2 ^ a : Nat) : Int) := by decide +kernel
theorem bit_low : ∀ x < 32, ∀ a < 6, ∀ i < a, ((x % 2 ^ a) >>> i) % 2 = (x >>> i) % 2 := by decide +kernel
theorem bit_up (x a i : Nat) : ((x / 2 ^ a) >>> i) % 2 = (x >>> (a + i)) % 2 := by
  rw [Nat.shiftRight_add, Nat.shiftRight_eq_div_pow x a]
theorem digs_add {x : Nat} (hx : x < 32) {a : Nat} (ha : a < 6) (b : Nat) : digs (x % 2 ^ a) a ++ digs (x / 2 ^ a) b = digs x (a + b) := by
  unfold digs
  rw [List.range_add, List.map_append, List.map_map]
  congr 1
  · apply List.map_congr_left
    intro i hi
    rw [bit_low x hx a ha i (List.mem_range.mp hi)]
  · apply List.map_congr_left
    intro i _
    simp only [Function.comp_apply]
    rw [bit_up]
theorem wr_wr {ns : List Int} {l a b x : Nat} (hx : x < 32) (ha : a < 6) (h : l + a + b ≤ ns.length) : wr (wr ns l a (x % 2 ^ a)) (l + a) b (x / 2 ^ a) = wr ns l (a + b) x := by
  unfold wr
  have e1 : (ns.take l ++ digs (x % 2 ^ a) a).length = l + a := by rw [List.length_append, digs_length, List.length_take]; omega
  have e2 : (ns.take l ++ digs (x % 2 ^ a) a ++ ns.drop (l + a)).take (l + a) = ns.take l ++ digs (x % 2 ^ a) a := by
    rw [← e1]; exact List.take_left
  have e3 : (ns.take l ++ digs (x % 2 ^ a) a ++ ns.drop (l + a)).drop (l + a + b) = ns.drop (l + (a + b)) := by
    rw [List.drop_append, e1, List.drop_eq_nil_of_le (by rw [e1]; omega), List.nil_append, List.drop_drop]
    congr 1
    omega
  rw [e2, e3, ← digs_add hx ha b, List.append_assoc (ns.take l)]
theorem set_wr {ns : List Int} {l x : Nat} (hx : x < 2) (h : l < ns.length) : ns.set l (x : Int) = wr ns l 1 x := by
  unfold wr digs
  have e : ((x >>> 0) % 2) = x := by
    show x % 2 = x
    omega
  simp only [List.range_one, List.map_cons, List.map_nil, e]
  rw [List.set_eq_take_append_cons_drop, if_pos h]
  simp
theorem fdiv_nat (a b : Nat) : Int.fdiv (a : Int) (b : Int) = ((a / b : Nat) : Int) := by
  rw [Int.fdiv_eq_ediv_of_nonneg _ (Int.natCast_nonneg _)]; rfl

/-- what a turn of inner reckons -/
theorem inner_facts {x l r : Int} {n : Nat} (hx0 : 0 ≤ x) (hx32 : x < 32) (hl0 : 0 ≤ l) (hlr : l < r) (hne : l + 1 ≠ r) (hr : r ≤ (n : Int)) (hd : r - l ≤ 5) (hx : x < ((2 ^ (r - l).toNat : Nat) : Int)) :
    ∃ mid up sh lo : Int, (l + r).fdiv (2 ^ (1 : Int).toNat) = mid ∧ x.fdiv (2 ^ ((mid - l) * 1).toNat) = up ∧ up * 2 ^ ((mid - l) * 1).toNat = sh ∧ Builtin.bitXor x sh = lo ∧
      l < mid ∧ mid < r ∧ 0 ≤ up ∧ up < 32 ∧ 0 ≤ lo ∧ lo < 32 ∧ lo < ((2 ^ (mid - l).toNat : Nat) : Int) ∧ up < ((2 ^ (r - mid).toNat : Nat) : Int) ∧ 0 ≤ (mid - l) * 1 ∧ (mid - l) * 1 ≤ 1000000 ∧ up.natAbs < 2 ^ 64 ∧
      lo.toNat = x.toNat % 2 ^ (mid - l).toNat ∧ up.toNat = x.toNat / 2 ^ (mid - l).toNat := by
  obtain ⟨x, rfl⟩ := Int.eq_ofNat_of_zero_le hx0
  obtain ⟨l, rfl⟩ := Int.eq_ofNat_of_zero_le hl0
  obtain ⟨r, rfl⟩ := Int.eq_ofNat_of_zero_le (show 0 ≤ r by omega)
  have hlr' : l < r := by omega
  have ek : ((r : Int) - (l : Int)).toNat = r - l := by omega
  rw [ek] at hx
  have hx' : x < 2 ^ (r - l) := by exact_mod_cast hx
  have hx32' : x < 32 := by omega
  have emid : ((l : Int) + (r : Int)).fdiv (2 ^ (1 : Int).toNat) = (((l + r) / 2 : Nat) : Int) := fdiv_nat (l + r) 2
  generalize hm : (l + r) / 2 = mid at emid
  have h1 : l < mid := by omega
  have h2 : mid < r := by omega
  have es : (((mid : Int) - (l : Int)) * 1).toNat = mid - l := by omega
  have es' : ((mid : Int) - (l : Int)).toNat = mid - l := by omega
  have er : ((r : Int) - (mid : Int)).toNat = r - mid := by omega
  have ha : mid - l < 6 := by omega
  have eup : Int.fdiv (x : Int) (2 ^ (((mid : Int) - (l : Int)) * 1).toNat) = ((x / 2 ^ (mid - l) : Nat) : Int) := by
    rw [es]
    have := fdiv_nat x (2 ^ (mid - l))
    rw [← this]
    congr 1
  have hpos : 0 < 2 ^ (mid - l) := Nat.two_pow_pos _
  refine ⟨mid, ((x / 2 ^ (mid - l) : Nat) : Int), _, ((x % 2 ^ (mid - l) : Nat) : Int), emid, eup, rfl, ?_, by omega, by omega, Int.natCast_nonneg _, ?_, Int.natCast_nonneg _, ?_, ?_, ?_, by omega, by omega, by (have := Nat.div_le_self x (2 ^ (mid - l)); rw [Int.natAbs_natCast]; omega), ?_, ?_⟩
  · rw [es]; exact xor_low x hx32' _ ha
  · have := Nat.div_le_self x (2 ^ (mid - l)); omega
  · have := Nat.mod_le x (2 ^ (mid - l)); omega
  · rw [es']; have := Nat.mod_lt x hpos; exact_mod_cast this
  · rw [er]
    have : x / 2 ^ (mid - l) < 2 ^ (r - mid) := by
      rw [Nat.div_lt_iff_lt_mul hpos, ← Nat.pow_add]
      have e : r - mid + (mid - l) = r - l := by omega
      rw [e]; exact hx'
    exact_mod_cast this
  · rw [es', Int.toNat_natCast, Int.toNat_natCast]
  · rw [es', Int.toNat_natCast, Int.toNat_natCast]
end Mine
end
section
open PySem PySem.W PyProof.Rows
set_option maxRecDepth 100000
namespace Mine
def vl (ns : List Int) (l : Nat) : Nat → Int
  | 0 => 0
  | k + 1 => vl ns l k + ns.getD (l + k) 0 * 2 ^ k
theorem vl_add (ns : List Int) (l a : Nat) : ∀ b, vl ns l (a + b) = vl ns (l + a) b * 2 ^ a + vl ns l a
  | 0 => by simp [vl]
  | b + 1 => by
    show vl ns l (a + b) + ns.getD (l + (a + b)) 0 * 2 ^ (a + b) = (vl ns (l + a) b + ns.getD (l + a + b) 0 * 2 ^ b) * 2 ^ a + vl ns l a
    rw [vl_add ns l a b, Int.add_mul, Int.mul_assoc, ← Int.pow_add, Nat.add_comm b a, Nat.add_assoc l a b]
    omega
def Bits (ns : List Int) : Prop := ∀ i, 0 ≤ ns.getD i 0 ∧ ns.getD i 0 ≤ 1
theorem vl_bound {ns : List Int} (h : Bits ns) (l : Nat) : ∀ k, 0 ≤ vl ns l k ∧ vl ns l k < 2 ^ k
  | 0 => by simp [vl]
  | k + 1 => by
    obtain ⟨h1, h2⟩ := vl_bound h l k
    obtain ⟨b0, b1⟩ := h (l + k)
    have e : vl ns l (k + 1) = vl ns l k + ns.getD (l + k) 0 * 2 ^ k := rfl
    rw [e, Int.pow_succ]
    have hp : (0 : Int) < 2 ^ k := Int.pow_pos (by decide)
    rcases (show ns.getD (l + k) 0 = 0 ∨ ns.getD (l + k) 0 = 1 by omega) with q | q
    · rw [q]; omega
    · rw [q]; omega
theorem vl_one (ns : List Int) (l : Nat) : vl ns l 1 = ns.getD l 0 := by
  show 0 + ns.getD (l + 0) 0 * 2 ^ 0 = _
  simp
/-- what a turn of the second inner reckons -/
theorem inner2_facts {ns : List Int} {l r : Int} (hb : Bits ns) (hl0 : 0 ≤ l) (hlr : l < r) (hne : l + 1 ≠ r) (hd : r - l ≤ 5) :
    ∃ mid sh : Int, (l + r).fdiv (2 ^ (1 : Int).toNat) = mid ∧ vl ns mid.toNat (r - mid).toNat * 2 ^ ((mid - l) * 1).toNat = sh ∧
      l < mid ∧ mid < r ∧ 0 ≤ (mid - l) * 1 ∧ (mid - l) * 1 ≤ 1000000 ∧ (vl ns mid.toNat (r - mid).toNat).natAbs < 2 ^ 64 ∧ sh + vl ns l.toNat (mid - l).toNat = vl ns l.toNat (r - l).toNat := by
  obtain ⟨l, rfl⟩ := Int.eq_ofNat_of_zero_le hl0
  obtain ⟨r, rfl⟩ := Int.eq_ofNat_of_zero_le (show 0 ≤ r by omega)
  have emid : ((l : Int) + (r : Int)).fdiv (2 ^ (1 : Int).toNat) = (((l + r) / 2 : Nat) : Int) := fdiv_nat (l + r) 2
  generalize hm : (l + r) / 2 = mid at emid
  have h1 : l < mid := by omega
  have h2 : mid < r := by omega
  have es : (((mid : Int) - (l : Int)) * 1).toNat = mid - l := by omega
  have es' : ((mid : Int) - (l : Int)).toNat = mid - l := by omega
  have er : ((r : Int) - (mid : Int)).toNat = r - mid := by omega
  have erl : ((r : Int) - (l : Int)).toNat = (mid - l) + (r - mid) := by omega
  refine ⟨mid, _, emid, rfl, by omega, by omega, by omega, by omega, ?_, ?_⟩
  · obtain ⟨b1, b2⟩ := vl_bound hb (mid : Int).toNat ((r : Int) - (mid : Int)).toNat
    have hp : (2 : Int) ^ ((r : Int) - (mid : Int)).toNat ≤ 2 ^ 5 := by
      rw [er]
      have : 2 ^ (r - mid) ≤ 2 ^ 5 := Nat.pow_le_pow_right (by decide) (by omega)
      exact_mod_cast this
    omega
  · rw [es, es', er, erl, Int.toNat_natCast, Int.toNat_natCast, vl_add]
    have e : l + (mid - l) = mid := by omega
    rw [e]
theorem getD_bit (x k i : Nat) : 0 ≤ (digs x k).getD i 0 ∧ (digs x k).getD i 0 ≤ 1 := by
  unfold digs
  rw [List.getD_eq_getElem?_getD, List.getElem?_map]
  by_cases h : i < k
  · rw [List.getElem?_range h]
    simp
    omega
  · rw [List.getElem?_eq_none (by simp; omega)]
    simp
theorem bits_digs (x k : Nat) : Bits (digs x k) := fun i => getD_bit x k i
theorem getD_drop1 (ns : List Int) (i : Nat) : (ns.drop 1).getD i 0 = ns.getD (i + 1) 0 := by
  rw [List.getD_eq_getElem?_getD, List.getD_eq_getElem?_getD, List.getElem?_drop, Nat.add_comm]
theorem bits_drop {ns : List Int} (h : Bits ns) : Bits (ns.drop 1) := fun i => by rw [getD_drop1]; exact h (i + 1)
end Mine
end
section
open PySem PySem.W PyProof.Rows
set_option maxRecDepth 100000
namespace Mine
def InnerC (w : World) (loose : List Str) (mean : ExcName → Option Value) (mg mb : Str → Option Value) (name qual : Str) (params : Arguments) (body : List Stmt) (scope : Scope) (d : Nat) : Prop :=
  ∀ (dp un : Nat) (gd : Option (List Code)) (cn : Str) (cs : Scope) (a : Addr) (ccd : Value) (cl : List (Str × Addr)) (outer : List Env) (A₀ : Around) (base h₀ : Heap) (L : Addr) (m : Str → Option Value) (s : Shared) (Q E : Value → Shared → Prop)
    (f c' ld ca ci cnn : Addr) (doc pm ctv : Value) (oc oa oi on : Obj) (vs : Array Value) (tq : Tok) (R : List (Addr × Obj)) (us : List Value) (ns : List Int) (k : Nat) (x l r : Int) (tx tl tr tn : Tok),
    Below A₀ base outer h₀ → Fr h₀ L s.heap m → (Mine.hd.heap_39 w.params).In h₀ → News h₀ L s.heap ((ld, W.listOf us.toArray k) :: R) → Top topProg loose mean mg mb h₀ → CodeHd base 20 16 → cs.kind = .function →
    (f, fnMade name qual params body scope [(Str.ofString "n", cnn), (Str.ofString "inner", ci), (Str.ofString "a_digits", ca)] doc pm c' ctv) ∈ R → (c', oc) ∈ R → oc.data = .fields vs → vs[1]? = some (.str qual tq) →
    (ca, oa) ∈ R → oa.data = .cell (some (.ref ld)) → (ci, oi) ∈ R → oi.data = .cell (some (.ref f)) → (cnn, on) ∈ R → on.data = .cell (some (.int 1 tn)) →
    (∀ p ∈ R, p.1 ≠ ld) → IntsAre us ns → us.length ≤ 64 → r - l ≤ 5 → x < 32 → 0 ≤ x → 0 ≤ l → l < r → r ≤ (us.length : Int) → r - l ≤ (d : Int) → x < ((2 ^ (r - l).toNat : Nat) : Int) →
    dp + d + 1 < recursionLimit → un + 8 * (d + 1) < cLine →
    (∀ us' h' tk', IntsAre us' (wr ns l.toNat (r - l).toNat x.toNat) → Fr h₀ L h' m → News h₀ L h' ((ld, W.listOf us'.toArray k) :: R) → Q .none { s with heap := h', toks := tk' }) →
    wpAny (model PySem.Challenge.rw_hu0001_01.row.prog w) (ktrTop dp un gd cn cs L a ccd cl outer) (call (.ref f) [.int x tx, .int l tl, .int r tr]) Q E s
theorem inner_ind {w : World} {loose : List Str} {mean : ExcName → Option Value} {mg mb : Str → Option Value} {name qual : Str} {params : Arguments} {body : List Stmt} {scope : Scope}
    (step : ∀ d, InnerC w loose mean mg mb name qual params body scope d → InnerC w loose mean mg mb name qual params body scope (d + 1)) : ∀ d, InnerC w loose mean mg mb name qual params body scope d
  | 0 => by
    unfold InnerC; intros; exfalso; omega
  | d + 1 => step d (inner_ind step d)
theorem off_list {f ld : Addr} {o : Obj} {vs : Array Value} {k : Nat} {pre post : List (Addr × Obj)} (h : (f, o) ∈ pre ++ (ld, W.listOf vs k) :: post) (hn : o.data ≠ .seq vs k) : (f, o) ∈ pre ++ post := by
  rcases List.mem_append.mp h with h | h
  · exact List.mem_append_left _ h
  · rcases List.mem_cons.mp h with h | h
    · exact absurd (by cases h; rfl) hn
    · exact List.mem_append_right _ h
theorem inner_use {w : World} {loose : List Str} {mean : ExcName → Option Value} {mg mb : Str → Option Value} {name qual : Str} {params : Arguments} {body : List Stmt} {scope : Scope} (d : Nat)
    {dp un : Nat} {gd : Option (List Code)} {cn : Str} {cs : Scope} {a : Addr} {ccd : Value} {cl : List (Str × Addr)} {outer : List Env} {A₀ : Around} {base h₀ : Heap} {L : Addr} {m : Str → Option Value} {s : Shared} {Q E : Value → Shared → Prop}
    {f c' ld ca ci cnn : Addr} {doc pm ctv : Value} {oc oa oi on : Obj} {vs : Array Value} {tq : Tok} {news : List (Addr × Obj)} {g : Obj → List (Addr × Obj)} {us : List Value} {ns : List Int} {k : Nat} {x l r : Int} {tx tl tr tn : Tok}
    (B : Below A₀ base outer h₀) (F : Fr h₀ L s.heap m) (X : (Mine.hd.heap_39 w.params).In h₀) (N : News h₀ L s.heap news) (T : Top topProg loose mean mg mb h₀) (C : CodeHd base 20 16) (hk : cs.kind = .function)
    (U : UpdF ld (W.listOf us.toArray k) news g)
    (hf : (f, fnMade name qual params body scope [(Str.ofString "n", cnn), (Str.ofString "inner", ci), (Str.ofString "a_digits", ca)] doc pm c' ctv) ∈ news) (hc : (c', oc) ∈ news) (hcd : oc.data = .fields vs) (hcv : vs[1]? = some (.str qual tq))
    (ha : (ca, oa) ∈ news) (had : oa.data = .cell (some (.ref ld))) (hi : (ci, oi) ∈ news) (hid : oi.data = .cell (some (.ref f))) (hn : (cnn, on) ∈ news) (hnd : on.data = .cell (some (.int 1 tn)))
    (hI : IntsAre us ns) (hlen : us.length ≤ 64) (h5 : r - l ≤ 5) (hx32 : x < 32) (hx0 : 0 ≤ x) (hl0 : 0 ≤ l) (hlr : l < r) (hr : r ≤ (us.length : Int)) (hsz : r - l ≤ (d : Int)) (hx : x < ((2 ^ (r - l).toNat : Nat) : Int))
    (hd : dp + d + 1 < recursionLimit) (hu : un + 8 * (d + 1) < cLine)
    (ih : InnerC w loose mean mg mb name qual params body scope d)
    (ret : ∀ us' h' tk', IntsAre us' (wr ns l.toNat (r - l).toNat x.toNat) → Fr h₀ L h' m → News h₀ L h' (g (W.listOf us'.toArray k)) → Q .none { s with heap := h', toks := tk' }) :
    wpAny (model PySem.Challenge.rw_hu0001_01.row.prog w) (ktrTop dp un gd cn cs L a ccd cl outer) (call (.ref f) [.int x tx, .int l tl, .int r tr]) Q E s := by
  obtain ⟨pre, post, rfl, hg, h1, h2⟩ := U.split
  refine ih dp un gd cn cs a ccd cl outer A₀ base h₀ L m s Q E f c' ld ca ci cnn doc pm ctv oc oa oi on vs tq (pre ++ post) us ns k x l r tx tl tr tn B F X (fun p hp => N p ?_) T C hk
    (off_list hf (by intro h; cases h)) (off_list hc (by rw [hcd]; intro h; cases h)) hcd hcv (off_list ha (by rw [had]; intro h; cases h)) had (off_list hi (by rw [hid]; intro h; cases h)) hid (off_list hn (by rw [hnd]; intro h; cases h)) hnd
    (fun p hp => (List.mem_append.mp hp).elim (h1 p) (h2 p)) hI hlen h5 hx32 hx0 hl0 hlr hr hsz hx hd hu fun us' h' tk' hI' F' N' => ret us' h' tk' hI' F' ?_
  · rcases List.mem_cons.mp hp with rfl | hp
    · exact List.mem_append_right _ (.head _)
    · exact (List.mem_append.mp hp).elim (List.mem_append_left _) fun h => List.mem_append_right _ (.tail _ h)
  · rw [hg]
    intro p hp
    refine N' p ?_
    rcases List.mem_append.mp hp with hp | hp
    · exact .tail _ (List.mem_append_left _ hp)
    · rcases List.mem_cons.mp hp with rfl | hp
      · exact .head _
      · exact .tail _ (List.mem_append_right _ hp)
theorem inner_app {w : World} {loose : List Str} {mean : ExcName → Option Value} {mg mb : Str → Option Value} {name qual : Str} {params : Arguments} {body : List Stmt} {scope : Scope} (d : Nat)
    {dp un : Nat} {gd : Option (List Code)} {cn : Str} {cs : Scope} {a : Addr} {ccd : Value} {cl : List (Str × Addr)} {outer : List Env} {A₀ : Around} {base h₀ : Heap} {L : Addr} {m : Str → Option Value} {s : Shared} {Q E : Value → Shared → Prop}
    {f c' ld ca ci cnn : Addr} {doc pm ctv : Value} {oc oa oi on : Obj} {vs : Array Value} {tq : Tok} {R : List (Addr × Obj)} {us : List Value} {ns : List Int} {k : Nat} {x l r : Int} {tx tl tr tn : Tok}
    (B : Below A₀ base outer h₀) (F : Fr h₀ L s.heap m) (X : (Mine.hd.heap_39 w.params).In h₀) (N : News h₀ L s.heap ((ld, W.listOf us.toArray k) :: R)) (T : Top topProg loose mean mg mb h₀) (C : CodeHd base 20 16) (hk : cs.kind = .function)
    (hf : (f, fnMade name qual params body scope [(Str.ofString "n", cnn), (Str.ofString "inner", ci), (Str.ofString "a_digits", ca)] doc pm c' ctv) ∈ R) (hc : (c', oc) ∈ R) (hcd : oc.data = .fields vs) (hcv : vs[1]? = some (.str qual tq))
    (ha : (ca, oa) ∈ R) (had : oa.data = .cell (some (.ref ld))) (hi : (ci, oi) ∈ R) (hid : oi.data = .cell (some (.ref f))) (hn : (cnn, on) ∈ R) (hnd : on.data = .cell (some (.int 1 tn)))
    (hR : ∀ p ∈ R, p.1 ≠ ld) (hI : IntsAre us ns) (hlen : us.length ≤ 64) (h5 : r - l ≤ 5) (hx32 : x < 32) (hx0 : 0 ≤ x) (hl0 : 0 ≤ l) (hlr : l < r) (hr : r ≤ (us.length : Int)) (hsz : r - l ≤ (d : Int)) (hx : x < ((2 ^ (r - l).toNat : Nat) : Int))
    (hd : dp + d + 1 < recursionLimit) (hu : un + 8 * (d + 1) < cLine)
    (ih : InnerC w loose mean mg mb name qual params body scope d)
    (ret : ∀ us' h' tk', IntsAre us' (wr ns l.toNat (r - l).toNat x.toNat) → Fr h₀ L h' m → News h₀ L h' ((ld, W.listOf us'.toArray k) :: R) → Q .none { s with heap := h', toks := tk' }) :
    wpAny (model PySem.Challenge.rw_hu0001_01.row.prog w) (ktrTop dp un gd cn cs L a ccd cl outer) (call (.ref f) [.int x tx, .int l tl, .int r tr]) Q E s :=
  ih dp un gd cn cs a ccd cl outer A₀ base h₀ L m s Q E f c' ld ca ci cnn doc pm ctv oc oa oi on vs tq R us ns k x l r tx tl tr tn B F X N T C hk hf hc hcd hcv ha had hi hid hn hnd hR hI hlen h5 hx32 hx0 hl0 hlr hr hsz hx hd hu ret
theorem rshift_is {prog : Program} {w : World} {A : Around} {E : Value → Shared → Prop} {s : Shared} {a n v : Int} {t u : Tok} {Q : Value → Shared → Prop} (hn : 0 ≤ n) (e : a.fdiv (2 ^ n.toNat) = v) (h : Q (.int v s.toks) { s with toks := s.toks + 1 }) : wpAny (model prog w) A (binaryOp .RShift (.int a t) (.int n u)) Q E s := by
  subst e; exact rshift_int hn h
theorem lshift_is {prog : Program} {w : World} {A : Around} {E : Value → Shared → Prop} {s : Shared} {a n v : Int} {t u : Tok} {Q : Value → Shared → Prop} (hn : 0 ≤ n) (hn2 : n ≤ 1000000) (ha : a.natAbs < 2 ^ 64) (e : a * 2 ^ n.toNat = v) (h : Q (.int v s.toks) { s with toks := s.toks + 1 }) : wpAny (model prog w) A (binaryOp .LShift (.int a t) (.int n u)) Q E s := by
  subst e; exact lshift_int_small hn hn2 ha h
theorem xor_is {prog : Program} {w : World} {A : Around} {E : Value → Shared → Prop} {s : Shared} {a n v : Int} {t u : Tok} {Q : Value → Shared → Prop} (e : Builtin.bitXor a n = v) (h : Q (.int v s.toks) { s with toks := s.toks + 1 }) : wpAny (model prog w) A (binaryOp .BitXor (.int a t) (.int n u)) Q E s := by
  subst e; exact xor_int h
end Mine
end
section
open PySem PySem.W PyProof.Rows
set_option maxRecDepth 100000
namespace Mine
def innerDef : Stmt := match PySem.Challenge.pw_hu0001_01.main.body with
  | _ :: .FunctionDef _ _ (_ :: s :: _) _ _ _ _ _ _ _ :: _ => s
  | _ => .Pass ⟨0, 0, 0, 0⟩
def defParams : Stmt → Arguments | .FunctionDef _ a _ _ _ _ _ _ _ _ => a | _ => default
def defBody : Stmt → List Stmt | .FunctionDef _ _ b _ _ _ _ _ _ _ => b | _ => []
def defScope : Stmt → Scope | .FunctionDef _ _ _ _ _ _ s _ _ _ => s | _ => default
local macro_rules | `(tactic| k_all) => `(tactic| first | assumption | exact ne_of_allLt (by assumption) (by omega))
local macro_rules | `(tactic| walk_at "eval Name") => `(tactic| (k_here; k_dflt (refine' nameX_F ?N ?c ?m ?d ?_ ?a ?b; (case a | b => rfl); (case N => k_asm); (case c => rfl); (case m => exact List.mem_cons_of_mem _ (by with_reducible assumption)); (case d => with_reducible assumption); k_whole)))
local macro_rules | `(tactic| walk_at "binaryOp RShift int int") => `(tactic| (refine rshift_is (by first | assumption | decide) (by assumption) ?_))
local macro_rules | `(tactic| walk_at "binaryOp LShift int int") => `(tactic| (refine lshift_is (by assumption) (by assumption) (by assumption) (by assumption) ?_))
local macro_rules | `(tactic| walk_at "binaryOp BitXor int int") => `(tactic| (refine xor_is (by assumption) ?_))
local macro_rules | `(tactic| walk_at "FnAt") => `(tactic| (exact FnAt.of (by k_asm) (List.mem_cons_of_mem _ (by with_reducible assumption))))
local macro_rules | `(tactic| walk_at "callWith ref") => `(tactic| (k_here; kn_here; k_dflt (refine' callWith_F ?k1 ?_; (case k1 => exact FnAt.of (by k_asm) (List.mem_cons_of_mem _ (by with_reducible assumption))); k_whole)))
-- CALLREF
local macro_rules | `(tactic| walk_at "call ref") => `(tactic| (k_here; kn_here; k_dflt (refine' inner_app _ ?k1 ?k2 ?k3 ?k4 ?k5 ?kC ?kK ?hf ?hc ?hcd ?hcv ?ha ?had ?hi ?hid ?hn ?hnd ?hR ?hI ?hlen ?h5 ?hx32 ?hx0 ?hl0 ?hlr ?hr ?hsz ?hx ?kd ?ku ?ih ?_; (case k1 | k2 | k3 | k4 | k5 => k_asm); (case kC => k_asm); (case kK => exact rfl); (case hf => k_asm); (case hc => k_asm); (case hcd => k_asm); (case hcv => k_asm); (case ha => k_asm); (case had => k_asm); (case hi => k_asm); (case hid => k_asm); (case hn => k_asm); (case hnd => k_asm); (case hR => k_asm); (case hI => k_asm); (case ih => k_asm); (case hlen => omega); (case h5 => omega); (case hx32 => omega); (case hx0 => omega); (case hl0 => omega); (case hlr => omega); (case hr => omega); (case hsz => omega); (case hx => assumption); (case kd => ktr_room); (case ku => ktr_units)); intro us' h' tk' hI' F' N'; have hl9 := IntsAre.length hI'; try rw [wr_length (by omega)] at hl9))
theorem ite_t {p : Prop} {P R : Prop} [Decidable p] (hp : p) (h : P) : if p then P else R := by rw [if_pos hp]; exact h
theorem ite_f {p : Prop} {P R : Prop} [Decidable p] (hp : ¬ p) (h : R) : if p then P else R := by rw [if_neg hp]; exact h
local macro_rules | `(tactic| walk_at "ite") => `(tactic| first | (refine ite_t (by simp only [beq_iff_eq]; assumption) ?_) | (refine ite_f (by simp only [beq_iff_eq]; assumption) ?_))
set_option maxHeartbeats 1000000 in
theorem inner_step {w : World} {loose : List Str} {mean : ExcName → Option Value} {mg mb : Str → Option Value} {qual : Str} (d : Nat)
    (IH : InnerC w loose mean mg mb (Str.ofString "inner") qual (defParams innerDef) (defBody innerDef) (defScope innerDef) d) :
    InnerC w loose mean mg mb (Str.ofString "inner") qual (defParams innerDef) (defBody innerDef) (defScope innerDef) (d + 1) := by
  simp only [defParams, defBody, defScope, innerDef, PySem.Challenge.pw_hu0001_01] at IH ⊢
  unfold InnerC
  intro dp un gd cn cs a ccd cl outer A₀ base h₀ L m s Q E f c' ld ca ci cnn doc pm ctv oc oa oi on vs tq R us ns k x l r tx tl tr tn B F X N T C hk hf hc hcd hcv ha had hi hid hn hnd hR hI hlen h5 hx32 hx0 hl0 hlr hr hsz hx hd hu ret
  k_with_none; w_top off; revert X; k_fill; intro X
  have hul := IntsAre.length hI
  by_cases hb : l + 1 = r
  · refine wpAny_call ?_
    k_dflt (refine' code_nest ?f1 ?f2 ?f3 ?f4 ?f5 ?r1 ?r2 ?kd ?fm ?cr ?rm ?bd ?lc ?_ ?r4 ?r5 ?r6 ?nd; (case r1 | r2 => exact rfl); (case kd => assumption); (case f1 | f2 | f3 | f4 | f5 => k_asm); (case fm => exact List.mem_cons_of_mem _ hf); (case cr => exact codeRec_news N (List.mem_cons_of_mem _ hc) hcd hcv); (case rm => ktr_room); (case bd => exact BindsTo.of_eq rfl); (case nd => decide); (case lc => exact locs rfl); (case r4 | r5 | r6 => exact rfl); k_whole; intro g' L' h' FG' F' N' B' X' T'; (try dsimp only); (try k_lift B'); (try k_fold))
    k_steps
    have hx2 : x.toNat < 2 := by
      have e : (r - l).toNat = 1 := by omega
      rw [e] at hx
      omega
    have hw := ints_set (x := x) (u := tx) hI l.toNat
    have ew := set_wr (ns := ns) (l := l.toNat) (x := x.toNat) hx2 (by omega)
    rw [Int.toNat_of_nonneg hx0] at ew
    rw [ew] at hw
    have e1 : (r - l).toNat = 1 := by omega
    rw [← e1] at hw
    apply ret _ _ _ hw
    · assumption
    · assumption
  · obtain ⟨mid, up, sh, lo, e1, e2, e3, e4, g1, g2, g3, g4, g5, g6, g7, g8, g9, g10, g11, g12, g13⟩ := inner_facts hx0 hx32 hl0 hlr hb hr h5 hx
    refine wpAny_call ?_
    k_dflt (refine' code_nest ?f1 ?f2 ?f3 ?f4 ?f5 ?r1 ?r2 ?kd ?fm ?cr ?rm ?bd ?lc ?_ ?r4 ?r5 ?r6 ?nd; (case r1 | r2 => exact rfl); (case kd => assumption); (case f1 | f2 | f3 | f4 | f5 => k_asm); (case fm => exact List.mem_cons_of_mem _ hf); (case cr => exact codeRec_news N (List.mem_cons_of_mem _ hc) hcd hcv); (case rm => ktr_room); (case bd => exact BindsTo.of_eq rfl); (case nd => decide); (case lc => exact locs rfl); (case r4 | r5 | r6 => exact rfl); k_whole; intro g' L' h' FG' F' N' B' X' T'; (try dsimp only); (try k_lift B'); (try k_fold))
    k_steps
    have ea : (mid - l).toNat < 6 := by omega
    have ex : x.toNat < 32 := by omega
    have em : mid.toNat = l.toNat + (mid - l).toNat := by omega
    have er : (r - l).toNat = (mid - l).toNat + (r - mid).toNat := by omega
    rename IntsAre _ _ => hfin
    rw [g12, g13, em, wr_wr ex ea (by omega), ← er] at hfin
    apply ret _ _ _ hfin
    · assumption
    · assumption
end Mine
end
section
open PySem PySem.W PyProof.Rows
set_option maxRecDepth 100000
namespace Mine
theorem inner_ok {w : World} {loose : List Str} {mean : ExcName → Option Value} {mg mb : Str → Option Value} {qual : Str} (d : Nat) :
    InnerC w loose mean mg mb (Str.ofString "inner") qual (defParams innerDef) (defBody innerDef) (defScope innerDef) d := inner_ind (fun d IH => inner_step d IH) d
abbrev Q1 : Str := Str.ofString "_int2digits.<locals>.inner"
abbrev hit16 (c : Addr) : Obj := tabObj #[rawInt 5, rawInt 4, .ref c]
theorem ints_rep (k : Nat) (t : Tok) : IntsAre (List.replicate k (.int 0 t)) (List.replicate k 0) := by
  induction k with
  | zero => exact .nil
  | succ k ih => rw [List.replicate_succ, List.replicate_succ]; exact .cons 0 t ih
theorem wr_all (k x : Nat) : wr (List.replicate k 0) 0 k x = digs x k := by
  unfold wr; simp
theorem lt_bits : ∀ x : Nat, x < 32 → x < 2 ^ Builtin.Int.intBits (x : Int) ∧ Builtin.Int.intBits (x : Int) ≤ 5 := by decide +kernel
theorem bits_pos : ∀ x : Nat, x < 32 → x ≠ 0 → 0 < Builtin.Int.intBits (x : Int) := by decide +kernel
theorem lt_of_allLt {d b : Nat} {l : List (Addr × Obj)} (h : AllLt b l) (hb : b ≤ d) : ∀ p ∈ l, p.1 < d := fun p hp => Nat.lt_of_lt_of_le (kst_ltOf h p hp) hb
local macro_rules | `(tactic| k_all) => `(tactic| first | assumption | exact ne_of_allLt (by assumption) (by omega))
local macro_rules | `(tactic| walk_at "exec FunctionDef") => `(tactic| (k_here; kn_here; k_dflt (refine' nestDef_K ?d0 ?k0 ?a0 ?_; (case d0 | k0 | a0 => exact rfl)); k_dflt (refine' nestHit_K (ps := #[rawInt 5, rawInt 4, .ref _]) ?F9 ?N9 ?T9 ?C9 ?cd9 ?mem9 ?t9 ?n9 ?cl9 ?_; (case F9 => k_asm); (case N9 => k_asm); (case T9 => k_asm); (case cd9 => exact rfl); (case C9 => kn_code); (case mem9 => (repeat (first | assumption | apply List.mem_cons_of_mem))); (case t9 => kn_triples); (case n9 => kn_hit); (case cl9 => exact rfl)); intro f' ct' dc' h' tk' F' N' l1; (try dsimp only at N'); (try k_lt l1)))
set_option maxHeartbeats 2000000 in
theorem i2d_H {w : World} {loose : List Str} {mean : ExcName → Option Value} {mg mb : Str → Option Value}
   {dp un : Nat} {gd : Option (List Code)} {cn : Str} {cs : Scope} {a : Addr} {ccd : Value} {cl : List (Str × Addr)} {outer : List Env} {A₀ : Around} {base h₀ : Heap} {L : Addr} {m : Str → Option Value} {s : Shared} {Q E : Value → Shared → Prop}
   {news : List (Addr × Obj)} {n : Int} {t t' : Tok} {c1 : Addr} {oc1 : Obj} {vs1 : Array Value} {tq1 : Tok}
   (B : Below A₀ base outer h₀) (F : Fr h₀ L s.heap m) (X : (Mine.hd.heap_39 w.params).In h₀)
   (N : News h₀ L s.heap news) (T : Top topProg loose mean mg mb h₀) (C1 : CodeHd base 20 16) (hk : cs.kind = .function)
   (m16 : (16, hit16 c1) ∈ news) (mc1 : (c1, oc1) ∈ news) (hcd1 : oc1.data = .fields vs1) (hcv1 : vs1[1]? = some (.str Q1 tq1))
   (hd : dp + 20 < recursionLimit) (hu : un + 160 < cLine) (h0 : 0 ≤ n) (h1 : n < 32)
   (ret : ∀ D us h' tk', IntsAre us (digs n.toNat (Builtin.Int.intBits n)) → Fr h₀ L h' m → News h₀ L h' ((D, W.listOf us.toArray 0) :: news) → (∀ p ∈ news, p.1 < D) → Q (.ref D) { s with heap := h', toks := tk' }) :
   wpAny (model PySem.Challenge.rw_hu0001_01.row.prog w) (ktrTop dp un gd cn cs L a ccd cl outer) (call (.ref 21) [.int n t, .int 1 t']) Q E s := by
  k_with_none; w_top off; revert X; k_fill; intro X
  obtain ⟨k, hbits⟩ : ∃ k, Builtin.Int.intBits n = k := ⟨_, rfl⟩
  have hk5 : k ≤ 5 := by
    have := lt_bits n.toNat (by omega)
    rw [Int.toNat_of_nonneg h0, hbits] at this
    exact this.2
  refine wpAny_call ?_
  k_dflt (refine' code_defC ?f1 ?f2 ?f3 ?f4 ?f5 ?r1 ?r2 ?kd ?s1 ?s2 ?rm ?bd ?r3 ?dc ?_ ?r4 ?r5 ?r6; (case r1 | r2 => exact rfl); (case kd => assumption); (case f1 | f2 | f3 | f4 | f5 => k_asm); (case s1 | s2 => k_is); (case rm => ktr_room); (case bd => exact BindsTo.of_eq rfl); (case dc => decide +kernel); (case r3 | r4 | r5 | r6 => exact rfl); k_whole; intro g' L' h' tk' cells' FG' F' N' Y' B' X' T' l1; (try k_lt l1); k_cells Y'; (try simp only [List.cons_append, List.nil_append] at N'); (try dsimp only); (try k_lift B'); (try k_fold))
  k_with "binaryOp Mult ref int" => (k_dflt (refine' mul_one_item ?F ?N ?mm k (size_is n k hbits) ?z ?_; (case F => k_asm); (case N => k_asm); (case mm => k_mem); (case z => omega)); intro D' h' F' N' l1; (try k_lt l1); (try k_sweep))
  k_with "call builtin:len" => (k_dflt (refine KM.len_K (n := k) (by k_asm) (by k_mem) (by simp) (by omega) ?_))
  have hAll : AllLt L' news := by first | exact l1 | exact allLt_of l1
  k_steps
  · k_dflt (refine' inner_use (ns := List.replicate k 0) 5 ?k1 ?k2 ?k3 ?k4 ?k5 ?kC ?kK ?kU ?hf ?hc ?hcd ?hcv ?ha ?had ?hi ?hid ?hn ?hnd ?hI ?hlen ?h5 ?hx32 ?hx0 ?hl0 ?hlr ?hr ?hsz ?hx ?kd ?ku ?ih ?_)
    case k1 => k_asm
    case k2 => k_asm
    case k3 => k_asm
    case k4 => k_asm
    case k5 => k_asm
    case kC => k_asm
    case kK => exact rfl
    case hf => exact List.Mem.head _
    case hc => (repeat (first | assumption | exact List.Mem.head _ | apply List.mem_cons_of_mem))
    case hcd => k_asm
    case hcv => exact hcv1
    case ha => (repeat (first | assumption | exact List.Mem.head _ | apply List.mem_cons_of_mem))
    case had => k_asm
    case hi => (repeat (first | assumption | exact List.Mem.head _ | apply List.mem_cons_of_mem))
    case hid => k_asm
    case hn => (repeat (first | assumption | exact List.Mem.head _ | apply List.mem_cons_of_mem))
    case hnd => k_asm
    case kU => k_updF
    case hI => exact ints_rep _ _
    case hlen => rw [List.length_replicate]; omega
    case h5 => omega
    case hx32 => omega
    case hx0 => omega
    case hl0 => omega
    case hlr => have := bits_pos n.toNat (by omega) (by omega); rw [Int.toNat_of_nonneg h0, hbits] at this; omega
    case hr => rw [List.length_replicate]; omega
    case hsz => omega
    case hx => have := (lt_bits n.toNat (by omega)).1; rw [Int.toNat_of_nonneg h0, hbits] at this; have e : ((k : Int) - 0).toNat = k := by omega
               rw [e]; omega
    case kd => ktr_room
    case ku => ktr_units
    case ih => exact inner_ok 5
    intro us' h' tk' hI' F' N'
    have e : ((k : Int) - 0).toNat = k := by omega
    rw [e, show (0 : Int).toNat = 0 from rfl, wr_all] at hI'
    k_steps
    rename News _ _ _ _ => kN
    rw [hbits] at ret
    apply ret _ us' _ _ hI'
    · assumption
    · apply kst_newsOf kN
      intro p hp
      rcases List.mem_cons.mp hp with rfl | hp
      · (repeat (first | exact List.Mem.head _ | apply List.mem_cons_of_mem))
      · (repeat (first | exact hp | apply List.mem_cons_of_mem))
    · exact lt_of_allLt hAll (by omega)
  · rename News _ _ _ _ => kN
    rename n = 0 => hn0
    subst hn0
    have hk0 : k = 0 := by rw [← hbits]; decide
    subst hk0
    rw [hbits] at ret
    apply ret _ [] _ _ .nil
    · assumption
    · apply kst_newsOf kN
      intro p hp
      rcases List.mem_cons.mp hp with rfl | hp
      · (repeat (first | exact List.Mem.head _ | apply List.mem_cons_of_mem))
      · (repeat (first | exact hp | apply List.mem_cons_of_mem))
    · exact lt_of_allLt hAll (by omega)
end Mine
end
section
open PySem PySem.W PyProof.Rows
set_option maxRecDepth 100000
namespace Mine
local macro_rules | `(tactic| k_all) => `(tactic| first | assumption | exact ne_of_allLt (by assumption) (by omega))
set_option maxHeartbeats 2000000 in
theorem i2d_E {w : World} {loose : List Str} {mean : ExcName → Option Value} {mg mb : Str → Option Value}
   {dp un : Nat} {gd : Option (List Code)} {cn : Str} {cs : Scope} {a : Addr} {ccd : Value} {cl : List (Str × Addr)} {outer : List Env} {A₀ : Around} {base h₀ : Heap} {L : Addr} {m : Str → Option Value} {s : Shared} {Q E : Value → Shared → Prop}
   {news : List (Addr × Obj)} {n : Int} {t t' : Tok}
   (B : Below A₀ base outer h₀) (F : Fr h₀ L s.heap m) (X : (Mine.hd.heap_39 w.params).In h₀)
   (N : News h₀ L s.heap ((16, tabObj #[]) :: news)) (hn16 : ∀ p ∈ news, p.1 ≠ 16) (T : Top topProg loose mean mg mb h₀) (C1 : CodeHd base 20 16) (hk : cs.kind = .function)
   (hd : dp + 20 < recursionLimit) (hu : un + 160 < cLine) (h0 : 0 ≤ n) (h1 : n < 32)
   (ret : ∀ c1 oc1 vs1 tq1 D us h' tk', oc1.data = .fields vs1 → vs1[1]? = some (.str Q1 tq1) → IntsAre us (digs n.toNat (Builtin.Int.intBits n)) → Fr h₀ L h' m → News h₀ L h' ((D, W.listOf us.toArray 0) :: (c1, oc1) :: (16, hit16 c1) :: news) → (∀ p ∈ (16, tabObj #[]) :: news, p.1 < c1) → (∀ p ∈ news, p.1 < D) → Q (.ref D) { s with heap := h', toks := tk' }) :
   wpAny (model PySem.Challenge.rw_hu0001_01.row.prog w) (ktrTop dp un gd cn cs L a ccd cl outer) (call (.ref 21) [.int n t, .int 1 t']) Q E s := by
  k_with_none; w_top off; revert X; k_fill; intro X
  obtain ⟨k, hbits⟩ : ∃ k, Builtin.Int.intBits n = k := ⟨_, rfl⟩
  have hk5 : k ≤ 5 := by
    have := lt_bits n.toNat (by omega)
    rw [Int.toNat_of_nonneg h0, hbits] at this
    exact this.2
  refine wpAny_call ?_
  k_dflt (refine' code_defC ?f1 ?f2 ?f3 ?f4 ?f5 ?r1 ?r2 ?kd ?s1 ?s2 ?rm ?bd ?r3 ?dc ?_ ?r4 ?r5 ?r6; (case r1 | r2 => exact rfl); (case kd => assumption); (case f1 | f2 | f3 | f4 | f5 => k_asm); (case s1 | s2 => k_is); (case rm => ktr_room); (case bd => exact BindsTo.of_eq rfl); (case dc => decide +kernel); (case r3 | r4 | r5 | r6 => exact rfl); k_whole; intro g' L' h' tk' cells' FG' F' N' Y' B' X' T' l1; (try k_lt l1); k_cells Y'; (try simp only [List.cons_append, List.nil_append] at N'); (try dsimp only); (try k_lift B'); (try k_fold))
  k_with "binaryOp Mult ref int" => (k_dflt (refine' mul_one_item ?F ?N ?mm k (size_is n k hbits) ?z ?_; (case F => k_asm); (case N => k_asm); (case mm => k_mem); (case z => omega)); intro D' h' F' N' l1; (try k_lt l1); (try k_sweep))
  k_with "call builtin:len" => (k_dflt (refine KM.len_K (n := k) (by k_asm) (by k_mem) (by simp) (by omega) ?_))
  have l1c := l1
  have hAll : AllLt L' news := l1.2
  k_steps
  · k_dflt (refine' inner_use (ns := List.replicate k 0) 5 ?k1 ?k2 ?k3 ?k4 ?k5 ?kC ?kK ?kU ?hf ?hc ?hcd ?hcv ?ha ?had ?hi ?hid ?hn ?hnd ?hI ?hlen ?h5 ?hx32 ?hx0 ?hl0 ?hlr ?hr ?hsz ?hx ?kd ?ku ?ih ?_)
    case k1 => k_asm
    case k2 => k_asm
    case k3 => k_asm
    case k4 => k_asm
    case k5 => k_asm
    case kC => k_asm
    case kK => exact rfl
    case hf => exact List.Mem.head _
    case hc => (repeat (first | assumption | exact List.Mem.head _ | apply List.mem_cons_of_mem))
    case hcd => k_asm
    case hcv => assumption
    case ha => (repeat (first | assumption | exact List.Mem.head _ | apply List.mem_cons_of_mem))
    case had => k_asm
    case hi => (repeat (first | assumption | exact List.Mem.head _ | apply List.mem_cons_of_mem))
    case hid => k_asm
    case hn => (repeat (first | assumption | exact List.Mem.head _ | apply List.mem_cons_of_mem))
    case hnd => k_asm
    case kU => k_updF
    case hI => exact ints_rep _ _
    case hlen => rw [List.length_replicate]; omega
    case h5 => omega
    case hx32 => omega
    case hx0 => omega
    case hl0 => omega
    case hlr => have := bits_pos n.toNat (by omega) (by omega); rw [Int.toNat_of_nonneg h0, hbits] at this; omega
    case hr => rw [List.length_replicate]; omega
    case hsz => omega
    case hx => have := (lt_bits n.toNat (by omega)).1; rw [Int.toNat_of_nonneg h0, hbits] at this; have e : ((k : Int) - 0).toNat = k := by omega
               rw [e]; omega
    case kd => ktr_room
    case ku => ktr_units
    case ih => exact inner_ok 5
    intro us' h' tk' hI' F' N'
    have e : ((k : Int) - 0).toNat = k := by omega
    rw [e, show (0 : Int).toNat = 0 from rfl, wr_all] at hI'
    k_steps
    rename News _ _ _ _ => kN
    rename Obj.data _ = Data.fields _ => hd1
    rename (_ : Array Value)[1]? = some _ => hd2
    rw [hbits] at ret
    apply ret _ _ _ _ _ us' _ _ hd1 hd2 hI'
    · assumption
    · apply kst_newsOf kN
      intro p hp
      rcases List.mem_cons.mp hp with rfl | hp
      · (repeat (first | exact List.Mem.head _ | apply List.mem_cons_of_mem))
      rcases List.mem_cons.mp hp with rfl | hp
      · (repeat (first | exact List.Mem.head _ | apply List.mem_cons_of_mem))
      rcases List.mem_cons.mp hp with rfl | hp
      · (repeat (first | exact List.Mem.head _ | apply List.mem_cons_of_mem))
      · (repeat (first | exact hp | apply List.mem_cons_of_mem))
    · intro p hp
      rcases List.mem_cons.mp hp with rfl | hp
      · have : @LT.lt Nat _ 16 L' := l1c.1
        exact Nat.lt_of_lt_of_le this (by omega)
      · exact lt_of_allLt hAll (by omega) p hp
    · exact lt_of_allLt hAll (by omega)
  · rename News _ _ _ _ => kN
    rename Obj.data _ = Data.fields _ => hd1
    rename (_ : Array Value)[1]? = some _ => hd2
    rename n = 0 => hn0
    subst hn0
    have hk0 : k = 0 := by rw [← hbits]; decide
    subst hk0
    rw [hbits] at ret
    apply ret _ _ _ _ _ [] _ _ hd1 hd2 .nil
    · assumption
    · apply kst_newsOf kN
      intro p hp
      rcases List.mem_cons.mp hp with rfl | hp
      · (repeat (first | exact List.Mem.head _ | apply List.mem_cons_of_mem))
      rcases List.mem_cons.mp hp with rfl | hp
      · (repeat (first | exact List.Mem.head _ | apply List.mem_cons_of_mem))
      rcases List.mem_cons.mp hp with rfl | hp
      · (repeat (first | exact List.Mem.head _ | apply List.mem_cons_of_mem))
      · (repeat (first | exact hp | apply List.mem_cons_of_mem))
    · intro p hp
      rcases List.mem_cons.mp hp with rfl | hp
      · have : @LT.lt Nat _ 16 L' := l1c.1
        exact Nat.lt_of_lt_of_le this (by omega)
      · exact lt_of_allLt hAll (by omega) p hp
    · exact lt_of_allLt hAll (by omega)
end Mine
end
section
open PySem PySem.W PyProof.Rows
set_option maxRecDepth 100000
namespace Mine
def lotOf (n : Int) : Int := ((digs n.toNat (Builtin.Int.intBits n)).sum).fmod 2
local macro_rules | `(tactic| walk_at "call ref") => `(tactic| (k_here; k_dflt (refine' i2d_H ?k1 ?k2 ?k3 ?k4 ?k5 ?kC ?kK ?m1 ?m2 ?m3 ?m4 ?kd ?ku ?z0 ?z1 ?_; (case k1 | k2 | k3 | k4 | k5 => k_asm); (case kC => assumption); (case kK => exact rfl); (case m1 => assumption); (case m2 => assumption); (case m3 => assumption); (case m4 => assumption); (case kd => ktr_room); (case ku => ktr_units); (case z0 => assumption); (case z1 => assumption)); intro D' us' h' tk' hI' F' N' l1))
set_option maxHeartbeats 2000000 in
theorem lot_H {w : World} {loose : List Str} {mean : ExcName → Option Value} {mg mb : Str → Option Value}
   {dp un : Nat} {gd : Option (List Code)} {cn : Str} {cs : Scope} {a : Addr} {ccd : Value} {cl : List (Str × Addr)} {outer : List Env} {A₀ : Around} {base h₀ : Heap} {L : Addr} {m : Str → Option Value} {s : Shared} {Q E : Value → Shared → Prop}
   {news : List (Addr × Obj)} {n : Int} {t : Tok} {c1 : Addr} {oc1 : Obj} {vs1 : Array Value} {tq1 : Tok}
   (B : Below A₀ base outer h₀) (F : Fr h₀ L s.heap m) (X : (Mine.hd.heap_39 w.params).In h₀)
   (N : News h₀ L s.heap news) (T : Top topProg loose mean mg mb h₀) (C1 : CodeHd base 20 16) (hk : cs.kind = .function)
   (m16 : (16, hit16 c1) ∈ news) (mc1 : (c1, oc1) ∈ news) (hcd1 : oc1.data = .fields vs1) (hcv1 : vs1[1]? = some (.str Q1 tq1))
   (hd : dp + 30 < recursionLimit) (hu : un + 240 < cLine) (h0 : 0 ≤ n) (h1 : n < 32)
   (ret : ∀ t h' tk', Fr h₀ L h' m → News h₀ L h' news → Q (.int (lotOf n) t) { s with heap := h', toks := tk' }) :
   wpAny (model PySem.Challenge.rw_hu0001_01.row.prog w) (ktrTop dp un gd cn cs L a ccd cl outer) (call (.ref 49) [.int n t]) Q E s := by
  k_with_none; w_top off; revert X; k_fill; intro X
  refine wpAny_call ?_
  k_dflt ktr_enter
  k_steps
  rename News _ _ _ _ => kN
  apply ret
  · assumption
  · exact kst_newsOf kN fun p hp => List.mem_cons_of_mem _ hp
local macro_rules | `(tactic| walk_at "call ref") => `(tactic| (k_here; k_dflt (refine' i2d_E ?k1 ?k2 ?k3 ?k4 ?m1 ?k5 ?kC ?kK ?kd ?ku ?z0 ?z1 ?_; (case k1 | k2 | k3 | k4 => k_asm); (case m1 => assumption); (case k5 => k_asm); (case kC => assumption); (case kK => exact rfl); (case kd => ktr_room); (case ku => ktr_units); (case z0 => assumption); (case z1 => assumption)); intro c1' oc1' vs1' tq1' D' us' h' tk' d1' d2' hI' F' N' l1 l2))
set_option maxHeartbeats 2000000 in
theorem lot_E {w : World} {loose : List Str} {mean : ExcName → Option Value} {mg mb : Str → Option Value}
   {dp un : Nat} {gd : Option (List Code)} {cn : Str} {cs : Scope} {a : Addr} {ccd : Value} {cl : List (Str × Addr)} {outer : List Env} {A₀ : Around} {base h₀ : Heap} {L : Addr} {m : Str → Option Value} {s : Shared} {Q E : Value → Shared → Prop}
   {news : List (Addr × Obj)} {n : Int} {t : Tok}
   (B : Below A₀ base outer h₀) (F : Fr h₀ L s.heap m) (X : (Mine.hd.heap_39 w.params).In h₀)
   (N : News h₀ L s.heap ((16, tabObj #[]) :: news)) (hn16 : ∀ p ∈ news, p.1 ≠ 16) (T : Top topProg loose mean mg mb h₀) (C1 : CodeHd base 20 16) (hk : cs.kind = .function)
   (hd : dp + 30 < recursionLimit) (hu : un + 240 < cLine) (h0 : 0 ≤ n) (h1 : n < 32)
   (ret : ∀ c1 oc1 vs1 tq1 t h' tk', oc1.data = .fields vs1 → vs1[1]? = some (.str Q1 tq1) → (∀ p ∈ (16, tabObj #[]) :: news, p.1 < c1) → Fr h₀ L h' m → News h₀ L h' ((c1, oc1) :: (16, hit16 c1) :: news) → Q (.int (lotOf n) t) { s with heap := h', toks := tk' }) :
   wpAny (model PySem.Challenge.rw_hu0001_01.row.prog w) (ktrTop dp un gd cn cs L a ccd cl outer) (call (.ref 49) [.int n t]) Q E s := by
  k_with_none; w_top off; revert X; k_fill; intro X
  refine wpAny_call ?_
  k_dflt ktr_enter
  k_steps
  rename News _ _ _ _ => kN
  rename Obj.data _ = Data.fields _ => hd1
  rename (_ : Array Value)[1]? = some _ => hd2
  rename (∀ p ∈ (16, tabObj #[]) :: news, _) => hlt
  apply ret _ _ _ _ _ _ _ hd1 hd2 hlt
  · assumption
  · exact kst_newsOf kN fun p hp => List.mem_cons_of_mem _ hp
end Mine
end
section
open PySem PySem.W PyProof.Rows
set_option maxRecDepth 100000
namespace Mine
def Inner2C (w : World) (loose : List Str) (mean : ExcName → Option Value) (mg mb : Str → Option Value) (name qual : Str) (params : Arguments) (body : List Stmt) (scope : Scope) (d : Nat) : Prop :=
  ∀ (dp un : Nat) (gd : Option (List Code)) (cn : Str) (cs : Scope) (a : Addr) (ccd : Value) (cl : List (Str × Addr)) (outer : List Env) (A₀ : Around) (base h₀ : Heap) (L : Addr) (m : Str → Option Value) (s : Shared) (Q E : Value → Shared → Prop)
    (f c' ld ca ci cnn : Addr) (doc pm ctv : Value) (oc oa oi on : Obj) (vs : Array Value) (tq : Tok) (news : List (Addr × Obj)) (us : List Value) (ns : List Int) (k : Nat) (l r : Int) (tl tr tn : Tok),
    Below A₀ base outer h₀ → Fr h₀ L s.heap m → (Mine.hd.heap_39 w.params).In h₀ → News h₀ L s.heap news → Top topProg loose mean mg mb h₀ → CodeHd base 27 23 → cs.kind = .function →
    (f, fnMade name qual params body scope [(Str.ofString "n", cnn), (Str.ofString "inner", ci), (Str.ofString "digits", ca)] doc pm c' ctv) ∈ news → (c', oc) ∈ news → oc.data = .fields vs → vs[1]? = some (.str qual tq) →
    (ca, oa) ∈ news → oa.data = .cell (some (.ref ld)) → (ci, oi) ∈ news → oi.data = .cell (some (.ref f)) → (cnn, on) ∈ news → on.data = .cell (some (.int 1 tn)) →
    (ld, W.listOf us.toArray k) ∈ news → IntsAre us ns → Bits ns → us.length ≤ 64 → r - l ≤ 5 → 0 ≤ l → l < r → r ≤ (us.length : Int) → r - l ≤ (d : Int) →
    dp + d + 1 < recursionLimit → un + 8 * (d + 1) < cLine →
    (∀ t h' tk', Fr h₀ L h' m → News h₀ L h' news → Q (.int (vl ns l.toNat (r - l).toNat) t) { s with heap := h', toks := tk' }) →
    wpAny (model PySem.Challenge.rw_hu0001_01.row.prog w) (ktrTop dp un gd cn cs L a ccd cl outer) (call (.ref f) [.int l tl, .int r tr]) Q E s
theorem inner2_ind {w : World} {loose : List Str} {mean : ExcName → Option Value} {mg mb : Str → Option Value} {name qual : Str} {params : Arguments} {body : List Stmt} {scope : Scope}
    (step : ∀ d, Inner2C w loose mean mg mb name qual params body scope d → Inner2C w loose mean mg mb name qual params body scope (d + 1)) : ∀ d, Inner2C w loose mean mg mb name qual params body scope d
  | 0 => by
    unfold Inner2C; intros; exfalso; omega
  | d + 1 => step d (inner2_ind step d)
theorem inner2_app {w : World} {loose : List Str} {mean : ExcName → Option Value} {mg mb : Str → Option Value} {name qual : Str} {params : Arguments} {body : List Stmt} {scope : Scope} (d : Nat)
    {dp un : Nat} {gd : Option (List Code)} {cn : Str} {cs : Scope} {a : Addr} {ccd : Value} {cl : List (Str × Addr)} {outer : List Env} {A₀ : Around} {base h₀ : Heap} {L : Addr} {m : Str → Option Value} {s : Shared} {Q E : Value → Shared → Prop}
    {f c' ld ca ci cnn : Addr} {doc pm ctv : Value} {oc oa oi on : Obj} {vs : Array Value} {tq : Tok} {news : List (Addr × Obj)} {us : List Value} {ns : List Int} {k : Nat} {l r : Int} {tl tr tn : Tok}
    (B : Below A₀ base outer h₀) (F : Fr h₀ L s.heap m) (X : (Mine.hd.heap_39 w.params).In h₀) (N : News h₀ L s.heap news) (T : Top topProg loose mean mg mb h₀) (C : CodeHd base 27 23) (hk : cs.kind = .function)
    (hf : (f, fnMade name qual params body scope [(Str.ofString "n", cnn), (Str.ofString "inner", ci), (Str.ofString "digits", ca)] doc pm c' ctv) ∈ news) (hc : (c', oc) ∈ news) (hcd : oc.data = .fields vs) (hcv : vs[1]? = some (.str qual tq))
    (ha : (ca, oa) ∈ news) (had : oa.data = .cell (some (.ref ld))) (hi : (ci, oi) ∈ news) (hid : oi.data = .cell (some (.ref f))) (hn : (cnn, on) ∈ news) (hnd : on.data = .cell (some (.int 1 tn)))
    (hl : (ld, W.listOf us.toArray k) ∈ news) (hI : IntsAre us ns) (hB : Bits ns) (hlen : us.length ≤ 64) (h5 : r - l ≤ 5) (hl0 : 0 ≤ l) (hlr : l < r) (hr : r ≤ (us.length : Int)) (hsz : r - l ≤ (d : Int))
    (hd : dp + d + 1 < recursionLimit) (hu : un + 8 * (d + 1) < cLine)
    (ih : Inner2C w loose mean mg mb name qual params body scope d)
    (ret : ∀ t h' tk', Fr h₀ L h' m → News h₀ L h' news → Q (.int (vl ns l.toNat (r - l).toNat) t) { s with heap := h', toks := tk' }) :
    wpAny (model PySem.Challenge.rw_hu0001_01.row.prog w) (ktrTop dp un gd cn cs L a ccd cl outer) (call (.ref f) [.int l tl, .int r tr]) Q E s :=
  ih dp un gd cn cs a ccd cl outer A₀ base h₀ L m s Q E f c' ld ca ci cnn doc pm ctv oc oa oi on vs tq news us ns k l r tl tr tn B F X N T C hk hf hc hcd hcv ha had hi hid hn hnd hl hI hB hlen h5 hl0 hlr hr hsz hd hu ret
def inner2Def : Stmt := match PySem.Challenge.pw_hu0001_01.main.body with
  | _ :: _ :: .FunctionDef _ _ (s :: _) _ _ _ _ _ _ _ :: _ => s
  | _ => .Pass ⟨0, 0, 0, 0⟩
local macro_rules | `(tactic| walk_at "eval Name") => `(tactic| (k_here; k_dflt (refine' nameX_F ?N ?c ?m ?d ?_ ?a ?b; (case a | b => rfl); (case N => k_asm); (case c => rfl); (case m => with_reducible assumption); (case d => with_reducible assumption); k_whole)))
local macro_rules | `(tactic| walk_at "binaryOp RShift int int") => `(tactic| (refine rshift_is (by first | assumption | decide) (by assumption) ?_))
local macro_rules | `(tactic| walk_at "binaryOp LShift int int") => `(tactic| (refine lshift_is (by assumption) (by assumption) (by assumption) (by assumption) ?_))
local macro_rules | `(tactic| walk_at "FnAt") => `(tactic| (exact FnAt.of (by k_asm) (by with_reducible assumption)))
local macro_rules | `(tactic| walk_at "callWith ref") => `(tactic| (k_here; kn_here; k_dflt (refine' callWith_F ?k1 ?_; (case k1 => exact FnAt.of (by k_asm) (by with_reducible assumption)); k_whole)))
local macro_rules | `(tactic| walk_at "call ref") => `(tactic| (k_here; kn_here; k_dflt (refine' inner2_app _ ?k1 ?k2 ?k3 ?k4 ?k5 ?kC ?kK ?hf ?hc ?hcd ?hcv ?ha ?had ?hi ?hid ?hn ?hnd ?hl ?hI ?hB ?hlen ?h5 ?hl0 ?hlr ?hr ?hsz ?kd ?ku ?ih ?_; (case k1 | k2 | k3 | k4 | k5 => k_asm); (case kC => k_asm); (case kK => exact rfl); (case hf => k_asm); (case hc => k_asm); (case hcd => k_asm); (case hcv => k_asm); (case ha => k_asm); (case had => k_asm); (case hi => k_asm); (case hid => k_asm); (case hn => k_asm); (case hnd => k_asm); (case hl => k_asm); (case hI => k_asm); (case hB => k_asm); (case ih => k_asm); (case hlen => omega); (case h5 => omega); (case hl0 => omega); (case hlr => omega); (case hr => omega); (case hsz => omega); (case kd => ktr_room); (case ku => ktr_units)); intro t9' h' tk' F' N'))
local macro_rules | `(tactic| walk_at "ite") => `(tactic| first | (refine ite_t (by simp only [beq_iff_eq]; assumption) ?_) | (refine ite_f (by simp only [beq_iff_eq]; assumption) ?_))
set_option maxHeartbeats 1000000 in
theorem inner2_step {w : World} {loose : List Str} {mean : ExcName → Option Value} {mg mb : Str → Option Value} {qual : Str} (d : Nat)
    (IH : Inner2C w loose mean mg mb (Str.ofString "inner") qual (defParams inner2Def) (defBody inner2Def) (defScope inner2Def) d) :
    Inner2C w loose mean mg mb (Str.ofString "inner") qual (defParams inner2Def) (defBody inner2Def) (defScope inner2Def) (d + 1) := by
  simp only [defParams, defBody, defScope, inner2Def, PySem.Challenge.pw_hu0001_01] at IH ⊢
  unfold Inner2C
  intro dp un gd cn cs a ccd cl outer A₀ base h₀ L m s Q E f c' ld ca ci cnn doc pm ctv oc oa oi on vs tq news us ns k l r tl tr tn B F X N T C hk hf hc hcd hcv ha had hi hid hn hnd hl hI hB hlen h5 hl0 hlr hr hsz hd hu ret
  k_with_none; w_top off; revert X; k_fill; intro X
  have hul := IntsAre.length hI
  by_cases hb : l + 1 = r
  · refine wpAny_call ?_
    k_dflt (refine' code_nest ?f1 ?f2 ?f3 ?f4 ?f5 ?r1 ?r2 ?kd ?fm ?cr ?rm ?bd ?lc ?_ ?r4 ?r5 ?r6 ?nd; (case r1 | r2 => exact rfl); (case kd => assumption); (case f1 | f2 | f3 | f4 | f5 => k_asm); (case fm => exact hf); (case cr => exact codeRec_news N hc hcd hcv); (case rm => ktr_room); (case bd => exact BindsTo.of_eq rfl); (case nd => decide); (case lc => exact locs rfl); (case r4 | r5 | r6 => exact rfl); k_whole; intro g' L' h' FG' F' N' B' X' T'; (try dsimp only); (try k_lift B'); (try k_fold))
    k_steps
    have e1 : (r - l).toNat = 1 := by omega
    have e2 : ns.getD l.toNat 0 = vl ns l.toNat (r - l).toNat := by rw [e1, vl_one]
    rw [e2]
    apply ret
    · assumption
    · assumption
  · obtain ⟨mid, sh, e1, e2, g1, g2, g3, g4, g5, g6⟩ := inner2_facts hB hl0 hlr hb h5
    refine wpAny_call ?_
    k_dflt (refine' code_nest ?f1 ?f2 ?f3 ?f4 ?f5 ?r1 ?r2 ?kd ?fm ?cr ?rm ?bd ?lc ?_ ?r4 ?r5 ?r6 ?nd; (case r1 | r2 => exact rfl); (case kd => assumption); (case f1 | f2 | f3 | f4 | f5 => k_asm); (case fm => exact hf); (case cr => exact codeRec_news N hc hcd hcv); (case rm => ktr_room); (case bd => exact BindsTo.of_eq rfl); (case nd => decide); (case lc => exact locs rfl); (case r4 | r5 | r6 => exact rfl); k_whole; intro g' L' h' FG' F' N' B' X' T'; (try dsimp only); (try k_lift B'); (try k_fold))
    k_steps
    rw [g6]
    apply ret
    · assumption
    · assumption
theorem inner2_ok {w : World} {loose : List Str} {mean : ExcName → Option Value} {mg mb : Str → Option Value} {qual : Str} (d : Nat) :
    Inner2C w loose mean mg mb (Str.ofString "inner") qual (defParams inner2Def) (defBody inner2Def) (defScope inner2Def) d := inner2_ind (fun d IH => inner2_step d IH) d
end Mine
end
section
open PySem PySem.W PyProof.Rows
set_option maxRecDepth 100000
namespace Mine
abbrev Q2 : Str := Str.ofString "_digits2int.<locals>.inner"
abbrev hit23 (c : Addr) : Obj := tabObj #[rawInt 20, rawInt 4, .ref c]
theorem len_ints {prog : Program} {w : World} {A : Around} {E : Value → Shared → Prop} {s : Shared} {h₀ : Heap} {L : Addr} {news : List (Addr × Obj)} {D : Addr} {us : List Value} {c : Nat} {Q : Value → Shared → Prop} (N : News h₀ L s.heap news) (hm : (D, W.listOf us.toArray c) ∈ news) (hf : us.length < 2 ^ 62)
    (h : Q (.int (us.length : Nat) (s.toks + 1)) { s with toks := s.toks + 1 + 1 }) : wpAny (model prog w) A (call (.builtin "len") [.ref D]) Q E s := KM.len_K N hm (by simp) hf h
theorem truthy_ints {prog : Program} {w : World} {A : Around} {E : Value → Shared → Prop} {s : Shared} {h₀ : Heap} {L : Addr} {news : List (Addr × Obj)} {D : Addr} {us : List Value} {c : Nat} {b : Bool} {Q : Bool → Shared → Prop} (N : News h₀ L s.heap news) (hm : (D, W.listOf us.toArray c) ∈ news) (hf : us.length < 2 ^ 62) (hb : (!us.toArray.isEmpty) = b)
    (h : Q b { s with toks := s.toks + 1 + 1 }) : wpAny (model prog w) A (truthy (.ref D)) Q E s := by
  subst hb
  exact wpAny_truthy_list (News.isList N hm) (by rw [List.size_toArray]; omega) h
local macro_rules | `(tactic| k_all) => `(tactic| first | assumption | exact ne_of_allLt (by assumption) (by omega))
local macro_rules | `(tactic| walk_at "exec FunctionDef") => `(tactic| (k_here; kn_here; k_dflt (refine' nestDef_K ?d0 ?k0 ?a0 ?_; (case d0 | k0 | a0 => exact rfl)); k_dflt (refine' nestHit_K (ps := #[rawInt 20, rawInt 4, .ref _]) ?F9 ?N9 ?T9 ?C9 ?cd9 ?mem9 ?t9 ?n9 ?cl9 ?_; (case F9 => k_asm); (case N9 => k_asm); (case T9 => k_asm); (case cd9 => exact rfl); (case C9 => kn_code); (case mem9 => (repeat (first | assumption | apply List.mem_cons_of_mem))); (case t9 => kn_triples); (case n9 => kn_hit); (case cl9 => exact rfl)); intro f' ct' dc' h' tk' F' N' l1; (try dsimp only at N'); (try k_lt l1)))
set_option maxHeartbeats 2000000 in
theorem d2i_H {w : World} {loose : List Str} {mean : ExcName → Option Value} {mg mb : Str → Option Value}
   {dp un : Nat} {gd : Option (List Code)} {cn : Str} {cs : Scope} {a : Addr} {ccd : Value} {cl : List (Str × Addr)} {outer : List Env} {A₀ : Around} {base h₀ : Heap} {L : Addr} {m : Str → Option Value} {s : Shared} {Q E : Value → Shared → Prop}
   {news : List (Addr × Obj)} {ld : Addr} {us : List Value} {ns : List Int} {c : Nat} {t' : Tok} {c1 : Addr} {oc1 : Obj} {vs1 : Array Value} {tq1 : Tok}
   (B : Below A₀ base outer h₀) (F : Fr h₀ L s.heap m) (X : (Mine.hd.heap_39 w.params).In h₀)
   (N : News h₀ L s.heap news) (T : Top topProg loose mean mg mb h₀) (C1 : CodeHd base 27 23) (hk : cs.kind = .function)
   (m23 : (23, hit23 c1) ∈ news) (mc1 : (c1, oc1) ∈ news) (hcd1 : oc1.data = .fields vs1) (hcv1 : vs1[1]? = some (.str Q2 tq1))
   (hl : (ld, W.listOf us.toArray c) ∈ news) (hI : IntsAre us ns) (hB : Bits ns) (hlen : us.length ≤ 5)
   (hd : dp + 20 < recursionLimit) (hu : un + 160 < cLine)
   (ret : ∀ t h' tk', Fr h₀ L h' m → News h₀ L h' news → Q (.int (vl ns 0 ns.length) t) { s with heap := h', toks := tk' }) :
   wpAny (model PySem.Challenge.rw_hu0001_01.row.prog w) (ktrTop dp un gd cn cs L a ccd cl outer) (call (.ref 28) [.ref ld, .int 1 t']) Q E s := by
  k_with_none; w_top off; revert X; k_fill; intro X
  have hul := IntsAre.length hI
  by_cases he : us = []
  · skip
    refine wpAny_call ?_
    k_dflt (refine' code_defC ?f1 ?f2 ?f3 ?f4 ?f5 ?r1 ?r2 ?kd ?s1 ?s2 ?rm ?bd ?r3 ?dc ?_ ?r4 ?r5 ?r6; (case r1 | r2 => exact rfl); (case kd => assumption); (case f1 | f2 | f3 | f4 | f5 => k_asm); (case s1 | s2 => k_is); (case rm => ktr_room); (case bd => exact BindsTo.of_eq rfl); (case dc => decide +kernel); (case r3 | r4 | r5 | r6 => exact rfl); k_whole; intro g' L' h' tk' cells' FG' F' N' Y' B' X' T' l1; (try k_lt l1); k_cells Y'; (try simp only [List.cons_append, List.nil_append] at N'); (try dsimp only); (try k_lift B'); (try k_fold))
    have hAll : AllLt L' news := by first | exact l1 | exact allLt_of l1
    k_with "call builtin:len" => (k_dflt (refine len_ints (us := us) (by k_asm) (by (repeat (first | assumption | apply List.mem_cons_of_mem))) (by omega) ?_))
    k_with "truthy ref" => (k_dflt (refine truthy_ints (us := us) (b := false) (by k_asm) (by (repeat (first | assumption | apply List.mem_cons_of_mem))) (by omega) (by subst he; rfl) ?_))
    k_steps
    rename News _ _ _ _ => kN
    subst he
    have hns : ns = [] := List.eq_nil_of_length_eq_zero (by rw [← hul]; rfl)
    have e : vl ns 0 ns.length = 0 := by rw [hns]; rfl
    rw [e] at ret
    apply ret
    · assumption
    · apply kst_newsOf kN
      intro p hp
      (repeat (first | exact hp | apply List.mem_cons_of_mem))
  · skip
    refine wpAny_call ?_
    k_dflt (refine' code_defC ?f1 ?f2 ?f3 ?f4 ?f5 ?r1 ?r2 ?kd ?s1 ?s2 ?rm ?bd ?r3 ?dc ?_ ?r4 ?r5 ?r6; (case r1 | r2 => exact rfl); (case kd => assumption); (case f1 | f2 | f3 | f4 | f5 => k_asm); (case s1 | s2 => k_is); (case rm => ktr_room); (case bd => exact BindsTo.of_eq rfl); (case dc => decide +kernel); (case r3 | r4 | r5 | r6 => exact rfl); k_whole; intro g' L' h' tk' cells' FG' F' N' Y' B' X' T' l1; (try k_lt l1); k_cells Y'; (try simp only [List.cons_append, List.nil_append] at N'); (try dsimp only); (try k_lift B'); (try k_fold))
    have hAll : AllLt L' news := by first | exact l1 | exact allLt_of l1
    k_with "call builtin:len" => (k_dflt (refine len_ints (us := us) (by k_asm) (by (repeat (first | assumption | apply List.mem_cons_of_mem))) (by omega) ?_))
    k_with "truthy ref" => (k_dflt (refine truthy_ints (us := us) (b := true) (by k_asm) (by (repeat (first | assumption | apply List.mem_cons_of_mem))) (by omega) (by cases us <;> first | rfl | exact absurd rfl he) ?_))
    k_steps
    k_dflt (refine' inner2_app 5 ?k1 ?k2 ?k3 ?k4 ?k5 ?kC ?kK ?hf ?hc ?hcd ?hcv ?ha ?had ?hi ?hid ?hn ?hnd ?hl ?hI ?hB ?hlen ?h5 ?hl0 ?hlr ?hr ?hsz ?kd ?ku ?ih ?_)
    case k1 => k_asm
    case k2 => k_asm
    case k3 => k_asm
    case k4 => k_asm
    case k5 => k_asm
    case kC => k_asm
    case kK => exact rfl
    case hf => exact List.Mem.head _
    case hc => (repeat (first | assumption | exact List.Mem.head _ | apply List.mem_cons_of_mem))
    case hcd => assumption
    case hcv => exact hcv1
    case ha => (repeat (first | assumption | exact List.Mem.head _ | apply List.mem_cons_of_mem))
    case had => k_asm
    case hi => (repeat (first | assumption | exact List.Mem.head _ | apply List.mem_cons_of_mem))
    case hid => k_asm
    case hn => (repeat (first | assumption | exact List.Mem.head _ | apply List.mem_cons_of_mem))
    case hnd => k_asm
    case hl => (repeat (first | assumption | apply List.mem_cons_of_mem))
    case hI => assumption
    case hB => assumption
    case hlen => omega
    case h5 => omega
    case hl0 => omega
    case hlr => have : 0 < us.length := List.length_pos_iff.mpr he
                omega
    case hr => omega
    case hsz => omega
    case kd => ktr_room
    case ku => ktr_units
    case ih => exact inner2_ok 5
    intro t9 h' tk' F' N'
    k_steps
    have e : ((us.length : Nat) : Int) - 0 = (ns.length : Int) := by omega
    rw [e, Int.toNat_natCast, show (0 : Int).toNat = 0 from rfl]
    rename News _ _ _ _ => kN
    apply ret
    · assumption
    · apply kst_newsOf kN
      intro p hp
      (repeat (first | exact hp | apply List.mem_cons_of_mem))
end Mine
end
section
open PySem PySem.W PyProof.Rows
set_option maxRecDepth 100000
namespace Mine
local macro_rules | `(tactic| k_all) => `(tactic| first | assumption | exact ne_of_allLt (by assumption) (by omega))
set_option maxHeartbeats 2000000 in
theorem d2i_E {w : World} {loose : List Str} {mean : ExcName → Option Value} {mg mb : Str → Option Value}
   {dp un : Nat} {gd : Option (List Code)} {cn : Str} {cs : Scope} {a : Addr} {ccd : Value} {cl : List (Str × Addr)} {outer : List Env} {A₀ : Around} {base h₀ : Heap} {L : Addr} {m : Str → Option Value} {s : Shared} {Q E : Value → Shared → Prop}
   {news : List (Addr × Obj)} {ld : Addr} {us : List Value} {ns : List Int} {c : Nat} {t' : Tok}
   (B : Below A₀ base outer h₀) (F : Fr h₀ L s.heap m) (X : (Mine.hd.heap_39 w.params).In h₀)
   (N : News h₀ L s.heap ((23, tabObj #[]) :: news)) (hn23 : ∀ p ∈ news, p.1 ≠ 23) (T : Top topProg loose mean mg mb h₀) (C1 : CodeHd base 27 23) (hk : cs.kind = .function)
   (hl : (ld, W.listOf us.toArray c) ∈ news) (hI : IntsAre us ns) (hB : Bits ns) (hlen : us.length ≤ 5)
   (hd : dp + 20 < recursionLimit) (hu : un + 160 < cLine)
   (ret : ∀ c1 oc1 vs1 tq1 t h' tk', oc1.data = .fields vs1 → vs1[1]? = some (.str Q2 tq1) → Fr h₀ L h' m → News h₀ L h' ((c1, oc1) :: (23, hit23 c1) :: news) → (∀ p ∈ (23, tabObj #[]) :: news, p.1 < c1) → Q (.int (vl ns 0 ns.length) t) { s with heap := h', toks := tk' }) :
   wpAny (model PySem.Challenge.rw_hu0001_01.row.prog w) (ktrTop dp un gd cn cs L a ccd cl outer) (call (.ref 28) [.ref ld, .int 1 t']) Q E s := by
  k_with_none; w_top off; revert X; k_fill; intro X
  have hul := IntsAre.length hI
  by_cases he : us = []
  · skip
    refine wpAny_call ?_
    k_dflt (refine' code_defC ?f1 ?f2 ?f3 ?f4 ?f5 ?r1 ?r2 ?kd ?s1 ?s2 ?rm ?bd ?r3 ?dc ?_ ?r4 ?r5 ?r6; (case r1 | r2 => exact rfl); (case kd => assumption); (case f1 | f2 | f3 | f4 | f5 => k_asm); (case s1 | s2 => k_is); (case rm => ktr_room); (case bd => exact BindsTo.of_eq rfl); (case dc => decide +kernel); (case r3 | r4 | r5 | r6 => exact rfl); k_whole; intro g' L' h' tk' cells' FG' F' N' Y' B' X' T' l1; (try k_lt l1); k_cells Y'; (try simp only [List.cons_append, List.nil_append] at N'); (try dsimp only); (try k_lift B'); (try k_fold))
    have hAll : AllLt L' news := l1.2
    have l1c : @LT.lt Nat _ 23 L' := l1.1
    k_with "call builtin:len" => (k_dflt (refine len_ints (us := us) (by k_asm) (by (repeat (first | assumption | apply List.mem_cons_of_mem))) (by omega) ?_))
    k_with "truthy ref" => (k_dflt (refine truthy_ints (us := us) (b := false) (by k_asm) (by (repeat (first | assumption | apply List.mem_cons_of_mem))) (by omega) (by subst he; rfl) ?_))
    k_steps
    rename News _ _ _ _ => kN
    subst he
    have hns : ns = [] := List.eq_nil_of_length_eq_zero (by rw [← hul]; rfl)
    have e : vl ns 0 ns.length = 0 := by rw [hns]; rfl
    rw [e] at ret
    rename Obj.data _ = Data.fields _ => hd1
    rename (_ : Array Value)[1]? = some _ => hd2
    apply ret _ _ _ _ _ _ _ hd1 hd2
    · assumption
    · apply kst_newsOf kN
      intro p hp
      rcases List.mem_cons.mp hp with rfl | hp
      · (repeat (first | exact List.Mem.head _ | apply List.mem_cons_of_mem))
      rcases List.mem_cons.mp hp with rfl | hp
      · (repeat (first | exact List.Mem.head _ | apply List.mem_cons_of_mem))
      (repeat (first | exact hp | apply List.mem_cons_of_mem))
    · intro p hp
      rcases List.mem_cons.mp hp with rfl | hp
      · have : @LT.lt Nat _ 23 L' := l1c
        exact Nat.lt_of_lt_of_le this (by omega)
      · exact lt_of_allLt hAll (by omega) p hp
  · skip
    refine wpAny_call ?_
    k_dflt (refine' code_defC ?f1 ?f2 ?f3 ?f4 ?f5 ?r1 ?r2 ?kd ?s1 ?s2 ?rm ?bd ?r3 ?dc ?_ ?r4 ?r5 ?r6; (case r1 | r2 => exact rfl); (case kd => assumption); (case f1 | f2 | f3 | f4 | f5 => k_asm); (case s1 | s2 => k_is); (case rm => ktr_room); (case bd => exact BindsTo.of_eq rfl); (case dc => decide +kernel); (case r3 | r4 | r5 | r6 => exact rfl); k_whole; intro g' L' h' tk' cells' FG' F' N' Y' B' X' T' l1; (try k_lt l1); k_cells Y'; (try simp only [List.cons_append, List.nil_append] at N'); (try dsimp only); (try k_lift B'); (try k_fold))
    have hAll : AllLt L' news := l1.2
    have l1c : @LT.lt Nat _ 23 L' := l1.1
    k_with "call builtin:len" => (k_dflt (refine len_ints (us := us) (by k_asm) (by (repeat (first | assumption | apply List.mem_cons_of_mem))) (by omega) ?_))
    k_with "truthy ref" => (k_dflt (refine truthy_ints (us := us) (b := true) (by k_asm) (by (repeat (first | assumption | apply List.mem_cons_of_mem))) (by omega) (by cases us <;> first | rfl | exact absurd rfl he) ?_))
    k_steps
    k_dflt (refine' inner2_app 5 ?k1 ?k2 ?k3 ?k4 ?k5 ?kC ?kK ?hf ?hc ?hcd ?hcv ?ha ?had ?hi ?hid ?hn ?hnd ?hl ?hI ?hB ?hlen ?h5 ?hl0 ?hlr ?hr ?hsz ?kd ?ku ?ih ?_)
    case k1 => k_asm
    case k2 => k_asm
    case k3 => k_asm
    case k4 => k_asm
    case k5 => k_asm
    case kC => k_asm
    case kK => exact rfl
    case hf => exact List.Mem.head _
    case hc => (repeat (first | assumption | exact List.Mem.head _ | apply List.mem_cons_of_mem))
    case hcd => assumption
    case hcv => assumption
    case ha => (repeat (first | assumption | exact List.Mem.head _ | apply List.mem_cons_of_mem))
    case had => k_asm
    case hi => (repeat (first | assumption | exact List.Mem.head _ | apply List.mem_cons_of_mem))
    case hid => k_asm
    case hn => (repeat (first | assumption | exact List.Mem.head _ | apply List.mem_cons_of_mem))
    case hnd => k_asm
    case hl => (repeat (first | assumption | apply List.mem_cons_of_mem))
    case hI => assumption
    case hB => assumption
    case hlen => omega
    case h5 => omega
    case hl0 => omega
    case hlr => have : 0 < us.length := List.length_pos_iff.mpr he
                omega
    case hr => omega
    case hsz => omega
    case kd => ktr_room
    case ku => ktr_units
    case ih => exact inner2_ok 5
    intro t9 h' tk' F' N'
    k_steps
    have e : ((us.length : Nat) : Int) - 0 = (ns.length : Int) := by omega
    rw [e, Int.toNat_natCast, show (0 : Int).toNat = 0 from rfl]
    rename News _ _ _ _ => kN
    rename Obj.data _ = Data.fields _ => hd1
    rename (_ : Array Value)[1]? = some _ => hd2
    apply ret _ _ _ _ _ _ _ hd1 hd2
    · assumption
    · apply kst_newsOf kN
      intro p hp
      rcases List.mem_cons.mp hp with rfl | hp
      · (repeat (first | exact List.Mem.head _ | apply List.mem_cons_of_mem))
      rcases List.mem_cons.mp hp with rfl | hp
      · (repeat (first | exact List.Mem.head _ | apply List.mem_cons_of_mem))
      (repeat (first | exact hp | apply List.mem_cons_of_mem))
    · intro p hp
      rcases List.mem_cons.mp hp with rfl | hp
      · have : @LT.lt Nat _ 23 L' := l1c
        exact Nat.lt_of_lt_of_le this (by omega)
      · exact lt_of_allLt hAll (by omega) p hp
end Mine
end
section
open PySem PySem.W PySem.Calls PyProof.Rows PyProof.V PySem.Spec
set_option maxRecDepth 100000
namespace Mine
structure EmptyD (w : World) (d : Addr) (o : Obj) : Prop where
  lo : (d == sysModules) = false
  s : o.IsDictOf (strKind PySem.Challenge.rw_hu0001_01.row.prog w) []
  fs : FlatPairs PyData.str [] []
  i : o.IsDictOf (intKind PySem.Challenge.rw_hu0001_01.row.prog w) []
  fi : FlatPairs PyData.int [] []
local macro_rules | `(tactic| walk_at "exec For Tuple Call cons nil") => `(tactic| (k_here; ((rename Fr _ _ _ _ => lF'); (rename News _ _ _ _ => lN'); with_unfolding_all ((refine' For_turns lF' ?_); k_whole; (refine MethodCall_ ?_); (refine ld lF' (by rfl) ?_); (refine kdl_method (knd := PySem.strKind _ _) (kvs := []) PySem.F.slot_dict_items PySem.F.type_dict_items lN' (by (repeat (first | assumption | apply List.mem_cons_of_mem))) (by k_asm) ?_); (refine callWith_method0 ?_); (refine kta_callItems (knd := PySem.strKind _ _) (kvs := []) lF' lN' (by (repeat (first | assumption | apply List.mem_cons_of_mem))) (by k_asm) (by k_asm) ?_); intro h' hv' F' N'; (refine kta_items (knd := PySem.strKind _ _) (enc := PyData.str) (kvs := []) (xs := []) (by rfl) F' N' hv' (by (repeat (first | assumption | apply List.mem_cons_of_mem))) (by k_asm) (fun _ _ h => Value.isStrOf_shape h) (by rfl) ?_)); clear lF' lN'; intro i' l1; (try k_lt l1))))
set_option maxHeartbeats 2000000 in
theorem addc {w : World} {loose : List Str} {mean : ExcName → Option Value} {mg mb : Str → Option Value}
   {dp un : Nat} {gd : Option (List Code)} {cn : Str} {cs : Scope} {a : Addr} {ccd : Value} {cl : List (Str × Addr)} {outer : List Env} {A₀ : Around} {base h₀ : Heap} {L : Addr} {m : Str → Option Value} {s : Shared} {Q E : Value → Shared → Prop}
   {news : List (Addr × Obj)} {d1 d2 : Addr} {o1 o2 : Obj}
   (B : Below A₀ base outer h₀) (F : Fr h₀ L s.heap m) (X : (Mine.hd.heap_39 w.params).In h₀)
   (N : News h₀ L s.heap news) (T : Top topProg loose mean mg mb h₀) (hk : cs.kind = .function)
   (m1 : (d1, o1) ∈ news) (m2 : (d2, o2) ∈ news) (e1 : EmptyD w d1 o1) (e2 : EmptyD w d2 o2)
   (hd : dp + 20 < recursionLimit) (hu : un + 160 < cLine)
   (ret : ∀ d o h' tk', EmptyD w d o → Fr h₀ L h' m → News h₀ L h' ((d, o) :: news) → (∀ p ∈ news, p.1 < d) → Q (.ref d) { s with heap := h', toks := tk' }) :
   wpAny (model PySem.Challenge.rw_hu0001_01.row.prog w) (ktrTop dp un gd cn cs L a ccd cl outer) (call (.ref 42) [.ref d1, .ref d2]) Q E s := by
  k_with_none; w_top off; revert X; k_fill; intro X
  obtain ⟨lo1, s1, fs1, i1, fi1⟩ := e1
  obtain ⟨lo2, s2, fs2, i2, fi2⟩ := e2
  refine wpAny_call ?_
  k_dflt ktr_enter
  k_steps
  apply ret _ _ _ _ ?e8 ?f8 ?n8 ?l8
  case n8 => assumption
  case e8 => exact ⟨by assumption, by assumption, by assumption, by assumption, by assumption⟩
  case f8 => assumption
  case l8 => first | assumption | exact fun p hp => kst_ltOf (by assumption) p hp
end Mine
end
section
open PySem PySem.W PySem.Calls PyProof.Rows PyProof.V PySem.Spec
set_option maxRecDepth 100000
namespace Mine
abbrev tupO (vs : List Value) (k : Nat) : Obj := { cls := .type "tuple", data := .seq vs.toArray k }
local macro_rules | `(tactic| walk_at "none such") => `(tactic| fail)
local macro_rules | `(tactic| walk_at "call ref") => `(tactic| (k_here; k_dflt (refine' addc ?k1 ?k2 ?k3 ?k4 ?k5 ?kK ?m1 ?m2 ?e1 ?e2 ?kd ?ku ?_; (case k1 | k2 | k3 | k4 | k5 => k_asm); (case kK => exact rfl); (case m1 => assumption); (case m2 => assumption); (case e1 => assumption); (case e2 => assumption); (case kd => ktr_room); (case ku => ktr_units)); intro d' o' h' tk' e' F' N' l1))
set_option maxHeartbeats 2000000 in
theorem afs {w : World} {loose : List Str} {mean : ExcName → Option Value} {mg mb : Str → Option Value}
   {dp un : Nat} {gd : Option (List Code)} {cn : Str} {cs : Scope} {a : Addr} {ccd : Value} {cl : List (Str × Addr)} {outer : List Env} {A₀ : Around} {base h₀ : Heap} {L : Addr} {m : Str → Option Value} {s : Shared} {Q E : Value → Shared → Prop}
   {news : List (Addr × Obj)} {d1 d2 tw ts : Addr} {o1 o2 : Obj} {k1 k2 : Nat} {a0 a1 a2 a3 b0 b1 b2 b3 : Int} {t0 t1 t2 t3 u0 u1 u2 u3 : Tok}
   (B : Below A₀ base outer h₀) (F : Fr h₀ L s.heap m) (X : (Mine.hd.heap_39 w.params).In h₀)
   (N : News h₀ L s.heap news) (T : Top topProg loose mean mg mb h₀) (hk : cs.kind = .function)
   (mw : (tw, tupO [.int a0 t0, .int a1 t1, .int a2 t2, .int a3 t3, .ref d1] k1) ∈ news) (ms : (ts, tupO [.int b0 u0, .int b1 u1, .int b2 u2, .int b3 u3, .ref d2] k2) ∈ news)
   (m1 : (d1, o1) ∈ news) (m2 : (d2, o2) ∈ news) (e1 : EmptyD w d1 o1) (e2 : EmptyD w d2 o2)
   (hd : dp + 30 < recursionLimit) (hu : un + 240 < cLine)
   (ret : ∀ D d o k u0 u1 u2 u3 h' tk', EmptyD w d o → Fr h₀ L h' m → News h₀ L h' ((D, tupO [.int (b0 + a0) u0, .int (b1 + a1) u1, .int (b2 + a2) u2, .int (b3 + a3) u3, .ref d] k) :: (d, o) :: news) → (∀ p ∈ news, p.1 < d) → @LT.lt Nat _ d D → Q (.ref D) { s with heap := h', toks := tk' }) :
   wpAny (model PySem.Challenge.rw_hu0001_01.row.prog w) (ktrTop dp un gd cn cs L a ccd cl outer) (call (.ref 35) [.ref tw, .ref ts]) Q E s := by
  k_with_none; w_top off; revert X; k_fill; intro X
  refine wpAny_call ?_
  k_dflt ktr_enter
  k_steps
  apply ret _ _ _ _ _ _ _ _ _ _ ?e8 ?f8 ?n8 ?l8 ?g8
  case n8 => assumption
  case e8 => assumption
  case f8 => assumption
  case l8 => first | assumption | exact fun p hp => kst_ltOf (by assumption) p hp
  case g8 => omega
end Mine
end
section
open PySem PySem.W PySem.Calls PyProof.Rows PyProof.V PySem.Spec
set_option maxRecDepth 100000
namespace Mine
/-- a turn's end: the ledger is the iterator and what the invariant speaks of -/
def EndI (h₀ : Heap) (L : Addr) (J : (Str → Option Value) → List (Addr × Obj) → Prop) (I : Addr) (oI : Obj) (s₁ s₂ : Shared) : Prop :=
  ∃ h' tk m' nx, s₂ = { s₁ with heap := h', toks := tk } ∧ Fr h₀ L h' m' ∧ News h₀ L h' ((I, oI) :: nx) ∧ (∀ p ∈ nx, p.1 ≠ I) ∧ J m' nx
def PostI (h₀ : Heap) (L : Addr) (J : (Str → Option Value) → List (Addr × Obj) → Prop) (I : Addr) (oI : Obj) (s₁ : Shared) (Q : Flow → Shared → Prop) : Flow → Shared → Prop
  | .next, s₂ | .cont, s₂ => EndI h₀ L J I oI s₁ s₂
  | .brk, s₂ => Q .next s₂
  | .ret v, s₂ => Q (.ret v) s₂
section
variable {h₀ h : Heap} {L I : Addr} {oI : Obj} {own src nx : List (Addr × Obj)}
theorem EndI.intro {J : (Str → Option Value) → List (Addr × Obj) → Prop} {s₁ : Shared} {h' : Heap} {tk : Nat} {m' : Str → Option Value} {led : List (Addr × Obj)} (F : Fr h₀ L h' m') (N : News h₀ L h' led)
    (hI : (I, oI) ∈ led) (hs : ∀ p ∈ nx, p ∈ led) (hn : ∀ p ∈ nx, p.1 ≠ I) (hj : J m' nx) : EndI h₀ L J I oI s₁ { s₁ with heap := h', toks := tk } :=
  ⟨_, _, _, nx, rfl, F, kst_newsOf N (List.forall_mem_cons.mpr ⟨hI, hs⟩), hn, hj⟩
/-- the objects that the loop itself holds: the iterator, and those of the ledger that it goes over -/
theorem held (N : News h₀ L h ((I, oI) :: nx)) (hsrc : ∀ p ∈ src, p ∈ nx) (at' : ∀ p ∈ own, p.1 ∈ I :: src.map Prod.fst) (got : ∀ p ∈ own, h.get? p.1 = some p.2) : ∀ p ∈ own, p ∈ (I, oI) :: src := by
  have same : ∀ p ∈ own, ∀ q ∈ (I, oI) :: nx, p.1 = q.1 → p = q := fun p hp q hq e =>
    Prod.ext e (Option.some.inj ((got p hp).symm.trans (e ▸ (N q hq).1)))
  intro p hp
  rcases List.mem_cons.mp (at' p hp) with e | e
  · exact same p hp _ (.head _) e ▸ .head _
  · obtain ⟨q, hq, e⟩ := List.mem_map.mp e
    exact same p hp q (.tail _ (hsrc q hq)) e.symm ▸ .tail _ hq
theorem EndI.step {J : (Str → Option Value) → List (Addr × Obj) → Prop} {s₁ s₂ : Shared} (e : EndI h₀ L J I oI s₁ s₂) (hown : ∀ p ∈ own, p ∈ (I, oI) :: src) (hsrc : ∀ m nx, J m nx → ∀ p ∈ src, p ∈ nx) :
    LoopStepU h₀ L [I] own J s₁ .next s₂ := by
  obtain ⟨h', tk, m', ny, rfl, F, N, off, hj⟩ := e
  refine .intro F (kst_newsOf N fun p hp => ?_) (fun p hp => by simpa using off p hp) hj
  rcases List.mem_append.mp hp with hp | hp
  · rcases List.mem_cons.mp (hown p hp) with rfl | hp
    · exact .head _
    · exact .tail _ (hsrc _ _ hj p hp)
  · exact .tail _ hp
end
section
variable {prog : Program} {w : World} {A : Around} {E : Value → Shared → Prop} {s : Shared} {env : Env} {h₀ : Heap} {x : Str} {body : List Stmt} {Q : Flow → Shared → Prop}
  {I : Addr} {src news : List (Addr × Obj)} {n : Nat} {P : Nat → Value → Prop} {St : Nat → Heap → Prop} {m₀ : Str → Option Value}
/-- a loop whose invariant J speaks of the turn's number, the names and the ledger without the iterator; the ledger may be another one at each turn, what the loop goes over (src) stays -/
theorem loop_held (J : Nat → (Str → Option Value) → List (Addr × Obj) → Prop) (W : Walks prog w A I (I :: src.map Prod.fst) [I] n P St) (seen : ∀ i g, St i g → ∃ o, g.get? I = some o) (hsrc : ∀ i m nx, J i m nx → ∀ p ∈ src, p ∈ nx)
    (h0 : St 0 s.heap) (hIL : I ≠ env.locals) (hI : h₀.get? I = none) (off : ∀ p ∈ news, p.1 ≠ I) (F : Fr h₀ env.locals s.heap m₀) (N : News h₀ env.locals s.heap news) (hj : J 0 m₀ news)
    (turn : ∀ i v m₁ nx oI g tk, i < n → P i v → J i m₁ nx → (∀ p ∈ nx, p.1 ≠ I) → Fr h₀ env.locals g (fun y => if y = x then some v else m₁ y) → News h₀ env.locals g ((I, oI) :: nx) →
      wpAny (model prog w) A (execs body env) (PostI h₀ env.locals (J (i + 1)) I oI { s with heap := g, toks := tk } Q) E { s with heap := g, toks := tk })
    (done : ∀ m₁ nx g tk, J n m₁ nx → Fr h₀ env.locals g m₁ → News h₀ env.locals g nx → Q .next { s with heap := g, toks := tk }) : LoopAtV prog w A h₀ env x body Q E (.ref I) s := by
  have notL : env.locals ∉ I :: src.map Prod.fst := fun hm => by
    rcases List.mem_cons.mp hm with e | e
    · exact hIL e.symm
    · obtain ⟨q, hq, e⟩ := List.mem_map.mp e
      exact (N q (hsrc _ _ _ hj q hq)).2.1 e
  refine ⟨I, _, [I], n, P, St, m₀, news, J, rfl, W, notL, fun b hb => List.mem_singleton.mp hb ▸ hI, fun p hp => by simpa using off p hp, h0, F, N, hj, ?_, fun g tk m₁ nx F' N' _ hJ => done m₁ nx g tk hJ F' N'⟩
  rintro i v m₁ nx _ own ⟨g, tk, rfl⟩ hi hP hJ offw inFp got have' hSt F₁ N₁
  obtain ⟨oI, hoI⟩ := seen _ _ hSt
  have mI : (I, oI) ∈ own := have' I (.head _) hI oI hoI
  have N₂ : News h₀ env.locals g ((I, oI) :: nx) := kst_newsOf N₁ (List.forall_mem_cons.mpr ⟨List.mem_append_left _ mI, fun p hp => List.mem_append_right _ hp⟩)
  have hown := held N₂ (hsrc _ _ _ hJ) inFp got
  refine wpAny_mono (turn i v m₁ nx oI g tk hi hP hJ (fun p hp => by simpa using offw p hp) F₁ N₂) (fun f s₂ q => ?_) fun _ _ q => q
  match f, q with
  | .next, q => exact .next (EndI.step q hown (hsrc _))
  | .cont, q => exact .cont (EndI.step q hown (hsrc _))
  | .brk, q => exact .brk q
  | .ret _, q => exact .ret q
/-- over a list that stands in the ledger -/
theorem iter_GV {l : Addr} {vs : List Value} {nn : Nat} (J : Nat → (Str → Option Value) → List (Addr × Obj) → Prop)
    (hh : A.handled = none) (hl : ∀ i m nx, J i m nx → (l, listOf vs.toArray nn) ∈ nx) (F : Fr h₀ env.locals s.heap m₀) (N : News h₀ env.locals s.heap news) (hj : J 0 m₀ news)
    (turn : ∀ i v m₁ nx I oI g tk, vs[i]? = some v → J i m₁ nx → (∀ p ∈ nx, p.1 ≠ I) → Fr h₀ env.locals g (fun y => if y = x then some v else m₁ y) → News h₀ env.locals g ((I, oI) :: nx) →
      wpAny (model prog w) A (execs body env) (PostI h₀ env.locals (J (i + 1)) I oI { s with heap := g, toks := tk } Q) E { s with heap := g, toks := tk })
    (done : ∀ m₁ nx g tk, J vs.length m₁ nx → Fr h₀ env.locals g m₁ → News h₀ env.locals g nx → Q .next { s with heap := g, toks := tk }) :
    wpAny (model prog w) A (pyIter (.ref l)) (fun it s₂ => LoopAtV prog w A h₀ env x body Q E it s₂) E s := by
  have isL := News.isList N (hl _ _ _ hj)
  have N' := N.pushKeep { cls := .type "list_iterator", data := .fields #[.ref l, .int 0 0] }
  refine wpAny_pyIter_list isL (loop_held (src := [(l, listOf vs.toArray nn)]) J (Walks.list hh _ l (N.apart _ (hl _ _ _ hj)) _) (fun i g st => let ⟨o, e, _⟩ := st.1; ⟨o, e⟩) (fun i m nx hJ => by simpa using hl i m nx hJ)
    ⟨⟨_, Heap.get?_push_size _ rfl, rfl, rfl⟩, News.isList N' (hl _ _ _ hj)⟩ (Nat.ne_of_gt F.ns.lt) (next_is_new F) N.apart (F.push _) N' hj ?_ ?_)
  · intro i v m₁ nx oI g tk _ hP
    exact turn i v m₁ nx _ oI g tk (by simpa using hP)
  · intro m₁ nx g tk hJ
    exact done m₁ nx g tk (by simpa using hJ)
theorem iter_GL {l : Addr} {vs : List Value} {ns : List Int} {nn : Nat} (J : Nat → (Str → Option Value) → List (Addr × Obj) → Prop)
    (hh : A.handled = none) (hl : ∀ i m nx, J i m nx → (l, listOf vs.toArray nn) ∈ nx) (hi : IntsAre vs ns) (F : Fr h₀ env.locals s.heap m₀) (N : News h₀ env.locals s.heap news) (hj : J 0 m₀ news)
    (turn : ∀ i k t m₁ nx I oI g tk, ns[i]? = some k → J i m₁ nx → (∀ p ∈ nx, p.1 ≠ I) → Fr h₀ env.locals g (fun y => if y = x then some (.int k t) else m₁ y) → News h₀ env.locals g ((I, oI) :: nx) →
      wpAny (model prog w) A (execs body env) (PostI h₀ env.locals (J (i + 1)) I oI { s with heap := g, toks := tk } Q) E { s with heap := g, toks := tk })
    (done : ∀ m₁ nx g tk, J ns.length m₁ nx → Fr h₀ env.locals g m₁ → News h₀ env.locals g nx → Q .next { s with heap := g, toks := tk }) :
    wpAny (model prog w) A (pyIter (.ref l)) (fun it s₂ => LoopAtV prog w A h₀ env x body Q E it s₂) E s := by
  refine iter_GV J hh hl F N hj (fun i v m₁ nx I oI g tk hv hJ => ?_) fun m₁ nx g tk hJ => done m₁ nx g tk (hi.length ▸ hJ)
  have lt : i < ns.length := hi.length ▸ (List.getElem?_eq_some_iff.mp hv).1
  obtain ⟨t, ht⟩ := hi.get i ns[i] (List.getElem?_eq_getElem lt)
  cases hv.symm.trans ht
  exact turn i _ t m₁ nx I oI g tk (List.getElem?_eq_getElem lt) hJ
/-- over a range by ones -/
theorem iter_GR {r : Addr} {a b : Int} {t₀ u₀ v₀ : Tok} {n : Nat} (J : Nat → (Str → Option Value) → List (Addr × Obj) → Prop)
    (hh : A.handled = none) (hr : IsRange s.heap r a b 1 t₀ u₀ v₀) (small : Builtin.Range.small a b 1 = true) (size : Builtin.Range.rangeSize a b 1 = (n : Int)) (F : Fr h₀ env.locals s.heap m₀) (N : News h₀ env.locals s.heap news) (hj : J 0 m₀ news)
    (turn : ∀ i t m₁ nx I oI g tk, i < n → J i m₁ nx → (∀ p ∈ nx, p.1 ≠ I) → Fr h₀ env.locals g (fun y => if y = x then some (.int (a + (i : Nat)) t) else m₁ y) → News h₀ env.locals g ((I, oI) :: nx) →
      wpAny (model prog w) A (execs body env) (PostI h₀ env.locals (J (i + 1)) I oI { s with heap := g, toks := tk } Q) E { s with heap := g, toks := tk })
    (done : ∀ m₁ nx g tk, J n m₁ nx → Fr h₀ env.locals g m₁ → News h₀ env.locals g nx → Q .next { s with heap := g, toks := tk }) :
    wpAny (model prog w) A (pyIter (.ref r)) (fun it s₂ => LoopAtV prog w A h₀ env x body Q E it s₂) E s := by
  have first : ∀ {g : Heap} {o : Obj}, o = { cls := .type "range_iterator", data := .fields #[rawInt a, rawInt (Builtin.Range.rangeSize a b 1), rawInt 1] } → g.get? s.heap.objs.size = some o → IsRangeIter g s.heap.objs.size (a + ((0 : Nat) : Int) * 1) ((n : Int) - ((0 : Nat) : Int)) 1 := by
    rintro g _ rfl e
    rw [size] at e
    simpa [IsRangeIter] using e
  refine wpAny_pyIter_range hr small (loop_held (src := []) J (LCg.range_walks hh a n) (fun i g st => ⟨_, st⟩) (fun _ _ _ _ p hp => nomatch hp)
    (first rfl (Heap.get?_push_size _ rfl)) (Nat.ne_of_gt F.ns.lt) (next_is_new F) N.apart (F.push _) (N.pushKeep _) hj ?_ done)
  rintro i _ m₁ nx oI g tk hi ⟨t, rfl⟩
  exact turn i t m₁ nx _ oI g tk hi
end
end Mine
end
section
open PySem PySem.W PySem.Calls PyProof.Rows PyProof.V PySem.Spec
set_option maxRecDepth 100000
namespace Mine
def PostT (h₀ : Heap) (L : Addr) (J : (Str → Option Value) → List (Addr × Obj) → Prop) (I : Addr) (oI : Obj) (s₁ : Shared) (f : Flow) (s₂ : Shared) : Prop := f = .next ∧ EndI h₀ L J I oI s₁ s₂
section
variable {prog : Program} {w : World} {A : Around} {E : Value → Shared → Prop} {s : Shared} {env : Env} {h₀ : Heap} {target : Expr} {body : List Stmt} {Q : Flow → Shared → Prop}
/-- as iter_GL, for a target that is no plain local name (a cell): the turn stores it itself -/
theorem iter_GLT {l : Addr} {vs : List Value} {ns : List Int} {nn : Nat} {m₀ : Str → Option Value} {news : List (Addr × Obj)} (J : Nat → (Str → Option Value) → List (Addr × Obj) → Prop)
    (hh : A.handled = none) (ht : ∀ it v, letOwnedTupleGo target it v = pure ()) (hl : ∀ i m nx, J i m nx → (l, listOf vs.toArray nn) ∈ nx) (hi : IntsAre vs ns) (F : Fr h₀ env.locals s.heap m₀) (N : News h₀ env.locals s.heap news) (hj : J 0 m₀ news)
    (turn : ∀ i k t m₁ nx I oI (s₁ : Shared), ns[i]? = some k → J i m₁ nx → (∀ p ∈ nx, p.1 ≠ I) → Fr h₀ env.locals s₁.heap m₁ → News h₀ env.locals s₁.heap ((I, oI) :: nx) →
      wpAny (model prog w) A (assign target env (.int k t)) (fun _ s₃ => wpAny (model prog w) A (execs body env) (PostT h₀ env.locals (J (i + 1)) I oI s₁) E s₃) E s₁)
    (done : ∀ m₁ nx g tk, J ns.length m₁ nx → Fr h₀ env.locals g m₁ → News h₀ env.locals g nx → Q .next { s with heap := g, toks := tk }) :
    wpAny (model prog w) A (pyIter (.ref l)) (fun it s₂ => LoopAtT prog w A h₀ env target body Q E it s₂) E s := by
  have ml := hl _ _ _ hj
  have N' := N.pushKeep { cls := .type "list_iterator", data := .fields #[.ref l, .int 0 0] }
  have away : env.locals ∉ [s.heap.objs.size, l] := by
    have h1 : env.locals ≠ s.heap.objs.size := Nat.ne_of_lt F.ns.lt
    have h2 : env.locals ≠ l := Ne.symm (N.ne ml)
    simp [h1, h2]
  refine wpAny_pyIter_list (News.isList N ml) ⟨_, _, _, _, _, _, m₀, news, J, rfl, Walks.list hh _ l (N.apart _ ml) vs.toArray, away, fun b hb => List.mem_singleton.mp hb ▸ next_is_new F, fun p hp => by simpa using N.apart p hp,
    ⟨⟨_, Heap.get?_push_size _ rfl, rfl, rfl⟩, News.isList N' ml⟩, F.push _, N', fun _ _ _ _ _ q => (ht _ _).symm ▸ wpAny_pure q, hj, ?_, fun g tk m₁ nx F' N' _ hJ => done m₁ nx g tk (by rw [← hi.length]; simpa using hJ) F' N'⟩
  intro i v m₁ nx s₁ own lt hP hJ offw inFp got have' hSt F₁ N₁
  obtain ⟨oI, hoI, _⟩ := hSt.1
  have mI := have' _ (.head _) (next_is_new F) oI hoI
  have N₂ : News h₀ env.locals s₁.heap ((s.heap.objs.size, oI) :: nx) := kst_newsOf N₁ (List.forall_mem_cons.mpr ⟨List.mem_append_left _ mI, fun p hp => List.mem_append_right _ hp⟩)
  have src : ∀ i m nx, J i m nx → ∀ p ∈ [(l, listOf vs.toArray nn)], p ∈ nx := fun i m nx hJ => by simpa using hl i m nx hJ
  have hown := held N₂ (src _ _ _ hJ) inFp got
  have lt' : i < ns.length := by rw [← hi.length]; simpa using lt
  obtain ⟨t, hv⟩ := hi.get i ns[i] (List.getElem?_eq_getElem lt')
  cases hv.symm.trans (show vs[i]? = some v by simpa using hP)
  refine wpAny_mono (turn i _ t m₁ nx _ oI s₁ (List.getElem?_eq_getElem lt') hJ (fun p hp => by simpa using offw p hp) F₁ N₂) (fun _ s₃ q => wpAny_mono q (fun f s₂ q => ?_) fun _ _ q => q) fun _ _ q => q
  obtain ⟨rfl, q⟩ := q
  exact EndI.step q hown (src _)
end
end Mine
end
section
open PySem PySem.W PySem.Calls PyProof.Rows PyProof.V PySem.Spec
set_option maxRecDepth 100000
namespace Mine
section
variable {prog : Program} {w : World} {A : Around} {E : Value → Shared → Prop} {s : Shared} {h₀ : Heap} {L : Addr} {m : Str → Option Value} {news : List (Addr × Obj)}
theorem cut_fields {sl : Addr} {a b c : Value} {Q : Value × Value × Value → Shared → Prop} (hs : s.heap.IsSliceOf sl a b c) (h : Q (a, b, c) s) : wpAny (model prog w) A (Builtin.Slice.sliceFields (.ref sl)) Q E s := by
  obtain ⟨_, ho, _, hd⟩ := hs
  have part : ∀ (i : Nat) (v : Value) (R : Value → Shared → Prop), #[a, b, c][i]? = some v → R v s → wpAny (model prog w) A (field (.ref sl) i) R E s := fun i v R e r => wpAny_field ho hd e r
  exact wpAny_bind (part 0 a _ rfl (wpAny_bind (part 1 b _ rfl (wpAny_bind (part 2 c _ rfl (wpAny_pure h))))))
/-- [:4] upon five places: from 0, by ones, four of them -/
theorem cut_of5 {sl : Addr} {u : Tok} {Q : Int × Int × Nat → Shared → Prop} (hs : s.heap.IsSliceOf sl .none (.int 4 u) .none) (h : Q (0, 1, 4) s) :
    wpAny (model prog w) A (Builtin.Slice.sliceApplied (.ref sl) (pure ((5 : Nat) : Int))) Q E s :=
  wpAny_bind (cut_fields hs (wpAny_bind (slicePart_none (wpAny_bind (slicePart_none (wpAny_bind (slicePart_int (wpAny_bind (wpAny_pure (wpAny_pure h)))))))))) 
theorem five_cut4 {t sl : Addr} {a b c d e : Value} {u : Tok} {Q : Value → Shared → Prop} (ht : IsTup s.heap t #[a, b, c, d, e]) (hs : s.heap.IsSliceOf sl .none (.int 4 u) .none)
    (h : Q (.ref s.heap.objs.size) { s with heap := s.heap.push { cls := .type "tuple", data := .seq #[a, b, c, d] } }) : wpAny (model prog w) A (getItem (.ref t) (.ref sl)) Q E s := by
  have isSlice : s.TypeIs (.ref sl) "slice" := let ⟨o, ho, hc, _⟩ := hs; ⟨o, ho, hc⟩
  refine wpAny_getItem_slot ht.typeIs (by decide) slot_tuple_getitem (wpAny_call_entry slot_tuple_getitem ht.typeIs entry_tuple_getitem ?_ (args_tuple_getitem _ _))
  refine wpAny_bind (m := Builtin.Tuple.tupleItemsOf (.ref t)) (tupleItemsOf_ ht (wpAny_bind (wpAny_typeOf isSlice ?_)))
  refine wpAny_bind (cut_of5 hs ?_)
  exact wpAny_bind (m := Builtin.Tuple.tupleExact #[a, b, c, d]) (wpAny_newObj_type (wpAny_pure ⟨_, rfl, h⟩) (Nat.le_of_ble_eq_true rfl))
/-- t[:4] of a tuple of five that stands in the ledger -/
theorem slice_tuple_4 {value slice : Expr} {t : Addr} {a b c d e : Value} {k : Nat} {u : Tok} {Q : Value → Shared → Prop}
    (F : Fr h₀ L s.heap m) (N : News h₀ L s.heap news) (hm : (t, ({ cls := .type "tuple", data := .seq #[a, b, c, d, e] k } : Obj)) ∈ news)
    (h : ∀ D g, Fr h₀ L g m → News h₀ L g ((D, { cls := .type "tuple", data := .seq #[a, b, c, d] }) :: news) → (∀ p ∈ news, p.1 < D) → Q (.ref D) { s with heap := g })
    (ops : subscripted slice false (.ref t) (.ref s.heap.objs.size) = operate [.ref s.heap.objs.size, .ref t] (getItem (.ref t) (.ref s.heap.objs.size)) := by with_unfolding_all rfl)
    (temp : ∀ r, letTemporaryGo value (.ref t) r = pure () := by intro _; with_unfolding_all rfl) :
    wpAny (model prog w) A (subscriptTail value slice (.ref t) (.ref s.heap.objs.size)) Q E { s with heap := s.heap.push { cls := .type "slice", data := .fields #[.none, .int 4 u, .none] } } := by
  have N₁ := N.pushKeep { cls := .type "slice", data := .fields #[.none, .int 4 u, .none] }
  have isT := News.isTup N₁ hm
  refine subscriptTail_ops (s := { s with heap := s.heap.push { cls := .type "slice", data := .fields #[.none, .int 4 u, .none] } }) isT.typeIs slot_tuple_getitem.lookup (five_cut4 isT (.new ..) (h _ _ ((F.push _).push _) (N₁.push (F.push _) _) ?_)) ops temp
  exact fun p hp => Heap.lt_size (N₁ p hp).1
end
end Mine
end
section
open PySem PySem.W PySem.Calls PyProof.Rows PyProof.V PySem.Spec
set_option maxRecDepth 100000
namespace Mine
def psum (ns : List Int) (q : Nat) : Int := ns.foldl (fun a x => x ^ q + a) 0
theorem psum_take {ns : List Int} {i : Nat} {n : Int} (h : ns[i]? = some n) (q : Nat) : psum (ns.take (i + 1)) q = n ^ q + psum (ns.take i) q := by
  unfold psum
  rw [List.take_add_one, h, List.foldl_append]; rfl
theorem pow_is {prog : Program} {w : World} {A : Around} {E : Value → Shared → Prop} {s : Shared} {a n : Int} {t u : Tok} {Q : Value → Shared → Prop} (q : Nat) (hn : n = (q : Int)) (hq : q ≤ 100) (ha : a.natAbs < 2 ^ 64) (h : Q (.int (a ^ q) s.toks) { s with toks := s.toks + 1 }) : wpAny (model prog w) A (binaryOp .Pow (.int a t) (.int n u)) Q E s := by
  subst hn
  refine pow_int_small (by omega) (by omega) ha ?_
  rw [Int.toNat_natCast]; exact h
abbrev nWhole : Str := Str.ofString "whole"
abbrev sumTup (ns : List Int) (p : Nat) (d : Addr) (k : Nat) (t0 t1 t2 t3 : Tok) : Obj := tupO [.int (psum ns p) t0, .int (psum ns (p + 1)) t1, .int (psum ns (p + 2)) t2, .int (psum ns (p + 3)) t3, .ref d] k
def SumEnd (w : World) (h₀ : Heap) (L : Addr) (m₀ : Str → Option Value) (ns : List Int) (p : Nat) (cn : Addr) (R : List (Addr × Obj)) (I : Addr) (oI : Obj) (s₁ : Shared) (f : Flow) (s₂ : Shared) : Prop :=
  f = .next ∧ ∃ h' tk tw d od oc vo k t0 t1 t2 t3 m', s₂ = { s₁ with heap := h', toks := tk } ∧ Fr h₀ L h' m' ∧ News h₀ L h' ((I, oI) :: (tw, sumTup ns p d k t0 t1 t2 t3) :: (d, od) :: (cn, oc) :: R) ∧ EmptyD w d od ∧ oc.data = .cell vo ∧
    @Ne Nat tw cn ∧ @Ne Nat d cn ∧ @Ne Nat tw I ∧ @Ne Nat d I ∧ m' nWhole = some (.ref tw) ∧ ∀ z, z ≠ nWhole → m' z = m₀ z
theorem sum_loop {prog : Program} {w : World} {A : Around} {E : Value → Shared → Prop} {s : Shared} {env : Env} {h₀ : Heap} {target : Expr} {body : List Stmt} {Q : Flow → Shared → Prop} {m₀ : Str → Option Value}
    {ln cn tw d : Addr} {us : List Value} {ns : List Int} {c k : Nat} {od oc : Obj} {vo : Option Value} {z0 z1 z2 z3 : Tok} {R : List (Addr × Obj)} (p : Nat)
    (hh : A.handled = none) (ht : ∀ it v, letOwnedTupleGo target it v = pure ()) (hI : IntsAre us ns) (F : Fr h₀ env.locals s.heap m₀)
    (N : News h₀ env.locals s.heap ((tw, tupO [.int 0 z0, .int 0 z1, .int 0 z2, .int 0 z3, .ref d] k) :: (d, od) :: (cn, oc) :: R)) (e : EmptyD w d od) (hoc : oc.data = .cell vo) (hl : (ln, W.listOf us.toArray c) ∈ R) (hR : ∀ q ∈ R, q.1 ≠ cn) (n1 : @Ne Nat tw cn) (n2 : @Ne Nat d cn)
    (hm : m₀ nWhole = some (.ref tw))
    (turn : ∀ i n t (tw d : Addr) od oc vo k t0 t1 t2 t3 I oI (s₁ : Shared), ns[i]? = some n → EmptyD w d od → oc.data = .cell vo → @Ne Nat tw cn → @Ne Nat d cn → @Ne Nat I cn → (∀ q ∈ R, q.1 ≠ I) → Fr h₀ env.locals s₁.heap (fun y => if y = nWhole then some (.ref tw) else m₀ y) →
      News h₀ env.locals s₁.heap ((I, oI) :: (tw, sumTup (ns.take i) p d k t0 t1 t2 t3) :: (d, od) :: (cn, oc) :: R) →
      wpAny (model prog w) A (assign target env (.int n t)) (fun _ s₃ => wpAny (model prog w) A (execs body env) (SumEnd w h₀ env.locals m₀ (ns.take (i + 1)) p cn R I oI s₁) E s₃) E s₁)
    (done : ∀ (tw d : Addr) od oc k t0 t1 t2 t3 h tk, Fr h₀ env.locals h (fun y => if y = nWhole then some (.ref tw) else m₀ y) → News h₀ env.locals h ((tw, sumTup ns p d k t0 t1 t2 t3) :: (d, od) :: (cn, oc) :: R) → Q .next { s with heap := h, toks := tk }) :
    wpAny (model prog w) A (pyIter (.ref ln)) (fun it s₂ => LoopAtT prog w A h₀ env target body Q E it s₂) E s := by
  have canon : ∀ {m : Str → Option Value} {tw : Addr}, m nWhole = some (.ref tw) → (∀ z, z ≠ nWhole → m z = m₀ z) → m = fun y => if y = nWhole then some (.ref tw) else m₀ y := by
    intro m tw h1 h2
    funext y
    by_cases hy : y = nWhole
    · rw [if_pos hy, hy]; exact h1
    · rw [if_neg hy]; exact h2 y hy
  refine iter_GLT (nn := c) (fun i m nx => ∃ (tw d : Addr) (od oc : Obj) (vo : Option Value) (k : Nat) (t0 t1 t2 t3 : Tok), nx = (tw, sumTup (ns.take i) p d k t0 t1 t2 t3) :: (d, od) :: (cn, oc) :: R ∧ EmptyD w d od ∧ oc.data = .cell vo ∧ @Ne Nat tw cn ∧ @Ne Nat d cn ∧ m nWhole = some (.ref tw) ∧ ∀ z, z ≠ nWhole → m z = m₀ z)
    hh ht ?_ hI F N ⟨tw, d, od, oc, vo, k, z0, z1, z2, z3, rfl, e, hoc, n1, n2, hm, fun _ _ => rfl⟩ ?_ ?_
  · rintro i m nx ⟨tw, d, od, oc, vo, k, t0, t1, t2, t3, rfl, _⟩
    exact List.mem_cons_of_mem _ (List.mem_cons_of_mem _ (List.mem_cons_of_mem _ hl))
  · rintro i n t m₁ nx I oI s₁ hn ⟨tw, d, od, oc, vo, k, t0, t1, t2, t3, rfl, e, hoc, n1, n2, h1, h2⟩ hoff F₁ N₁
    rw [canon h1 h2] at F₁
    refine wpAny_mono (turn i n t tw d od oc vo k t0 t1 t2 t3 I oI s₁ hn e hoc n1 n2 (Ne.symm (hoff (cn, oc) (by simp))) (fun q hq => hoff q (by simp [hq])) F₁ N₁) (fun _ s₃ q => wpAny_mono q (fun f s₂ p => ?_) fun _ _ e => e) fun _ _ e => e
    obtain ⟨rfl, h', tk, tw', d', od', oc', vo', k', t0', t1', t2', t3', m', e1, F', N', e', hoc', n1', n2', n3', n4', h1', h2'⟩ := p
    refine ⟨rfl, h', tk, m', _, e1, F', N', ?_, tw', d', od', oc', vo', k', t0', t1', t2', t3', rfl, e', hoc', n1', n2', h1', h2'⟩
    intro q hq
    rcases List.mem_cons.mp hq with rfl | hq
    · exact n3'
    rcases List.mem_cons.mp hq with rfl | hq
    · exact n4'
    rcases List.mem_cons.mp hq with rfl | hq
    · exact hoff (cn, oc) (by simp)
    · exact hoff q (by simp [hq])
  · rintro m₁ nx h tk ⟨tw, d, od, oc, vo, k, t0, t1, t2, t3, rfl, e, hoc, n1, n2, h1, h2⟩ F₁ N₁
    rw [canon h1 h2] at F₁
    rw [List.take_length] at N₁
    exact done tw d od oc k t0 t1 t2 t3 h tk F₁ N₁
local macro_rules | `(tactic| k_all) => `(tactic| first | assumption | exact ne_of_allLt (by assumption) (by omega))
theorem ints4 {ys : List Value} {n p : Int} (h : IntsAre ys (List.map (fun k' => n ^ (p + k').toNat) (rangeKs 0 (4 : Int).toNat))) : ∃ t0 t1 t2 t3, ys = [.int (n ^ (p + 0).toNat) t0, .int (n ^ (p + 1).toNat) t1, .int (n ^ (p + 2).toNat) t2, .int (n ^ (p + 3).toNat) t3] := by
  have e : rangeKs 0 (4 : Int).toNat = [0, 1, 2, 3] := by decide
  rw [e] at h
  simp only [List.map_cons, List.map_nil] at h
  cases h with | cons _ t0 h => cases h with | cons _ t1 h => cases h with | cons _ t2 h => cases h with | cons _ t3 h => cases h; exact ⟨t0, t1, t2, t3, rfl⟩
local macro_rules | `(tactic| walk_at "binaryOp Add ref ref") => `(tactic| (k_here; rename IntsAre _ (List.map _ _) => hI9'; (obtain ⟨t0', t1', t2', t3', hy'⟩ := ints4 hI9'); clear hI9'; subst hy'; k_dflt (refine' kde_addT ?k1 ?k2 ?k3 ?k4 ?k5 ?k6 ?k7 ?k8 ?_; (case k1 | k2 => k_asm); (case k3 => exact News.isTup (by k_asm) (by (repeat (first | assumption | exact List.Mem.head _ | apply List.mem_cons_of_mem)))); (case k4 => exact News.isTup (by k_asm) (by (repeat (first | assumption | exact List.Mem.head _ | apply List.mem_cons_of_mem)))); (case k5 => exact List.cons_ne_nil _ _); (case k6 => exact List.cons_ne_nil _ _); (case k7 => exact Nat.le_of_ble_eq_true rfl); (case k8 => exact rfl); k_whole); intro D8' h8' F' N' l1; (try k_lt l1)))
local macro_rules | `(tactic| walk_at "subscriptTail Name Slice ref ref") => `(tactic| (k_here; k_dflt (refine' slice_tuple_4 ?k1 ?k2 ?k3 ?_; (case k1 | k2 => k_asm); (case k3 => (repeat (first | assumption | exact List.Mem.head _ | apply List.mem_cons_of_mem)))); intro D8' h8' F' N' l1; (try k_lt l1)))
local macro_rules | `(tactic| walk_at "call ref") => `(tactic| (k_here; k_dflt (refine' afs ?k1 ?k2 ?k3 ?k4 ?k5 ?kK ?m1 ?m2 ?m3 ?m4 ?e1 ?e2 ?kd ?ku ?_; (case k1 | k2 | k3 | k4 | k5 => k_asm); (case kK => exact rfl); (case m1 => (repeat (first | assumption | exact List.Mem.head _ | apply List.mem_cons_of_mem))); (case m2 => (repeat (first | assumption | exact List.Mem.head _ | apply List.mem_cons_of_mem))); (case m3 => (repeat (first | assumption | exact List.Mem.head _ | apply List.mem_cons_of_mem))); (case m4 => (repeat (first | assumption | exact List.Mem.head _ | apply List.mem_cons_of_mem))); (case e1 => assumption); (case e2 => first | assumption | exact ⟨by assumption, by assumption, by assumption, by assumption, by assumption⟩ | exact ⟨rfl, rfl, rfl, rfl, rfl⟩); (case kd => ktr_room); (case ku => ktr_units)); intro D' d' o' k' u0' u1' u2' u3' h' tk' e' F' N' l1 l2; (try k_lt l1)))
set_option maxHeartbeats 2000000 in
theorem sums {w : World} {loose : List Str} {mean : ExcName → Option Value} {mg mb : Str → Option Value}
   {dp un : Nat} {gd : Option (List Code)} {cn : Str} {cs : Scope} {a : Addr} {ccd : Value} {cl : List (Str × Addr)} {outer : List Env} {A₀ : Around} {base h₀ : Heap} {L : Addr} {m : Str → Option Value} {s : Shared} {Q E : Value → Shared → Prop}
   {news : List (Addr × Obj)} {ln : Addr} {us : List Value} {ns : List Int} {c : Nat} (p : Nat) {tp : Tok}
   (B : Below A₀ base outer h₀) (F : Fr h₀ L s.heap m) (X : (Mine.hd.heap_39 w.params).In h₀)
   (N : News h₀ L s.heap news) (T : Top topProg loose mean mg mb h₀) (hk : cs.kind = .function)
   (ml : (ln, W.listOf us.toArray c) ∈ news) (hI : IntsAre us ns) (hlen : us.length ≤ 64) (hns : ∀ x ∈ ns, x.natAbs < 2 ^ 64) (hp : p ≤ 4)
   (hd : dp + 50 < recursionLimit) (hu : un + 400 < cLine)
   (ret : ∀ D k u0 u1 u2 u3 h' tk', Fr h₀ L h' m → News h₀ L h' ((D, tupO [.int (psum ns p) u0, .int (psum ns (p + 1)) u1, .int (psum ns (p + 2)) u2, .int (psum ns (p + 3)) u3] k) :: news) → (∀ p ∈ news, p.1 < D) → Q (.ref D) { s with heap := h', toks := tk' }) :
   wpAny (model PySem.Challenge.rw_hu0001_01.row.prog w) (ktrTop dp un gd cn cs L a ccd cl outer) (call (.ref 54) [.ref ln, .int (p : Int) tp]) Q E s := by
  k_with_none; w_top off; revert X; k_fill; intro X
  refine wpAny_call ?_
  k_dflt (refine' code_defC ?f1 ?f2 ?f3 ?f4 ?f5 ?r1 ?r2 ?kd ?s1 ?s2 ?rm ?bd ?r3 ?dc ?_ ?r4 ?r5 ?r6; (case r1 | r2 => exact rfl); (case kd => assumption); (case f1 | f2 | f3 | f4 | f5 => k_asm); (case s1 | s2 => k_is); (case rm => ktr_room); (case bd => exact BindsTo.of_eq rfl); (case dc => decide +kernel); (case r3 | r4 | r5 | r6 => exact rfl); k_whole; intro g' L' h' tk' cells' FG' F' N' Y' B' X' T' l1; (try k_lt l1); k_cells Y'; (try simp only [List.cons_append, List.nil_append] at N'); (try dsimp only); (try k_lift B'); (try k_fold))
  have hAll : AllLt L' news := by first | exact l1 | exact allLt_of l1
  k_steps
  rename Fr _ _ _ _ => lF
  rename News _ _ _ _ => lN
  k_dflt (refine For_invTF lF ?_ (by intro _; rfl))
  walk1
  k_dflt (refine' sum_loop (us := us) (ns := ns) (c := c) p rfl (fun _ _ => rfl) hI ?sF ?sN ?sE ?sC ?sl ?sR ?s1 ?s2 ?sm ?sT ?sD)
  case sF => assumption
  case sN => assumption
  case sE => exact ⟨by assumption, by assumption, by assumption, by assumption, by assumption⟩
  case sC => assumption
  case sl => exact List.mem_cons_of_mem _ ml
  case sR => exact List.forall_mem_cons.mpr ⟨by k_ne, ne_of_allLt hAll (by omega)⟩
  case s1 => omega
  case s2 => omega
  case sm => exact if_pos rfl
  case sT =>
    intro i n t tw d od oc vo k t0 t1 t2 t3 I oI s₁ hn he hoc n1 n2 n3 hRI F₁ N₁
    obtain ⟨lo1, s1, fs1, i1, fi1⟩ := id he
    have hnb : n.natAbs < 2 ^ 64 := hns n (List.mem_of_getElem? hn)
    have e0 : n ^ ((p : Int) + 0).toNat + psum (ns.take i) p = psum (ns.take (i + 1)) p := by rw [psum_take hn]; rfl
    have e1 : n ^ ((p : Int) + 1).toNat + psum (ns.take i) (p + 1) = psum (ns.take (i + 1)) (p + 1) := by rw [psum_take hn]; rfl
    have e2 : n ^ ((p : Int) + 2).toNat + psum (ns.take i) (p + 2) = psum (ns.take (i + 1)) (p + 2) := by rw [psum_take hn]; rfl
    have e3 : n ^ ((p : Int) + 3).toNat + psum (ns.take i) (p + 3) = psum (ns.take (i + 1)) (p + 3) := by rw [psum_take hn]; rfl
    k_steps
    rename EmptyD _ _ _ => e9
    rename News _ _ _ _ => kN
    rename Fr _ _ _ _ => kF
    rename Obj.data _ = Data.cell _ => kC
    rw [e0, e1, e2, e3] at kN
    refine' ⟨rfl, _, _, _, _, _, _, _, _, _, _, _, _, _, rfl, kF, ?sN, e9, kC, ?s1, ?s2, ?s3, ?s4, if_pos rfl, ?sz⟩
    case sN =>
      refine kst_newsOf kN ?_
      refine List.forall_mem_cons.mpr ⟨by (repeat (first | assumption | exact List.Mem.head _ | apply List.mem_cons_of_mem)), List.forall_mem_cons.mpr ⟨by (repeat (first | assumption | exact List.Mem.head _ | apply List.mem_cons_of_mem)), List.forall_mem_cons.mpr ⟨by (repeat (first | assumption | exact List.Mem.head _ | apply List.mem_cons_of_mem)), List.forall_mem_cons.mpr ⟨by (repeat (first | assumption | exact List.Mem.head _ | apply List.mem_cons_of_mem)), List.forall_mem_cons.mpr ⟨by (repeat (first | assumption | exact List.Mem.head _ | apply List.mem_cons_of_mem)), fun q hq => by (repeat (first | assumption | exact List.Mem.head _ | apply List.mem_cons_of_mem))⟩⟩⟩⟩⟩
    case s1 => omega
    case s2 => omega
    case s3 => omega
    case s4 => omega
    case sz =>
      intro z hz
      show (if z = nWhole then _ else (if z = nWhole then _ else _)) = _
      rw [if_neg hz, if_neg hz]
  case sD =>
    intro tw d od oc k t0 t1 t2 t3 h tk F₁ N₁
    k_steps
    rename News _ _ _ _ => kN
    apply ret _ _ _ _ _ _ _ _ ?f8 ?n8 ?l8
    case n8 => exact kst_newsOf kN (List.forall_mem_cons.mpr ⟨List.Mem.head _, fun q hq => by (repeat (first | assumption | apply List.mem_cons_of_mem))⟩)
    case f8 => assumption
    case l8 =>
      rename @LT.lt Nat _ _ _ ∧ _ => q8
      exact lt_of_allLt q8.2.2.2.2 (Nat.le_refl _)
end Mine
end
section
open PySem PySem.W PySem.Calls PyProof.Rows PyProof.V PySem.Spec
set_option maxRecDepth 100000
namespace Mine
open LCg (lst)
/-! y = [elt for x in range(..)] where a comprehension within elt closes over x: x is a cell. The invariant J speaks of the turn's number, the list so far and the ledger
without the four objects that the comprehension holds: the iterator I, its names C, the new list D, x's cell c. -/
abbrev cellNone : Obj := { cls := .type "cell", data := .cell none }
def Off4 (I C D c : Addr) (nx : List (Addr × Obj)) : Prop := ∀ p ∈ nx, p.1 ≠ I ∧ p.1 ≠ C ∧ p.1 ≠ D ∧ p.1 ≠ c
abbrev led4 (I C D c : Addr) (oI : Obj) (ys : List Value) (oc : Obj) (nx : List (Addr × Obj)) : List (Addr × Obj) := (I, oI) :: (C, emptyDict) :: (D, lst ys) :: (c, oc) :: nx
def CTurn (prog : Program) (w : World) (A : Around) (h₀ : Heap) (L : Addr) (m : Str → Option Value) (env : Env) (elt : Expr) (x : Str) (scope : Scope) (cl : List (Str × Addr)) (s : Shared) (a : Int) (n : Nat)
    (J : Nat → List Value → List (Addr × Obj) → Prop) : Prop :=
  ∀ i ys nx t I oI C D c oc g tk (E' : Value → Shared → Prop), i < n → J i ys nx → oc.data = .cell (some (.int (a + (i : Int)) t)) → Off4 I C D c nx → Fr h₀ L g m → News h₀ L g (led4 I C D c oI ys oc nx) →
    wpAny (model prog w) A (eval elt (compEnvC scope ((x, c) :: cl) C env))
      (fun v s' => ∃ g' tk' nx', s' = { s with heap := g', toks := tk' } ∧ Fr h₀ L g' m ∧ News h₀ L g' (led4 I C D c oI ys oc nx') ∧ Off4 I C D c nx' ∧ J (i + 1) (ys ++ [v]) nx') E' { s with heap := g, toks := tk }
section
variable {h₀ g g' : Heap} {L : Addr} {m : Str → Option Value}
/-- all but one object of the ledger stays -/
theorem others {a : Addr} {o : Obj} {led led' : List (Addr × Obj)} (F : Fr h₀ L g m) (N : News h₀ L g led) (ma : (a, o) ∈ led) (keep : ∀ b z, b ≠ a → g.get? b = some z → g'.get? b = some z)
    (sub : ∀ p ∈ led', p ∈ led ∧ p.1 ≠ a) : Fr h₀ L g' m ∧ News h₀ L g' led' :=
  ⟨LCg.fr_but F (fun b z hb => keep b z (by simpa using hb)) (Ne.symm (N.ne ma)) (N.fresh ma), fun p hp => ⟨keep _ _ (sub p hp).2 (N p (sub p hp).1).1, (N p (sub p hp).1).2⟩⟩
/-- .. and that one is known again -/
theorem touch {a : Addr} {o o' : Obj} {led led' : List (Addr × Obj)} (F : Fr h₀ L g m) (N : News h₀ L g led) (ma : (a, o) ∈ led) (keep : ∀ b z, b ≠ a → g.get? b = some z → g'.get? b = some z) (new : g'.get? a = some o')
    (sub : ∀ p ∈ led', p = (a, o') ∨ p ∈ led ∧ p.1 ≠ a) : Fr h₀ L g' m ∧ News h₀ L g' led' := by
  refine ⟨(others (led' := []) F N ma keep fun _ h => nomatch h).1, fun p hp => ?_⟩
  rcases sub p hp with rfl | ⟨hp, ne⟩
  · exact ⟨new, (N _ ma).2⟩
  · exact ⟨keep _ _ ne (N p hp).1, (N p hp).2⟩
theorem names_empty : LCg.NsObj emptyDict fun _ => none := by
  obtain ⟨o, e, q⟩ := LCg.ns_obj (Heap.Ns.new (default : Heap) (.type "dict"))
  cases (Heap.get?_push_size (default : Heap) (o := emptyDict) rfl).symm.trans e
  exact q
end
section
variable {prog : Program} {w : World} {A : Around} {E : Value → Shared → Prop} {s : Shared} {h₀ : Heap} {L : Addr} {m : Str → Option Value} {env : Env} {elt iter : Expr} {x : Str} {px : Pos} {scope : Scope} {cl : List (Str × Addr)} {pos : Pos}
theorem cell_loop {R : Result → Shared → Prop} {a : Int} {n : Nat} {J : Nat → List Value → List (Addr × Obj) → Prop} {I C D c : Addr} (hh : A.handled = none) (hsz : n ≤ sizeLine) (hk : scope.kind = .function)
    (hx : (compEnvC scope ((x, c) :: cl) C env).kindOf x = some .cell) (nd : [I, C, D, c].Nodup) (T : CTurn prog w A h₀ L m env elt x scope cl s a n J)
    (start : ∃ oI oc v nx, IsRangeIter s.heap I (a + ((0 : Nat) : Int) * 1) ((n : Int) - ((0 : Nat) : Int)) 1 ∧ oc.data = .cell v ∧ Fr h₀ L s.heap m ∧ News h₀ L s.heap (led4 I C D c oI [] oc nx) ∧ Off4 I C D c nx ∧ J 0 [] nx)
    (done : ∀ ys nx g tk, Fr h₀ L g m → News h₀ L g ((C, emptyDict) :: (D, lst ys) :: nx) → Off4 I C D c nx → J n ys nx → R (.ok .next) { s with heap := g, toks := tk }) :
    codeAny (model prog w) A (.compLoop (.ListComp elt [⟨.Name x px, iter, [], 0⟩] scope pos) 0 (.ref I) (.ref D) (compEnvC scope ((x, c) :: cl) C env)) R s := by
  have W := LCg.range_walks (prog := prog) (w := w) (I := I) hh a n
  simp only [List.nodup_cons, List.mem_cons, List.not_mem_nil, or_false, not_or, List.nodup_nil, not_false_eq_true, and_true] at nd
  obtain ⟨⟨IC, ID, Ic⟩, ⟨CD, Cc⟩, Dc⟩ := nd
  obtain ⟨oI, oc, v, nx, st, hoc, F, N, off, hj⟩ := start
  refine codeAny_compLoop_tests (fun k s' => ∃ i ys oI oc v nx g tk, i ≤ n ∧ i + k = n + 1 ∧ ys.length = i ∧ s' = { s with heap := g, toks := tk } ∧ IsRangeIter g I (a + (i : Nat) * 1) ((n : Int) - (i : Nat)) 1 ∧ oc.data = .cell v ∧
    Fr h₀ L g m ∧ News h₀ L g (led4 I C D c oI ys oc nx) ∧ Off4 I C D c nx ∧ J i ys nx) ?_ (n + 1) ⟨0, [], oI, oc, v, nx, _, _, Nat.zero_le _, Nat.zero_add _, rfl, rfl, st, hoc, F, N, off, hj⟩
  rintro k _ ⟨i, ys, oI, oc, v, nx, g, tk, ile, ik, len, rfl, st, hoc, F, N, off, hj⟩
  -- the iterator steps: all but it stays
  have stepped : ∀ (g₁ : Heap) oI₁, (∀ b z, b ∉ [I] → g.get? b = some z → g₁.get? b = some z) → g₁.get? I = some oI₁ → Fr h₀ L g₁ m ∧ News h₀ L g₁ (led4 I C D c oI₁ ys oc nx) := fun g₁ oI₁ keep e =>
    touch F N (.head _) (fun b z hb => keep b z (by simpa using hb)) e fun p hp => by
      simp only [led4, List.mem_cons] at hp ⊢
      rcases hp with rfl | rfl | rfl | rfl | hp
      · exact .inl rfl
      · exact .inr ⟨.inr (.inl rfl), Ne.symm IC⟩
      · exact .inr ⟨.inr (.inr (.inl rfl)), Ne.symm ID⟩
      · exact .inr ⟨.inr (.inr (.inr (.inl rfl))), Ne.symm Ic⟩
      · exact .inr ⟨.inr (.inr (.inr (.inr hp))), (off p hp).1⟩
  rcases Nat.lt_or_ge i n with lt | ge
  · refine W.item i _ _ _ lt st ?_
    rintro _ g₁ tk₁ ⟨t, rfl⟩ st₁ keep₁
    obtain ⟨oI₁, e₁⟩ : ∃ o, g₁.get? I = some o := ⟨_, st₁⟩
    obtain ⟨F₁, N₁⟩ := stepped g₁ oI₁ keep₁ e₁
    have mc : (c, oc) ∈ led4 I C D c oI₁ ys oc nx := .tail _ (.tail _ (.tail _ (.head _)))
    refine wpAny_assign_Name (wpAny_storeName_cell hk hx (List.lookup_cons_self ..) ⟨oc, N₁.get mc, hoc⟩ fun g₂ ⟨oc₂, e₂, d₂⟩ same₂ => wpAny_tests_nil ?_)
    obtain ⟨F₂, N₂⟩ := touch (led' := led4 I C D c oI₁ ys oc₂ nx) F₁ N₁ mc (fun b z hb e => (same₂.2 b hb).trans e) e₂ fun p hp => by
      simp only [led4, List.mem_cons] at hp ⊢
      rcases hp with rfl | rfl | rfl | rfl | hp
      · exact .inr ⟨.inl rfl, Ic⟩
      · exact .inr ⟨.inr (.inl rfl), Cc⟩
      · exact .inr ⟨.inr (.inr (.inl rfl)), Dc⟩
      · exact .inl rfl
      · exact .inr ⟨.inr (.inr (.inr (.inr hp))), (off p hp).2.2.2⟩
    have st₂ : IsRangeIter g₂ I (a + ((i + 1 : Nat) : Int) * 1) ((n : Int) - ((i + 1 : Nat) : Int)) 1 := (same₂.2 I Ic).trans st₁
    rw [if_pos rfl]
    refine wpAny_mono (T i ys nx t I oI₁ C D c oc₂ g₂ _ _ lt hj d₂ off F₂ N₂) (fun y _ q => ?_) fun _ _ q => q
    obtain ⟨g₃, tk₃, nx₃, rfl, F₃, N₃, off₃, hj₃⟩ := q
    have mD : (D, lst ys) ∈ led4 I C D c oI₁ ys oc₂ nx₃ := .tail _ (.tail _ (.head _))
    have st₃ := LCg.range_st (i + 1) g₂ g₃ oI₁ _ st₂ (N₂.get (.head _)) (N₃.get (.head _)) F₃.keep N₃ trivial
    refine append_at (N₃.get mD) (hsz := Nat.le_trans (Nat.le_of_eq (by rw [List.size_toArray, len])) (Nat.le_trans (Nat.le_of_lt lt) hsz)) fun g₄ same₄ e₄ => ?_
    obtain ⟨F₄, N₄⟩ := touch (led' := led4 I C D c oI₁ (ys ++ [y]) oc₂ nx₃) F₃ N₃ mD (fun b z hb e => (same₄.2 b hb).trans e) (e₄.trans (congrArg some (LCg.lst_snoc ys y))) fun p hp => by
      simp only [led4, List.mem_cons] at hp ⊢
      rcases hp with rfl | rfl | rfl | rfl | hp
      · exact .inr ⟨.inl rfl, ID⟩
      · exact .inr ⟨.inr (.inl rfl), CD⟩
      · exact .inl rfl
      · exact .inr ⟨.inr (.inr (.inr (.inl rfl))), Ne.symm Dc⟩
      · exact .inr ⟨.inr (.inr (.inr (.inr hp))), (off₃ p hp).2.2.1⟩
    exact ⟨k - 1, by omega, i + 1, ys ++ [y], oI₁, oc₂, _, nx₃, g₄, _, lt, by omega, by simp [len], rfl, (same₄.2 I ID).trans st₃, d₂, F₄, N₄, off₃, hj₃⟩
  · obtain rfl : i = n := by omega
    refine W.done _ _ _ st fun g₁ tk₁ keep₁ => ?_
    obtain ⟨F₁, N₁⟩ := others (led' := (C, emptyDict) :: (D, lst ys) :: nx) F N (.head _) (fun b z hb => keep₁ b z (by simpa using hb)) (List.forall_mem_cons.mpr ⟨⟨.tail _ (.head _), Ne.symm IC⟩, List.forall_mem_cons.mpr ⟨⟨.tail _ (.tail _ (.head _)), Ne.symm ID⟩,
      fun p hp => ⟨.tail _ (.tail _ (.tail _ (.tail _ hp))), (off p hp).1⟩⟩⟩)
    exact done ys nx g₁ tk₁ F₁ N₁ off hj
theorem newEnv_1c {M : Model} {qual : Str} {glob : Addr} {Q : Env → Shared → Prop} (hcf : ∀ k acc, cellsFrom k scope.names acc = (x, k) :: acc) (hpc : ∀ g, pushCells g scope.names = g.push cellNone)
    (h : Q (newEnv scope s.heap.objs.size glob ((x, (s.heap.push emptyDict).objs.size) :: cl) qual none .none (some env) builtinsNs) { s with heap := (s.heap.push emptyDict).push cellNone }) :
    wpAny M A (newFunctionEnv scope glob cl [] qual none .none (some env)) Q E s := by
  simp only [newFunctionEnv, Option.isSome_some, if_true]
  have lays := fun (k : NameKind) => (Bool.eq_false_or_eq_true (k == NameKind.cell))
  refine wpAny_bind (wpAny_alloc (wpAny_bind (wpAny_layCells _ (fun _ k _ => by rcases lays k with e | e <;> simp [e]) _ _ _ _ ?_)))
  rw [hcf, hpc, List.forIn_nil]
  exact wpAny_bind (wpAny_pure (wpAny_pure h))
theorem four_new {g : Heap} {it : Obj} {nx : List (Addr × Obj)} (F : Fr h₀ L g m) (N : News h₀ L g nx) (live : it.isFreed = false := by rfl) :
    Fr h₀ L ((((g.push it).push (lst [])).push emptyDict).push cellNone) m ∧
    News h₀ L ((((g.push it).push (lst [])).push emptyDict).push cellNone) (led4 g.objs.size ((g.push it).push (lst [])).objs.size (g.push it).objs.size (((g.push it).push (lst [])).push emptyDict).objs.size it [] cellNone nx) ∧
    Off4 g.objs.size ((g.push it).push (lst [])).objs.size (g.push it).objs.size (((g.push it).push (lst [])).push emptyDict).objs.size nx ∧
    [g.objs.size, ((g.push it).push (lst [])).objs.size, (g.push it).objs.size, (((g.push it).push (lst [])).push emptyDict).objs.size].Nodup := by
  have N₁ := News.push F N it live
  have N₂ := News.push (F.push it) N₁ (lst [])
  have N₃ := News.push ((F.push it).push (lst [])) N₂ emptyDict
  have N₄ := News.push (((F.push it).push (lst [])).push emptyDict) N₃ cellNone
  refine ⟨(((F.push it).push (lst [])).push emptyDict).push cellNone, kst_newsOf N₄ fun p hp => ?_, fun p hp => ⟨N.apart p hp, N₂.apart p (.tail _ (.tail _ hp)), N₁.apart p (.tail _ hp), N₃.apart p (.tail _ (.tail _ (.tail _ hp)))⟩, ?_⟩
  · simp only [led4, List.mem_cons] at hp ⊢
    rcases hp with h | h | h | h | h <;> simp only [h, true_or, or_true]
  · simp only [Heap.size_push, List.nodup_cons, List.mem_cons, List.not_mem_nil, or_false, not_or, List.nodup_nil, not_false_eq_true, and_true]
    refine ⟨⟨?_, ?_, ?_⟩, ⟨?_, ?_⟩, ?_⟩ <;> exact fun e => by have e' : @Eq Nat _ _ := e; omega
/-- what the iterable must give: a range, the invariant at its start, a turn, the way on -/
def SrcC (prog : Program) (w : World) (A : Around) (h₀ : Heap) (L : Addr) (m : Str → Option Value) (env : Env) (elt : Expr) (x : Str) (scope : Scope) (cl : List (Str × Addr)) (y : Str) (Q : Flow → Shared → Prop) (xv : Value) (s₁ : Shared) : Prop :=
  ∃ (r : Addr) (a b : Int) (n : Nat) (nx : List (Addr × Obj)) (J : Nat → List Value → List (Addr × Obj) → Prop), xv = .ref r ∧ (∃ t u v, IsRange s₁.heap r a b 1 t u v) ∧ (Builtin.Range.small a b 1 = true ∧ Builtin.Range.rangeSize a b 1 = (n : Int) ∧ n ≤ sizeLine) ∧
    A.handled = none ∧ Fr h₀ L s₁.heap m ∧ News h₀ L s₁.heap nx ∧ J 0 [] nx ∧ CTurn prog w A h₀ L m env elt x scope cl s₁ a n J ∧
    ∀ D ys nx g tk, J n ys nx → Fr h₀ L g (fun z => if z = y then some (.ref D) else m z) → News h₀ L g ((D, lst ys) :: nx) → (∀ p ∈ nx, p.1 ≠ D) → Q .next { s₁ with heap := g, toks := tk }
theorem Assign_ListComp_C {y : Str} {py spos : Pos} {Q : Flow → Shared → Prop} (hLe : env.locals = L)
    (hsw : swapsWith (.ListComp elt [⟨.Name x px, iter, [], 0⟩] scope pos) (some (.Name y py)) spos.line env = pure true)
    (hclos : closureFor scope env = pure cl) (hkind : scope.kind = .function) (hnames : ∀ z ∈ scope.names, z.2 = .local → scope.names.lookup z.1 = some .local)
    (hcf : ∀ k acc, cellsFrom k scope.names acc = (x, k) :: acc) (hpc : ∀ g, pushCells g scope.names = g.push cellNone) (hxc : ∀ C c, (compEnvC scope ((x, c) :: cl) C env).kindOf x = some .cell)
    (hy : env.kindOf y = some .local) (hp : (env.scope.kind == .class || (env.scope.kind == .module && env.locals != env.globals)) = false)
    (h : wpAny (model prog w) A (eval iter env) (SrcC prog w A h₀ L m env elt x scope cl y Q) E s) (hs : ∀ v, foldedSetIterable iter env v = pure v := by intro _; rfl) :
    wpAny (model prog w) A (exec (.Assign [.Name y py] (.ListComp elt [⟨.Name x px, iter, [], 0⟩] scope pos) spos) env) Q E s := by
  subst hLe
  have made : ∀ cpos, wpAny (model prog w) A (comprehension (.ListComp elt [⟨.Name x px, iter, [], 0⟩] scope pos) scope env cpos (newList []) false (eval iter env) (some (assign (.Name y py) env))) (fun _ s' => Q .next s') E s := by
    intro cpos
    refine wpAny_comprehension_free rfl hs hclos hkind hnames (wpAny_mono h (fun xv s₁ src => ?_) fun _ _ e => e)
    obtain ⟨r, a, b, n, nx, J, rfl, ⟨t, u, v, isR⟩, ⟨small, size, hsz⟩, hh, F, N, hj, T, fin⟩ := src
    obtain ⟨F₄, N₄, off, nd⟩ := four_new (it := { cls := .type "range_iterator", data := .fields #[rawInt a, rawInt (Builtin.Range.rangeSize a b 1), rawInt 1] }) F N
    refine wpAny_pyIter_range isR small (wpAny_newObj_type (newEnv_1c hcf hpc ?_))
    have st : IsRangeIter ((((s₁.heap.push { cls := .type "range_iterator", data := .fields #[rawInt a, rawInt (Builtin.Range.rangeSize a b 1), rawInt 1] }).push (lst [])).push emptyDict).push cellNone) s₁.heap.objs.size (a + ((0 : Nat) : Int) * 1) ((n : Int) - ((0 : Nat) : Int)) 1 := by
      have e := N₄.get (.head _)
      rw [size] at e ⊢
      simpa [IsRangeIter] using e
    have CD : ((s₁.heap.push { cls := .type "range_iterator", data := .fields #[rawInt a, rawInt (Builtin.Range.rangeSize a b 1), rawInt 1] }).push (lst [])).objs.size ≠ (s₁.heap.push { cls := .type "range_iterator", data := .fields #[rawInt a, rawInt (Builtin.Range.rangeSize a b 1), rawInt 1] }).objs.size := by
      rw [Heap.size_push]; exact Nat.succ_ne_self _
    have run := cell_loop (px := px) (iter := iter) (pos := pos) (R := compPost (model prog w) A E (some (assign (.Name y py) env)) (fun _ s' => Q .next s') (.ref (s₁.heap.push { cls := .type "range_iterator", data := .fields #[rawInt a, rawInt (Builtin.Range.rangeSize a b 1), rawInt 1] }).objs.size) ((s₁.heap.push { cls := .type "range_iterator", data := .fields #[rawInt a, rawInt (Builtin.Range.rangeSize a b 1), rawInt 1] }).push (lst [])).objs.size)
      (s := { s₁ with heap := (((s₁.heap.push { cls := .type "range_iterator", data := .fields #[rawInt a, rawInt (Builtin.Range.rangeSize a b 1), rawInt 1] }).push (lst [])).push emptyDict).push cellNone }) hh hsz hkind (hxc _ _) nd T ⟨_, _, _, nx, st, rfl, F₄, N₄, off, hj⟩ ?_
    · exact codeAny_compStart_list run ((LCg.range_walks hh a n).self 0 _ _ _ st run)
    · intro ys nx g tk F N off hj
      refine wpAny_assign_Name (wpAny_storeName_local hy F.ns (fun g₂ hn same => ⟨_, names_empty.ns ((N.set same).get (.head _)), fun g₃ same₃ => ?_⟩) hp)
      obtain ⟨F₃, N₃⟩ := others (led' := (_, lst ys) :: nx) (F.set hn same) (N.set same) (.head _) (fun b z hb e => (same₃.2 b hb).trans e) (List.forall_mem_cons.mpr ⟨⟨.tail _ (.head _), Ne.symm CD⟩, fun p hp => ⟨.tail _ (.tail _ hp), (off p hp).2.1⟩⟩)
      exact fin _ ys nx g₃ _ hj F₃ N₃ fun p hp => (off p hp).2.2.1
  rw [exec_Assign_Name_used _ _ _ _ hsw]
  exact wpAny_bind (wpAny_standAt (wpAny_bind (wpAny_bind (wpAny_mono (made _) (fun _ _ q => wpAny_pure (wpAny_pure q)) fun _ _ e => e))))
end
end Mine
end
section
open PySem PySem.W PySem.Calls PyProof.Rows PyProof.V PySem.Spec
set_option maxRecDepth 100000
namespace Mine
def F16 (tb : List (Addr × Obj)) : Prop := ∃ c1 oc1 vs1 tq1, tb = [(c1, oc1), (16, hit16 c1)] ∧ oc1.data = .fields vs1 ∧ vs1[1]? = some (.str Q1 tq1)
def T16 (tb : List (Addr × Obj)) : Prop := tb = [(16, tabObj #[])] ∨ F16 tb
def Off (tb news : List (Addr × Obj)) : Prop := ∀ p ∈ news, ∀ q ∈ tb, p.1 ≠ q.1
theorem Off.sub {tb news news' : List (Addr × Obj)} (h : Off tb news) (hs : ∀ p ∈ news', p ∈ news) : Off tb news' := fun p hp => h p (hs p hp)
theorem perm_news {h₀ h : Heap} {L : Addr} {tb a b : List (Addr × Obj)} (N : News h₀ L h (a ++ (tb ++ b))) : News h₀ L h (tb ++ (a ++ b)) := fun p hp => N p (by
  simp only [List.mem_append] at hp ⊢
  rcases hp with h | h | h
  · exact .inr (.inl h)
  · exact .inl h
  · exact .inr (.inr h))
theorem perm_back {h₀ h : Heap} {L : Addr} {tb a b : List (Addr × Obj)} (N : News h₀ L h (tb ++ (a ++ b))) : News h₀ L h (a ++ (tb ++ b)) := fun p hp => N p (by
  simp only [List.mem_append] at hp ⊢
  rcases hp with h | h | h
  · exact .inr (.inl h)
  · exact .inl h
  · exact .inr (.inr h))
set_option maxHeartbeats 2000000 in
theorem lot_any {w : World} {loose : List Str} {mean : ExcName → Option Value} {mg mb : Str → Option Value}
   {dp un : Nat} {gd : Option (List Code)} {cn : Str} {cs : Scope} {a : Addr} {ccd : Value} {cl : List (Str × Addr)} {outer : List Env} {A₀ : Around} {base h₀ : Heap} {L : Addr} {m : Str → Option Value} {s : Shared} {Q E : Value → Shared → Prop}
   {news tb : List (Addr × Obj)} {n : Int} {t : Tok}
   (B : Below A₀ base outer h₀) (F : Fr h₀ L s.heap m) (X : (Mine.hd.heap_39 w.params).In h₀)
   (N : News h₀ L s.heap (tb ++ news)) (ht : T16 tb) (ho : Off tb news) (T : Top topProg loose mean mg mb h₀) (C1 : CodeHd base 20 16) (hk : cs.kind = .function)
   (hd : dp + 30 < recursionLimit) (hu : un + 240 < cLine) (h0 : 0 ≤ n) (h1 : n < 32)
   (ret : ∀ tb' t h' tk', F16 tb' → Off tb' news → Fr h₀ L h' m → News h₀ L h' (tb' ++ news) → Q (.int (lotOf n) t) { s with heap := h', toks := tk' }) :
   wpAny (model PySem.Challenge.rw_hu0001_01.row.prog w) (ktrTop dp un gd cn cs L a ccd cl outer) (call (.ref 49) [.int n t]) Q E s := by
  rcases ht with rfl | ht
  · refine lot_E B F X N (fun p hp => ho p hp (16, _) (List.mem_singleton.mpr rfl)) T C1 hk hd hu h0 h1 ?_
    intro c1 oc1 vs1 tq1 t h' tk' hd1 hd2 hlt F' N'
    refine ret [(c1, oc1), (16, hit16 c1)] t h' tk' ⟨c1, oc1, vs1, tq1, rfl, hd1, hd2⟩ ?_ F' N'
    intro p hp q hq
    rcases List.mem_cons.mp hq with rfl | hq
    · exact Nat.ne_of_lt (hlt p (List.mem_cons_of_mem _ hp))
    rcases List.mem_cons.mp hq with rfl | hq
    · exact ho p hp (16, tabObj #[]) (List.mem_singleton.mpr rfl)
    · cases hq
  · obtain ⟨c1, oc1, vs1, tq1, rfl, hd1, hd2⟩ := id ht
    refine lot_H B F X N T C1 hk (List.mem_cons_of_mem _ (List.Mem.head _)) (List.Mem.head _) hd1 hd2 hd hu h0 h1 ?_
    intro t h' tk' F' N'
    exact ret _ t h' tk' ht ho F' N'
def lawDef : Stmt := match PySem.Challenge.pw_hu0001_01.main.body with
  | _ :: _ :: _ :: _ :: _ :: _ :: _ :: _ :: _ :: s :: _ => s
  | _ => .Pass ⟨0, 0, 0, 0⟩
def forBody : Stmt → List Stmt | .For _ _ b _ _ => b | _ => []
def lawBody : List Stmt := match defBody lawDef with | s :: _ => forBody s | _ => []
def st1 : Stmt := match lawBody with | _ :: s :: _ => s | _ => .Pass ⟨0, 0, 0, 0⟩
def st4 : Stmt := match lawBody with | _ :: _ :: _ :: _ :: s :: _ => s | _ => .Pass ⟨0, 0, 0, 0⟩
def st6 : Stmt := match lawBody with | _ :: _ :: _ :: _ :: _ :: _ :: s :: _ => s | _ => .Pass ⟨0, 0, 0, 0⟩
def st8 : Stmt := match lawBody with | _ :: _ :: _ :: _ :: _ :: _ :: _ :: _ :: s :: _ => s | _ => .Pass ⟨0, 0, 0, 0⟩
def st10 : Stmt := match lawBody with | _ :: _ :: _ :: _ :: _ :: _ :: _ :: _ :: _ :: _ :: s :: _ => s | _ => .Pass ⟨0, 0, 0, 0⟩
def asgVal : Stmt → Expr | .Assign _ v _ => v | _ => .Constant .none 0 ⟨0, 0, 0, 0⟩
def compElt : Expr → Expr | .ListComp e _ _ _ => e | _ => .Constant .none 0 ⟨0, 0, 0, 0⟩
def compScope : Expr → Scope | .ListComp _ _ sc _ => sc | _ => default
theorem off1_mem {D : Addr} {l : List (Addr × Obj)} (h : LCg.Off1 D l) : ∀ p ∈ l, @Ne Nat p.1 D := by
  induction l with
  | nil => exact fun _ hp => nomatch hp
  | cons q l ih => exact List.forall_mem_cons.mpr ⟨h.1, ih h.2⟩
def upTo (k : Int) (i : Nat) : List Int := (rangeKs 0 i).filter fun n => lotOf n == k
theorem upTo_succ (k : Int) (i : Nat) : upTo k (i + 1) = upTo k i ++ (if lotOf (0 + (i : Int)) == k then [0 + (i : Int)] else []) := by
  unfold upTo rangeKs
  rw [List.range_succ, List.map_append, List.filter_append, List.map_singleton]
  congr 1
  simp only [List.filter]
  cases lotOf (0 + (i : Int)) == k <;> rfl
theorem small_pow {q : Nat} (hq : q ≤ 4) : Builtin.Range.small 0 ((2 : Int) ^ q) 1 = true ∧ Builtin.Range.rangeSize 0 ((2 : Int) ^ q) 1 = ((2 ^ q : Nat) : Int) ∧ 2 ^ q ≤ 16 ∧ 0 < 2 ^ q := by
  rcases (by omega : q = 0 ∨ q = 1 ∨ q = 2 ∨ q = 3 ∨ q = 4) with rfl | rfl | rfl | rfl | rfl <;> refine ⟨by decide, by decide, by decide, by decide⟩
theorem ints_snoc {vs : List Value} {ns : List Int} (h : IntsAre vs ns) (n : Int) (t : Tok) : IntsAre (vs ++ [.int n t]) (ns ++ [n]) := h.append (.cons n t .nil)
section
open LCg LCt
variable {prog : Program} {w : World} {A : Around} {s : Shared} {h₀ : Heap} {L : Addr} {m : Str → Option Value} {env : Env}
theorem filt_ind {ct elt : Expr} {x : Str} {scope : Scope} {cl : List (Str × Addr)} {Fin : List Value → List (Addr × Obj) → Prop} {news : List (Addr × Obj)} {k : Int} {M : Nat}
    (helt : ∀ (C : Addr) (oC : Obj) (nx : List (Addr × Obj)) (m₂ : Str → Option Value) (v : Value) (h : Heap) (Q E : Value → Shared → Prop) (s : Shared), News h₀ L s.heap nx → (C, oC) ∈ nx → NsObj oC m₂ → m₂ x = some v → Q v s → wpAny (model prog w) A (eval elt (compEnvC scope cl C env)) Q E s)
    (turn : ∀ (i : Nat) tb t I oI C oC D oD m₂ h tk (E' : Value → Shared → Prop), i < M → T16 tb → Off tb ((I, oI) :: (C, oC) :: (D, oD) :: news) → NsObj oC m₂ → m₂ x = some (.int (0 + (i : Int)) t) → Fr h₀ L h m → News h₀ L h (tb ++ ((I, oI) :: (C, oC) :: (D, oD) :: news)) →
      wpAny (model prog w) A (isTrue ct (compEnvC scope cl C env) (eval ct (compEnvC scope cl C env))) (fun ok s' => ok = (lotOf (0 + (i : Int)) == k) ∧ ∃ h' tk' tb', s' = { s with heap := h', toks := tk' } ∧ F16 tb' ∧ Off tb' ((I, oI) :: (C, oC) :: (D, oD) :: news) ∧ Fr h₀ L h' m ∧ News h₀ L h' (tb' ++ ((I, oI) :: (C, oC) :: (D, oD) :: news))) E' { s with heap := h, toks := tk })
    (fin : ∀ ys tb, F16 tb → Off tb news → IntsAre ys (upTo k M) → Fin ys (tb ++ news)) :
    ∀ j i ys tb, i + j = M → T16 tb → (0 < i → F16 tb) → 0 < M → Off tb news → IntsAre ys (upTo k i) → CompRestT prog w A h₀ L m env ct elt x scope cl s (fun _ => True) (fun i v => ∃ t, v = .int (0 + (i : Int)) t) Fin j i ys (tb ++ news) := by
  intro j
  induction j with
  | zero =>
    intro i ys tb e ht hf h0 ho hI
    have e : i = M := by omega
    subst e
    exact CompRestT.zero (fin ys tb (hf h0) ho hI)
  | succ j ih =>
    intro i ys tb e ht hf h0 ho hI
    refine CompRestT.succ ?_
    intro v I oI C oC D m₂ h tk E' hP hC hx F N off hne
    obtain ⟨t, rfl⟩ := hP
    have offm := off.mem
    have N₁ : News h₀ L h (tb ++ ((I, oI) :: (C, oC) :: (D, lst ys) :: news)) := perm_news (a := [(I, oI), (C, oC), (D, lst ys)]) N
    have ho₁ : Off tb ((I, oI) :: (C, oC) :: (D, lst ys) :: news) := by
      intro p hp q hq
      have z := offm q (List.mem_append_left _ hq)
      rcases List.mem_cons.mp hp with rfl | hp
      · exact Ne.symm z.1
      rcases List.mem_cons.mp hp with rfl | hp
      · exact Ne.symm z.2.1
      rcases List.mem_cons.mp hp with rfl | hp
      · exact Ne.symm z.2.2
      · exact ho p hp q hq
    refine wpAny_mono (turn i tb t I oI C oC D (lst ys) m₂ h tk E' (by omega) ht ho₁ hC hx F N₁) (fun ok s₂ p => ?_) fun _ _ e => e
    obtain ⟨hok, h', tk', tb', rfl, hF, ho', F', N'⟩ := p
    have N₃ : News h₀ L h' ((I, oI) :: (C, oC) :: (D, lst ys) :: (tb' ++ news)) := perm_back (a := [(I, oI), (C, oC), (D, lst ys)]) N'
    have off' : Off3 I C D (tb' ++ news) := Off3.of fun p hp => by
      rcases List.mem_append.mp hp with hp | hp
      · exact ⟨Ne.symm (ho' (I, oI) (by simp) p hp), Ne.symm (ho' (C, oC) (by simp) p hp), Ne.symm (ho' (D, lst ys) (by simp) p hp)⟩
      · exact offm p (List.mem_append_right _ hp)
    have ho₂ : Off tb' news := ho'.sub fun p hp => by simp [hp]
    have hI' := upTo_succ k i
    by_cases hb : (lotOf (0 + (i : Int)) == k) = true
    · rw [hb] at hok hI'
      subst hok
      rw [if_pos rfl] at hI' ⊢
      refine helt C oC _ m₂ _ h' _ _ _ N₃ (by simp) hC hx ?_
      refine CompEnd.intro F' N₃ (tb' ++ news) (fun p hp => hp) off' trivial ?_
      exact ih (i + 1) _ tb' (by omega) (.inr hF) (fun _ => hF) h0 ho₂ (by rw [hI']; exact ints_snoc hI _ _)
    · have hb' : (lotOf (0 + (i : Int)) == k) = false := by simpa using hb
      rw [hb'] at hok hI'
      subst hok
      rw [if_neg (by decide)] at hI' ⊢
      refine CompEnd.intro F' N₃ (tb' ++ news) (fun p hp => hp) off' trivial ?_
      exact ih (i + 1) _ tb' (by omega) (.inr hF) (fun _ => hF) h0 ho₂ (by rw [hI', List.append_nil]; exact hI)
end
local macro_rules | `(tactic| walk_at "CompSrcT") => `(tactic| (k_here; refine LCt.CompSrcT.range (by rfl) (by k_asm) (by k_asm) (by assumption) (by assumption) (by assumption) (by assumption) ?_; intro g'))
local macro_rules | `(tactic| walk_at "And") => `(tactic| (refine ⟨?_, _, _, _, rfl, by assumption, by assumption, by assumption, by assumption⟩))
abbrev nCount : Str := Str.ofString "count"
abbrev nLot : Str := Str.ofString "lot"
local macro_rules | `(tactic| walk_at "eval Name") => `(tactic| (k_here; (with_reducible show wpAny _ _ (eval (Expr.Name _ _) (compEnvC _ _ _ _)) _ _ _); k_dflt (first
  | (refine' lcf_cell ?N ?c ?m ?d ?_ ?a ?b; (case a | b => rfl); (case N => k_asm); (case c => rfl); (case m => (repeat (first | (with_reducible assumption) | exact List.Mem.head _ | apply List.mem_cons_of_mem | apply List.mem_append_right))); (case d => with_reducible assumption); k_whole)
  | (refine' lcf_free ?N ?c ?m ?d ?_ ?a ?b; (case a | b => rfl); (case N => k_asm); (case c => rfl); (case m => (repeat (first | (with_reducible assumption) | exact List.Mem.head _ | apply List.mem_cons_of_mem | apply List.mem_append_right))); (case d => with_reducible assumption); k_whole)
  | refine LCgL.ld_own (by k_asm) (by (repeat (first | (with_reducible assumption) | exact List.Mem.head _ | apply List.mem_cons_of_mem | apply List.mem_append_right))) (by assumption) (by assumption) ?_)))
local macro_rules | `(tactic| walk_at "binaryOp Pow int int") => `(tactic| (k_here; refine pow_is _ rfl (by omega) (by decide) ?_))
set_option maxHeartbeats 2000000 in
theorem inner_lots {w : World} {loose : List Str} {mean : ExcName → Option Value} {mg mb : Str → Option Value}
   {dp un : Nat} {gd : Option (List Code)} {cn : Str} {cs : Scope} {a : Addr} {ccd : Value} {cl : List (Str × Addr)} {outer : List Env} {A₀ : Around} {base h₀ : Heap} {L : Addr} {m : Str → Option Value} {s : Shared} {Q E : Value → Shared → Prop}
   {news tb : List (Addr × Obj)} {LL C c cc fa : Addr} {cd : Value} {oc occ : Obj} {k : Int} {q : Nat} {t t2 : Tok}
   (B : Below A₀ base outer h₀) (F : Fr h₀ L s.heap m) (X : (Mine.hd.heap_39 w.params).In h₀)
   (N : News h₀ L s.heap (tb ++ news)) (ht : T16 tb) (ho : Off tb news) (T : Top topProg loose mean mg mb h₀) (C1 : CodeHd base 20 16) (hk : cs.kind = .function)
   (hd : dp + 40 < recursionLimit) (hu : un + 300 < cLine) (mc : (c, oc) ∈ news) (hoc : oc.data = .cell (some (.int k t))) (mcc : (cc, occ) ∈ news) (hocc : occ.data = .cell (some (.int (q : Int) t2))) (hq : q ≤ 4)
   (ret : ∀ D ys tb' h tk, F16 tb' → Off tb' news → IntsAre ys (upTo k (2 ^ q)) → Fr h₀ L h m → News h₀ L h ((D, LCg.lst ys) :: (tb' ++ news)) → (∀ p ∈ tb' ++ news, @Ne Nat p.1 D) → Q (.ref D) { s with heap := h, toks := tk }) :
   wpAny (model PySem.Challenge.rw_hu0001_01.row.prog w) (ktrTop dp un gd cn cs L a ccd cl outer) (eval (compElt (asgVal st1)) (compEnvC (compScope (asgVal st1)) [(nLot, c), (nCount, cc)] C (envOfC (Str.ofString "law") (defScope lawDef) LL fa cd))) Q E s := by
  simp only [compElt, compScope, asgVal, st1, lawBody, forBody, defBody, defScope, lawDef, PySem.Challenge.pw_hu0001_01]
  k_with_none; w_top off; revert X; k_fill; intro X
  k_dflt (refine LCt.ListComp_T (F₀ := F) (by with_unfolding_all rfl) (by decide) (by rfl) (by decide) (by rfl) ?_)
  obtain ⟨hsm, hrn, h16, hpos⟩ := small_pow hq
  have hsz : 2 ^ q ≤ sizeLine := Nat.le_trans h16 (by decide)
  k_dflt lct_toSrc
  refine filt_ind (k := k) ?_ ?_ ?_ (2 ^ q) 0 [] tb (Nat.zero_add _) ht (fun h => absurd h (Nat.lt_irrefl _)) hpos ho .nil
  · intro C oC nx m₂ v h Q E s N hm hC hx hq
    exact LCgL.ld_own N hm hC hx hq
  · intro i tb t I oI C oC D oD m₂ h tk E' hi ht ho hC hx F N
    k_steps
    refine lot_any (by k_asm) (by k_asm) (by k_asm) N ht ho (by k_asm) C1 hk (by ktr_room) (by ktr_units) (by omega) (by omega) ?_
    intro tb' t9' h' tk' hF' ho' F' N'
    k_steps
    all_goals (trace_state; w_report)
  · intro ys tb hF ho hI D h tk F N off
    exact ret D ys tb h tk hF ho hI F N (off1_mem off)
end Mine
end
section
open PySem PySem.W PySem.Calls PyProof.Rows PyProof.V PySem.Spec
set_option maxRecDepth 100000
namespace Mine
abbrev nLots : Str := Str.ofString "lots"
abbrev lawEnv (L fa : Addr) (cd : Value) : Env := envOfC (Str.ofString "law") (defScope lawDef) L fa cd
abbrev Bnd (m : Str → Option Value) (y : Str) (v : Value) : Str → Option Value := fun z => if z = y then some v else m z
theorem off_in4 {tb news : List (Addr × Obj)} {I C D c : Addr} {oI oC oD oc : Obj} (h : Off tb news) (o : ∀ p ∈ tb ++ news, p.1 ≠ I ∧ p.1 ≠ C ∧ p.1 ≠ D ∧ p.1 ≠ c) : Off tb ((I, oI) :: (C, oC) :: (D, oD) :: (c, oc) :: news) := by
  intro p hp q hq
  have z := o q (List.mem_append_left _ hq)
  rcases List.mem_cons.mp hp with rfl | hp
  · exact Ne.symm z.1
  rcases List.mem_cons.mp hp with rfl | hp
  · exact Ne.symm z.2.1
  rcases List.mem_cons.mp hp with rfl | hp
  · exact Ne.symm z.2.2.1
  rcases List.mem_cons.mp hp with rfl | hp
  · exact Ne.symm z.2.2.2
  · exact h p hp q hq
theorem off_out4 {tb tb' news : List (Addr × Obj)} {I C D c N : Addr} {oI oC oD oc oN : Obj} (h : Off tb' ((I, oI) :: (C, oC) :: (D, oD) :: (c, oc) :: news)) (o : ∀ p ∈ tb ++ news, p.1 ≠ I ∧ p.1 ≠ C ∧ p.1 ≠ D ∧ p.1 ≠ c)
    (d : ∀ p ∈ tb' ++ ((I, oI) :: (C, oC) :: (D, oD) :: (c, oc) :: news), @Ne Nat p.1 N) : ∀ p ∈ tb' ++ ((N, oN) :: news), p.1 ≠ I ∧ p.1 ≠ C ∧ p.1 ≠ D ∧ p.1 ≠ c := by
  intro p hp
  rcases List.mem_append.mp hp with hp | hp
  · exact ⟨Ne.symm (h (I, oI) (by simp) p hp), Ne.symm (h (C, oC) (by simp) p hp), Ne.symm (h (D, oD) (by simp) p hp), Ne.symm (h (c, oc) (by simp) p hp)⟩
  rcases List.mem_cons.mp hp with rfl | hp
  · exact ⟨Ne.symm (d (I, oI) (by simp)), Ne.symm (d (C, oC) (by simp)), Ne.symm (d (D, oD) (by simp)), Ne.symm (d (c, oc) (by simp))⟩
  · exact o p (List.mem_append_right _ hp)
theorem news_sub4 {h₀ h : Heap} {L : Addr} {tb news : List (Addr × Obj)} {a b c d e : Addr × Obj} (N : News h₀ L h (e :: (tb ++ (a :: b :: c :: d :: news)))) : News h₀ L h (a :: b :: c :: d :: (tb ++ (e :: news))) := fun p hp => N p (by
  simp only [List.mem_cons, List.mem_append] at hp ⊢
  rcases hp with h | h | h | h | h | h | h <;> simp [h])
/-- behind i turns: the lots made so far, and the table of code -/
def LotsJ (q : Nat) (news : List (Addr × Obj)) : Nat → List Value → List (Addr × Obj) → Prop
  | 0, ys, nx => ys = [] ∧ ∃ tb, nx = tb ++ news ∧ T16 tb ∧ Off tb news
  | 1, ys, nx => ∃ D0 ys0 tb, ys = [.ref D0] ∧ nx = tb ++ ((D0, LCg.lst ys0) :: news) ∧ F16 tb ∧ Off tb ((D0, LCg.lst ys0) :: news) ∧ IntsAre ys0 (upTo 0 (2 ^ q)) ∧ ∀ p ∈ news, @Ne Nat p.1 D0
  | _, ys, nx => ∃ D0 D1 ys0 ys1 tb, ys = [.ref D0, .ref D1] ∧ nx = tb ++ ((D1, LCg.lst ys1) :: (D0, LCg.lst ys0) :: news) ∧ F16 tb ∧ Off tb ((D1, LCg.lst ys1) :: (D0, LCg.lst ys0) :: news) ∧ IntsAre ys0 (upTo 0 (2 ^ q)) ∧ IntsAre ys1 (upTo 1 (2 ^ q)) ∧
      (∀ p ∈ news, @Ne Nat p.1 D0) ∧ (∀ p ∈ news, @Ne Nat p.1 D1) ∧ @Ne Nat D0 D1
theorem off_made {tb nx : List (Addr × Obj)} {N : Addr} {oN : Obj} (h : Off tb nx) (d : ∀ p ∈ tb ++ nx, @Ne Nat p.1 N) : Off tb ((N, oN) :: nx) := fun p hp q hq => by
  rcases List.mem_cons.mp hp with rfl | hp
  · exact Ne.symm (d q (List.mem_append_left _ hq))
  · exact h p hp q hq
set_option maxHeartbeats 2000000 in
theorem lots_ok {w : World} {loose : List Str} {mean : ExcName → Option Value} {mg mb : Str → Option Value}
   {dp un : Nat} {gd : Option (List Code)} {cn : Str} {cs : Scope} {a : Addr} {ccd : Value} {cl : List (Str × Addr)} {outer : List Env} {A₀ : Around} {base h₀ : Heap} {L : Addr} {m : Str → Option Value} {s : Shared} {Q : Flow → Shared → Prop} {E : Value → Shared → Prop}
   {news tb : List (Addr × Obj)} {fa : Addr} {cd : Value} {occ : Obj} {q : Nat} {t2 : Tok}
   (B : Below A₀ base outer h₀) (F : Fr h₀ L s.heap m) (X : (Mine.hd.heap_39 w.params).In h₀)
   (N : News h₀ L s.heap (tb ++ news)) (ht : T16 tb) (ho : Off tb news) (T : Top topProg loose mean mg mb h₀) (C1 : CodeHd base 20 16) (hk : cs.kind = .function)
   (hd : dp + 40 < recursionLimit) (hu : un + 300 < cLine) (mcc : (L + 1, occ) ∈ news) (hocc : occ.data = .cell (some (.int (q : Int) t2))) (hq : q ≤ 4)
   (ret : ∀ D D0 D1 ys0 ys1 tb' h tk, F16 tb' → IntsAre ys0 (upTo 0 (2 ^ q)) → IntsAre ys1 (upTo 1 (2 ^ q)) → Fr h₀ L h (Bnd m nLots (.ref D)) → News h₀ L h ((D, LCg.lst [.ref D0, .ref D1]) :: (tb' ++ ((D1, LCg.lst ys1) :: (D0, LCg.lst ys0) :: news))) →
     Off tb' ((D1, LCg.lst ys1) :: (D0, LCg.lst ys0) :: news) → (∀ p ∈ tb' ++ ((D1, LCg.lst ys1) :: (D0, LCg.lst ys0) :: news), @Ne Nat p.1 D) → (∀ p ∈ news, @Ne Nat p.1 D0) → (∀ p ∈ news, @Ne Nat p.1 D1) → @Ne Nat D0 D1 → Q .next { s with heap := h, toks := tk }) :
   wpAny (model PySem.Challenge.rw_hu0001_01.row.prog w) (ktrTop dp un gd cn cs L a ccd cl outer) (exec st1 (lawEnv L fa cd)) Q E s := by
  have key : ∀ {s : Shared} {m₁ : Str → Option Value} {LL C c : Addr} {k : Int} {t : Tok} {oc : Obj} {nx tb : List (Addr × Obj)} {Q E : Value → Shared → Prop}, Fr h₀ L s.heap m₁ → News h₀ L s.heap (tb ++ nx) → T16 tb → Off tb nx → (c, oc) ∈ nx → oc.data = .cell (some (.int k t)) → (L + 1, occ) ∈ nx →
      (∀ D ys tb' h tk, F16 tb' → Off tb' nx → IntsAre ys (upTo k (2 ^ q)) → Fr h₀ L h m₁ → News h₀ L h ((D, LCg.lst ys) :: (tb' ++ nx)) → (∀ p ∈ tb' ++ nx, @Ne Nat p.1 D) → Q (.ref D) { s with heap := h, toks := tk }) →
      wpAny (model PySem.Challenge.rw_hu0001_01.row.prog w) (ktrTop dp un gd cn cs L a ccd cl outer) (eval (compElt (asgVal st1)) (compEnvC (compScope (asgVal st1)) [(nLot, c), (nCount, L + 1)] C (lawEnv LL fa cd))) Q E s :=
    fun F N ht ho mc hoc mcc ret => inner_lots B F X N ht ho T C1 hk hd hu mc hoc mcc hocc hq ret
  simp only [lawEnv, compElt, compScope, asgVal, st1, lawBody, forBody, defBody, defScope, lawDef, PySem.Challenge.pw_hu0001_01] at key ⊢
  k_with_none; w_top off; revert X; k_fill; intro X
  k_dflt (refine Assign_ListComp_C (h₀ := h₀) (m := m) (L := L) (cl := [(nCount, L + 1)]) ?a1 ?a2 ?a3 ?a4 ?a5 ?a6 ?a7 ?a8 ?a9 ?a10 ?_)
  case a1 => rfl
  case a2 => with_unfolding_all rfl
  case a3 => with_unfolding_all rfl
  case a4 => rfl
  case a5 => decide
  case a6 => intros; rfl
  case a7 => intros; rfl
  case a8 => intros; rfl
  case a9 => rfl
  case a10 => rfl
  k_steps
  rename IsRange _ _ _ _ _ _ _ _ => hr
  rename Fr _ _ _ _ => kF
  rename News _ _ _ _ => kN
  refine ⟨_, _, _, 2, _, LotsJ q news, rfl, ⟨_, _, _, hr⟩, ⟨by decide, by decide, by decide⟩, rfl, kF, kN, ⟨rfl, tb, rfl, ht, ho⟩, ?_, ?_⟩
  · intro i ys nx t I oI C D c oc h tk E' hi hj hoc off F N
    rcases (show i = 0 ∨ i = 1 by omega) with rfl | rfl
    · obtain ⟨rfl, tb, rfl, ht, ho⟩ := hj
      refine key (k := 0 + ((0 : Nat) : Int)) (c := c) F (perm_news (a := [_, _, _, _]) N) ht (off_in4 ho off) (by simp) hoc (by simp [mcc]) ?_
      intro D0 ys0 tb0 h' tk' hF0 ho0 hI0 F' N' od
      have sub : Off tb0 news := ho0.sub fun p hp => by simp [hp]
      exact ⟨h', tk', _, rfl, F', news_sub4 N', off_out4 ho0 off od, D0, ys0, tb0, rfl, rfl, hF0, off_made sub fun p hp => od p (by simp only [List.mem_append, List.mem_cons] at hp ⊢; rcases hp with h | h <;> simp [h]), hI0, fun p hp => od p (by simp [hp])⟩
    · obtain ⟨D0, ys0, tb, rfl, rfl, hF, ho, hI0, on0⟩ := hj
      refine key (k := 0 + ((1 : Nat) : Int)) (c := c) F (perm_news (a := [_, _, _, _]) N) (.inr hF) (off_in4 ho off) (by simp) hoc (by simp [mcc]) ?_
      intro D1 ys1 tb1 h' tk' hF1 ho1 hI1 F' N' od
      have sub : Off tb1 ((D0, LCg.lst ys0) :: news) := ho1.sub fun p hp => by simp only [List.mem_cons] at hp ⊢; rcases hp with h | h <;> simp [h]
      exact ⟨h', tk', _, rfl, F', news_sub4 N', off_out4 ho1 off od, D0, D1, ys0, ys1, tb1, rfl, rfl, hF1, off_made sub fun p hp => od p (by simp only [List.mem_append, List.mem_cons] at hp ⊢; rcases hp with h | h | h <;> simp [h]), hI0, hI1, on0, fun p hp => od p (by simp [hp]), od (D0, LCg.lst ys0) (by simp)⟩
  · rintro D ys nx h tk ⟨D0, D1, ys0, ys1, tb, rfl, rfl, hF, ho, hI0, hI1, n0, n1, n01⟩ F N od
    exact ret D D0 D1 ys0 ys1 tb h tk hF hI0 hI1 F N ho od n0 n1 n01
end Mine
end
section
open PySem PySem.W PySem.Calls PyProof.Rows PyProof.V PySem.Spec
set_option maxRecDepth 100000
namespace Mine
def mv (b st : Int) (ns : List Int) : List Int := ns.map fun n => b + st * n
def IsSums (o : Obj) (ns : List Int) : Prop := ∃ k u0 u1 u2 u3 u4 u5 u6 u7, o = tupO [.int (psum ns 0) u0, .int (psum ns 1) u1, .int (psum ns 2) u2, .int (psum ns 3) u3, .int (psum ns 4) u4, .int (psum ns 5) u5, .int (psum ns 6) u6, .int (psum ns 7) u7] k
theorem mem_upTo {k : Int} {i : Nat} {n : Int} (h : n ∈ upTo k i) : 0 ≤ n ∧ n < i := by
  unfold upTo at h
  have := mem_rangeKs (List.mem_filter.mp h).1
  omega
theorem mv_small {b st : Int} {k : Int} {q : Nat} (hb : -20 ≤ b ∧ b ≤ 20) (hs : 1 ≤ st ∧ st ≤ 5) (hq : 2 ^ q ≤ 16) : ∀ x ∈ mv b st (upTo k (2 ^ q)), x.natAbs < 2 ^ 64 := by
  intro x hx
  obtain ⟨n, hn, rfl⟩ := List.mem_map.mp hx
  have h := mem_upTo hn
  have h1 : 0 ≤ st * n := Int.mul_nonneg (by omega) h.1
  have h2 : st * n ≤ 5 * 16 := Int.mul_le_mul (by omega) (by omega) h.1 (by omega)
  omega
theorem len_two {α : Type} : ∀ {l : List α}, l.length = 2 → ∃ a b, l = [a, b]
  | [a, b], _ => ⟨a, b, rfl⟩
def ToldJ (tl D : Addr) (b st : Int) (q : Nat) (R : List (Addr × Obj)) (i : Nat) (m' : Str → Option Value) (nx : List (Addr × Obj)) : Prop :=
  ∃ (Ts : List (Addr × Obj)) (kt : Nat), nx = (tl, W.listOf (Ts.map fun p => Value.ref p.1).toArray kt) :: (Ts ++ R) ∧ Ts.length = i ∧ (∀ (j : Nat) (p : Addr × Obj), Ts[j]? = some p → IsSums p.2 (mv b st (upTo (j : Int) (2 ^ q)))) ∧ (∀ p ∈ Ts, @Ne Nat p.1 tl) ∧ m' nLots = some (.ref D)
theorem told_end {h₀ h : Heap} {L tl D I Tn : Addr} {b st : Int} {q i kt tk : Nat} {R R' Ts led : List (Addr × Obj)} {oI on : Obj} {m' : Str → Option Value} {s₁ : Shared} (F : Fr h₀ L h m') (N : News h₀ L h led)
    (htl : (tl, W.listOf ((Ts.map fun p => Value.ref p.1).toArray.push (.ref Tn)) (kt + 1)) ∈ led) (hT : (Tn, on) ∈ led) (hI : (I, oI) ∈ led) (hR : ∀ p ∈ R', p ∈ led) (e : R' = Ts ++ R) (n1 : @Ne Nat Tn I) (n2 : @Ne Nat Tn tl) (n3 : @Ne Nat tl I) (hoI : ∀ p ∈ R', @Ne Nat p.1 I)
    (hlen : Ts.length = i) (hS : ∀ (j : Nat) (p : Addr × Obj), Ts[j]? = some p → IsSums p.2 (mv b st (upTo (j : Int) (2 ^ q)))) (hTt : ∀ p ∈ R', @Ne Nat p.1 tl) (hon : IsSums on (mv b st (upTo (i : Int) (2 ^ q)))) (hm : m' nLots = some (.ref D)) :
    EndI h₀ L (ToldJ tl D b st q R (i + 1)) I oI s₁ { s₁ with heap := h, toks := tk } := by
  subst e
  have hs : ∀ p ∈ (tl, W.listOf ((Ts ++ [(Tn, on)]).map fun p => Value.ref p.1).toArray (kt + 1)) :: ((Ts ++ [(Tn, on)]) ++ R), p ∈ led := by
    intro p hp
    rcases List.mem_cons.mp hp with rfl | hp
    · rw [List.map_append, List.map_singleton, ← List.push_toArray]; exact htl
    · simp only [List.mem_append, List.mem_singleton] at hp
      rcases hp with (hp | rfl) | hp
      · exact hR p (List.mem_append_left _ hp)
      · exact hT
      · exact hR p (List.mem_append_right _ hp)
  refine EndI.intro F N hI hs ?_ ⟨Ts ++ [(Tn, on)], kt + 1, rfl, by simp [hlen], ?_, ?_, hm⟩
  · intro p hp
    rcases List.mem_cons.mp hp with rfl | hp
    · exact n3
    · simp only [List.mem_append, List.mem_singleton] at hp
      rcases hp with (hp | rfl) | hp
      · exact hoI p (List.mem_append_left _ hp)
      · exact n1
      · exact hoI p (List.mem_append_right _ hp)
  · intro j p hj
    by_cases hji : j < i
    · rw [List.getElem?_append_left (by omega)] at hj
      exact hS j p hj
    · rw [List.getElem?_append_right (by omega), hlen] at hj
      have : j - i = 0 := by
        by_cases hz : j - i = 0
        · exact hz
        · rw [List.getElem?_eq_none (by simp; omega)] at hj; cases hj
      rw [this] at hj
      have e1 : j = i := by omega
      subst e1
      cases hj
      exact hon
  · intro p hp
    simp only [List.mem_append, List.mem_singleton] at hp
    rcases hp with hp | rfl
    · exact hTt p (List.mem_append_left _ hp)
    · exact n2
section
open LCg
variable {prog : Program} {w : World} {A : Around} {s : Shared} {h₀ : Heap} {L : Addr} {m : Str → Option Value} {env : Env}
theorem map_ind {elt : Expr} {x : Str} {scope : Scope} {cl : List (Str × Addr)} {Fin : List Value → List (Addr × Obj) → Prop} {news : List (Addr × Obj)} {ax : Addr} {vs : List Value} {ns : List Int} (f : Int → Int)
    (hI : IntsAre vs ns) (hS : SrcAt h₀ ax vs.toArray news)
    (turn : ∀ (i : Nat) (n : Int) t I oI C oC D ys m₂ h tk (E' : Value → Shared → Prop), ns[i]? = some n → NsObj oC m₂ → m₂ x = some (.int n t) → Fr h₀ L h m → News h₀ L h ((I, oI) :: (C, oC) :: (D, lst ys) :: news) →
      wpAny (model prog w) A (eval elt (compEnvC scope cl C env)) (fun y s' => ∃ u tk', y = .int (f n) u ∧ s' = { s with heap := h, toks := tk' }) E' { s with heap := h, toks := tk })
    (fin : ∀ ys, IntsAre ys (ns.map f) → Fin ys news) :
    ∀ j i ys, i + j = vs.toArray.size → IntsAre ys ((ns.take i).map f) → CompRest prog w A h₀ L m env elt x scope cl s (SrcAt h₀ ax vs.toArray) (fun i v => vs.toArray[i]? = some v) Fin j i ys news := by
  have hlen : vs.toArray.size = ns.length := by simp [hI.length]
  intro j
  induction j with
  | zero =>
    intro i ys e h
    rw [List.take_of_length_le (by omega)] at h
    exact CompRest.zero (fin ys h)
  | succ j ih =>
    intro i ys e h
    refine CompRest.succ ?_
    intro v I oI C oC D m₂ hp tk E' hP hC hx F N off hne
    obtain ⟨n, hn⟩ : ∃ n, ns[i]? = some n := ⟨ns[i]'(by omega), by simp⟩
    obtain ⟨t, hv⟩ := hI.get i n hn
    have e2 : v = .int n t := by
      have hP' : vs[i]? = some v := by simpa using hP
      rw [hv] at hP'; exact (Option.some.inj hP').symm
    subst e2
    refine wpAny_mono (turn i n t I oI C oC D ys m₂ hp tk E' hn hC hx F N) (fun y s' p => ?_) fun _ _ e => e
    obtain ⟨u, tk', rfl, rfl⟩ := p
    refine CompEnd.intro F N news (fun p hp => hp) off hS (ih (i + 1) _ (by omega) ?_)
    rw [List.take_add_one, hn, Option.toList_some, List.map_append]
    exact ints_snoc h _ _
end
local macro_rules | `(tactic| walk_at "CompSrc") => `(tactic| (k_here; refine LCg.CompSrc.ledger (by rfl) (by k_asm) (by k_asm) (by (repeat (first | (with_reducible assumption) | exact List.Mem.head _ | apply List.mem_cons_of_mem))) (by assumption) ?_; intro g'))
local macro_rules | `(tactic| walk_at "Exists") => `(tactic| exact ⟨_, _, rfl, rfl⟩)
local macro_rules | `(tactic| walk_at "eval Name") => `(tactic| (k_here; k_dflt (first
  | (refine' nameX_C ?N ?c ?m ?d ?_ ?a ?b; (case a | b => rfl); (case N => k_asm); (case c => rfl); (case m => (repeat (first | (with_reducible assumption) | exact List.Mem.head _ | apply List.mem_cons_of_mem))); (case d => with_reducible assumption); k_whole)
  | (refine' nameX_L ?F ?v ?_ ?a ?b; (case F => k_asm); (case a | b => rfl); (case v => first | with_reducible assumption | rfl); k_whole)
  | (refine' lcf_cell ?N ?c ?m ?d ?_ ?a ?b; (case a | b => rfl); (case N => k_asm); (case c => rfl); (case m => (repeat (first | (with_reducible assumption) | exact List.Mem.head _ | apply List.mem_cons_of_mem))); (case d => with_reducible assumption); k_whole)
  | (refine' lcf_free ?N ?c ?m ?d ?_ ?a ?b; (case a | b => rfl); (case N => k_asm); (case c => rfl); (case m => (repeat (first | (with_reducible assumption) | exact List.Mem.head _ | apply List.mem_cons_of_mem))); (case d => with_reducible assumption); k_whole))))
local macro_rules | `(tactic| k_all) => `(tactic| first | assumption | exact ne_of_allLt (by assumption) (by omega))
local macro_rules | `(tactic| walk_at "call ref") => `(tactic| (k_here; k_dflt (first | refine' sums 0 ?k1 ?k2 ?k3 ?k4 ?k5 ?kK ?ml ?hI ?hlen ?hns ?hp ?kd ?ku ?_ | refine' sums 4 ?k1 ?k2 ?k3 ?k4 ?k5 ?kK ?ml ?hI ?hlen ?hns ?hp ?kd ?ku ?_); (case k1 | k2 | k3 | k4 | k5 => k_asm); (case kK => with_reducible assumption); (case ml => (repeat (first | (with_reducible assumption) | exact List.Mem.head _ | apply List.mem_cons_of_mem))); (case hI => with_reducible assumption); (case hlen => with_reducible assumption); (case hns => with_reducible assumption); (case hp => decide); (case kd => ktr_room); (case ku => ktr_units); intro D' k' u0' u1' u2' u3' h' tk' F' N' l1; (try k_lt l1)))
local macro_rules | `(tactic| walk_at "binaryOp Add ref ref") => `(tactic| (k_here; k_dflt (refine' kde_addT ?k1 ?k2 ?k3 ?k4 ?k5 ?k6 ?k7 ?k8 ?_; (case k1 | k2 => k_asm); (case k3 => exact News.isTup (by k_asm) (by (repeat (first | (with_reducible assumption) | exact List.Mem.head _ | apply List.mem_cons_of_mem)))); (case k4 => exact News.isTup (by k_asm) (by (repeat (first | (with_reducible assumption) | exact List.Mem.head _ | apply List.mem_cons_of_mem)))); (case k5 => exact List.cons_ne_nil _ _); (case k6 => exact List.cons_ne_nil _ _); (case k7 => exact Nat.le_of_ble_eq_true rfl); (case k8 => exact rfl); k_whole); intro D8' h8' F' N' l1; (try k_lt l1)))
local macro_rules | `(tactic| walk_at "call builtin:list.append") => `(tactic| (k_here; k_dflt (refine' append_K ?k1 ?k2 ?k3 ?_ ?z; (case k1 | k2 => k_asm); (case k3 => k_upd); (case z => with_reducible assumption); k_whole); intro h' F' N'))
set_option maxHeartbeats 2000000 in
theorem told_ok {w : World} {loose : List Str} {mean : ExcName → Option Value} {mg mb : Str → Option Value}
   {dp un : Nat} {gd : Option (List Code)} {cn : Str} {cs : Scope} {a : Addr} {ccd : Value} {cl : List (Str × Addr)} {outer : List Env} {A₀ : Around} {base h₀ : Heap} {L : Addr} {m : Str → Option Value} {s : Shared} {Q : Flow → Shared → Prop} {E : Value → Shared → Prop}
   {R : List (Addr × Obj)} {fa : Addr} {cd : Value} {os ob ot : Obj} {q kt : Nat} {t2 t3 : Tok} {b st : Int} {D D0 D1 tl : Addr} {ys0 ys1 : List Value}
   (B : Below A₀ base outer h₀) (F : Fr h₀ L s.heap m) (X : (Mine.hd.heap_39 w.params).In h₀)
   (N : News h₀ L s.heap ((tl, W.listOf #[] kt) :: R)) (T : Top topProg loose mean mg mb h₀) (hk : cs.kind = .function)
   (hd : dp + 80 < recursionLimit) (hu : un + 600 < cLine)
   (mD : (D, LCg.lst [.ref D0, .ref D1]) ∈ R) (m0 : (D0, LCg.lst ys0) ∈ R) (m1 : (D1, LCg.lst ys1) ∈ R)
   (ms : (L + 1 + 1, os) ∈ R) (hos : os.data = .cell (some (.int st t2))) (mb' : (L + 1 + 1 + 1, ob) ∈ R) (hob : ob.data = .cell (some (.int b t3))) (mt : (L + 1 + 1 + 1 + 1, ot) ∈ R) (hot : ot.data = .cell (some (.ref tl)))
   (hoff : ∀ p ∈ R, @Ne Nat p.1 tl) (hI0 : IntsAre ys0 (upTo 0 (2 ^ q))) (hI1 : IntsAre ys1 (upTo 1 (2 ^ q))) (hq : q ≤ 4) (hb : -20 ≤ b ∧ b ≤ 20) (hst : 1 ≤ st ∧ st ≤ 5) (hm : m nLots = some (.ref D))
   (hE : PassesOwn (model PySem.Challenge.rw_hu0001_01.row.prog w) (ktrTop dp un gd cn cs L a ccd cl outer) (lawEnv L fa cd) E)
   (ret : ∀ T0 T1 o0 o1 k' m' h tk, Fr h₀ L h m' → m' nLots = some (.ref D) → News h₀ L h ((tl, W.listOf #[.ref T0, .ref T1] k') :: (T0, o0) :: (T1, o1) :: R) → IsSums o0 (mv b st (upTo 0 (2 ^ q))) → IsSums o1 (mv b st (upTo 1 (2 ^ q))) → Q .next { s with heap := h, toks := tk }) :
   wpAny (model PySem.Challenge.rw_hu0001_01.row.prog w) (ktrTop dp un gd cn cs L a ccd cl outer) (exec st4 (lawEnv L fa cd)) Q E s := by
  simp only [lawEnv, st4, lawBody, forBody, defBody, defScope, lawDef, PySem.Challenge.pw_hu0001_01] at hE ⊢
  obtain ⟨hsm, hrn, h16, hpos⟩ := small_pow hq
  k_with_none; w_top off; revert X; k_fill; intro X
  k_dflt (refine For_invVF F ?fx ?fp ?fh ?_ hE)
  case fx => rfl
  case fp => rfl
  case fh =>
    walk1
    k_dflt (refine' iter_GV (vs := [.ref D0, .ref D1]) (ToldJ tl D b st q R) rfl ?il F N ?ij ?it ?id)
    case il =>
      rintro i m' nx ⟨Ts, kt, rfl, _⟩
      exact List.mem_cons_of_mem _ (List.mem_append_right _ mD)
    case ij => exact ⟨[], kt, rfl, rfl, fun j p h => by simp at h, fun p h => by simp at h, hm⟩
    case it =>
      rintro i v m₁ nx I oI h tk hv ⟨Ts, kt, rfl, hlen, hS, hTt, hm1⟩ hoI F N
      obtain ⟨Di, ysi, rfl, mDi, hIi⟩ : ∃ Di ysi, v = .ref Di ∧ (Di, LCg.lst ysi) ∈ R ∧ IntsAre ysi (upTo (i : Int) (2 ^ q)) := by
        match i, hv with
        | 0, hv => exact ⟨D0, ys0, (Option.some.inj hv).symm, m0, hI0⟩
        | 1, hv => exact ⟨D1, ys1, (Option.some.inj hv).symm, m1, hI1⟩
      obtain ⟨R', hR'⟩ : ∃ R', R' = Ts ++ R := ⟨_, rfl⟩
      have hin : ∀ p ∈ R, p ∈ R' := fun p hp => hR' ▸ List.mem_append_right _ hp
      have hoff' : ∀ p ∈ R', @Ne Nat p.1 tl := fun p hp => by
        rw [hR'] at hp
        rcases List.mem_append.mp hp with hp | hp
        · exact hTt p hp
        · exact hoff p hp
      have hoI' : ∀ p ∈ R', @Ne Nat p.1 I := fun p hp => hoI p (List.mem_cons_of_mem _ (hR' ▸ hp))
      have hIt : @Ne Nat tl I := hoI (tl, _) (List.Mem.head _)
      rw [← hR'] at N
      have ms' := hin _ ms
      have mb'' := hin _ mb'
      have mt' := hin _ mt
      have mDi' := hin _ mDi
      clear hoI hTt
      have hszi : ysi.toArray.size ≤ sizeLine := by
        have h1 := hIi.length
        have h2 : (upTo (i : Int) (2 ^ q)).length ≤ 2 ^ q := by
          unfold upTo
          exact Nat.le_trans (List.length_filter_le _ _) (by rw [rangeKs_length]; exact Nat.le_refl _)
        rw [List.size_toArray]
        exact Nat.le_trans (by omega) (show 16 ≤ sizeLine by decide)
      k_steps
      rename News _ _ _ _ => N8
      refine map_ind (fun n => b + st * n) hIi (.inr ⟨_, by (repeat (first | (with_reducible assumption) | exact List.Mem.head _ | apply List.mem_cons_of_mem)), rfl, _, rfl⟩) ?mt ?mf _ 0 [] (Nat.zero_add _) .nil
      case mt =>
        intro i n t I oI C oC D ys m₂ h tk E' hn hC hx F N
        k_steps
        all_goals (trace_state; w_report)
      case mf =>
        intro ysm hIm0 Dm h' tk' F N off
        have of1 : @Ne Nat I Dm := off.1
        have of2 : @Ne Nat tl Dm := off.2.1
        have hzT : (Ts.map fun p => Value.ref p.1).toArray.size ≤ sizeLine := by
          have h2 : i < 2 := by
            have := (List.getElem?_eq_some_iff.mp hv).1
            simpa using this
          rw [List.size_toArray, List.length_map, hlen]
          exact Nat.le_trans (Nat.le_of_lt h2) (by decide)
        have hIm : IntsAre ysm (mv b st (upTo (i : Int) (2 ^ q))) := hIm0
        clear hIm0
        have hns := mv_small (k := (i : Int)) hb hst h16
        have hlm : ysm.length ≤ 64 := by
          have h1 := hIm.length
          have h2 : (upTo (i : Int) (2 ^ q)).length ≤ 2 ^ q := by
            unfold upTo
            exact Nat.le_trans (List.length_filter_le _ _) (by rw [rangeKs_length]; exact Nat.le_refl _)
          unfold mv at h1
          rw [List.length_map] at h1
          omega
        k_steps
        rename News _ _ _ _ => kN
        rename Fr _ _ _ _ => kF
        exact told_end kF kN (by (repeat (first | (with_reducible assumption) | exact List.Mem.head _ | apply List.mem_cons_of_mem))) (by (repeat (first | (with_reducible assumption) | exact List.Mem.head _ | apply List.mem_cons_of_mem))) (by (repeat (first | (with_reducible assumption) | exact List.Mem.head _ | apply List.mem_cons_of_mem))) (fun p hp => by (repeat (first | (with_reducible assumption) | exact List.Mem.head _ | apply List.mem_cons_of_mem))) hR' (by omega) (by omega) hIt hoI' hlen hS hoff' ⟨_, _, _, _, _, _, _, _, _, rfl⟩ hm1
    case id =>
      rintro m' nx h tk ⟨Ts, kt, rfl, hlen, hS, -, hm'⟩ F N
      obtain ⟨⟨T0, o0⟩, ⟨T1, o1⟩, rfl⟩ := len_two hlen
      exact ret T0 T1 o0 o1 kt m' h tk F hm' N (hS 0 _ rfl) (hS 1 _ rfl)
  case _ => intro _; rfl
end Mine
end
section
open PySem PySem.W PySem.Calls PyProof.Rows PyProof.V PySem.Spec
set_option maxRecDepth 100000
namespace Mine
section
variable {prog : Program} {w : World} {A : Around} {E : Value → Shared → Prop} {s : Shared} {h₀ : Heap} {L : Addr} {m : Str → Option Value} {news : List (Addr × Obj)}
theorem sums_get {value slice : Expr} {T : Addr} {o : Obj} {ns : List Int} {u : Tok} {k : Int} {Q : Value → Shared → Prop} (i : Nat) (N : News h₀ L s.heap news) (hm : (T, o) ∈ news) (hS : IsSums o ns) (hi : i < 8) (hk : k = (i : Int))
    (h : ∀ t, Q (.int (psum ns i) t) s) (hs : subscripted slice false (.ref T) (.int k u) = operate [.ref T, .int k u] (getItem (.ref T) (.int k u)) := by with_unfolding_all rfl) :
    wpAny (model prog w) A (subscriptTail value slice (.ref T) (.int k u)) Q E s := by
  obtain ⟨k', u0, u1, u2, u3, u4, u5, u6, u7, rfl⟩ := hS
  subst hk
  have ht := News.isTup N hm
  rcases (by omega : i = 0 ∨ i = 1 ∨ i = 2 ∨ i = 3 ∨ i = 4 ∨ i = 5 ∨ i = 6 ∨ i = 7) with rfl | rfl | rfl | rfl | rfl | rfl | rfl | rfl
  · exact item_tupleT (j := 0) ht (by decide) (by decide) rfl rfl (h u0) hs
  · exact item_tupleT (j := 1) ht (by decide) (by decide) rfl rfl (h u1) hs
  · exact item_tupleT (j := 2) ht (by decide) (by decide) rfl rfl (h u2) hs
  · exact item_tupleT (j := 3) ht (by decide) (by decide) rfl rfl (h u3) hs
  · exact item_tupleT (j := 4) ht (by decide) (by decide) rfl rfl (h u4) hs
  · exact item_tupleT (j := 5) ht (by decide) (by decide) rfl rfl (h u5) hs
  · exact item_tupleT (j := 6) ht (by decide) (by decide) rfl rfl (h u6) hs
  · exact item_tupleT (j := 7) ht (by decide) (by decide) rfl rfl (h u7) hs
theorem list_get2 {value slice : Expr} {l : Addr} {a b x : Value} {k : Nat} {n : Int} {u : Tok} {Q : Value → Shared → Prop} (N : News h₀ L s.heap news) (hm : (l, W.listOf #[a, b] k) ∈ news) (hx : (n = 0 ∧ x = a) ∨ (n = 1 ∧ x = b)) (h : Q x s)
    (hs : subscripted slice false (.ref l) (.int n u) = operate [.ref l, .int n u] (getItem (.ref l) (.int n u)) := by with_unfolding_all rfl) (hg : ∀ r, letTemporaryGo value (.ref l) r = pure () := by intro _; with_unfolding_all rfl) :
    wpAny (model prog w) A (subscriptTail value slice (.ref l) (.int n u)) Q E s := by
  rcases hx with ⟨rfl, rfl⟩ | ⟨rfl, rfl⟩
  · exact item_list (News.isList N hm) (by decide) (by decide) rfl h hs hg
  · exact item_list (News.isList N hm) (by decide) (by decide) rfl h hs hg
open LCg LCt
theorem none_ind {env : Env} {ct elt : Expr} {x : Str} {scope : Scope} {cl : List (Str × Addr)} {Fin : List Value → List (Addr × Obj) → Prop} {M : Nat}
    (turn : ∀ (i : Nat) t I oI C oC D m₂ h tk (E' : Value → Shared → Prop), i < M → NsObj oC m₂ → m₂ x = some (.int (i : Int) t) → Fr h₀ L h m → News h₀ L h ((I, oI) :: (C, oC) :: (D, lst []) :: news) →
      wpAny (model prog w) A (isTrue ct (compEnvC scope cl C env) (eval ct (compEnvC scope cl C env))) (fun ok s' => ok = false ∧ ∃ tk', s' = { s with heap := h, toks := tk' }) E' { s with heap := h, toks := tk })
    (fin : Fin [] news) :
    ∀ j i, i + j = M → CompRestT prog w A h₀ L m env ct elt x scope cl s (fun _ => True) (fun i v => ∃ t, v = .int (0 + (i : Int)) t) Fin j i [] news := by
  intro j
  induction j with
  | zero => intro i e; exact CompRestT.zero fin
  | succ j ih =>
    intro i e
    refine CompRestT.succ ?_
    intro v I oI C oC D m₂ h tk E' hP hC hx F N off hne
    obtain ⟨t, rfl⟩ := hP
    rw [Int.zero_add] at hx
    refine wpAny_mono (turn i t I oI C oC D m₂ h tk E' (by omega) hC hx F N) (fun ok s₂ p => ?_) fun _ _ e => e
    obtain ⟨rfl, tk', rfl⟩ := p
    rw [if_neg (by decide)]
    exact CompEnd.intro F N news (fun p hp => hp) off trivial (ih (i + 1) (by omega))
end
local macro_rules | `(tactic| walk_at "eval Name") => `(tactic| (k_here; k_dflt (first
  | (refine' nameX_C ?N ?c ?m ?d ?_ ?a ?b; (case a | b => rfl); (case N => k_asm); (case c => rfl); (case m => (repeat (first | (with_reducible assumption) | exact List.Mem.head _ | apply List.mem_cons_of_mem))); (case d => with_reducible assumption); k_whole)
  | (refine' nameX_L ?F ?v ?_ ?a ?b; (case F => k_asm); (case a | b => rfl); (case v => first | with_reducible assumption | rfl); k_whole)
  | (refine' lcf_cell ?N ?c ?m ?d ?_ ?a ?b; (case a | b => rfl); (case N => k_asm); (case c => rfl); (case m => (repeat (first | (with_reducible assumption) | exact List.Mem.head _ | apply List.mem_cons_of_mem))); (case d => with_reducible assumption); k_whole)
  | (refine' lcf_free ?N ?c ?m ?d ?_ ?a ?b; (case a | b => rfl); (case N => k_asm); (case c => rfl); (case m => (repeat (first | (with_reducible assumption) | exact List.Mem.head _ | apply List.mem_cons_of_mem))); (case d => with_reducible assumption); k_whole))))
local macro_rules | `(tactic| walk_at "subscriptTail") => `(tactic| (k_here; (with_reducible show wpAny _ _ (subscriptTail _ _ (Value.ref _) (Value.int _ _)) _ _ _); k_dflt (first
  | (refine list_get2 (by k_asm) (by (repeat (first | (with_reducible assumption) | exact List.Mem.head _ | apply List.mem_cons_of_mem))) (by first | exact .inl ⟨rfl, rfl⟩ | exact .inr ⟨rfl, rfl⟩) ?_)
  | (refine sums_get _ (by k_asm) (by (repeat (first | (with_reducible assumption) | exact List.Mem.head _ | apply List.mem_cons_of_mem))) (by with_reducible assumption) (by omega) rfl ?_; intro t9'))))
local macro_rules | `(tactic| walk_at "eval ListComp") => `(tactic| (k_here; k_dflt (refine LCt.ListComp_T (F₀ := by k_asm) (by with_unfolding_all rfl) (by decide) (by rfl) (by decide) (by rfl) ?_)))
local macro_rules | `(tactic| walk_at "CompSrcT") => `(tactic| (k_here; refine LCt.CompSrcT.range (by rfl) (by k_asm) (by k_asm) (by assumption) (by assumption) (by assumption) (by assumption) ?_; intro g'))
theorem small_cnt {q : Nat} (hq : q ≤ 4) : Builtin.Range.small 0 (q : Int) 1 = true ∧ Builtin.Range.rangeSize 0 (q : Int) 1 = (q : Int) ∧ q ≤ sizeLine := by
  rcases (by omega : q = 0 ∨ q = 1 ∨ q = 2 ∨ q = 3 ∨ q = 4) with rfl | rfl | rfl | rfl | rfl <;> refine ⟨by decide, by decide, by decide⟩
set_option maxHeartbeats 2000000 in
theorem sel_ok {w : World} {loose : List Str} {mean : ExcName → Option Value} {mg mb : Str → Option Value}
   {dp un : Nat} {gd : Option (List Code)} {cn : Str} {cs : Scope} {a : Addr} {ccd : Value} {cl : List (Str × Addr)} {outer : List Env} {A₀ : Around} {base h₀ : Heap} {L : Addr} {m : Str → Option Value} {s : Shared} {Q : Flow → Shared → Prop} {E : Value → Shared → Prop}
   {R : List (Addr × Obj)} {fa : Addr} {cd : Value} {oc ot o0 o1 : Obj} {q kt : Nat} {t2 : Tok} {tl T0 T1 : Addr} {n0 n1 : List Int}
   (B : Below A₀ base outer h₀) (F : Fr h₀ L s.heap m) (X : (Mine.hd.heap_39 w.params).In h₀)
   (N : News h₀ L s.heap R) (T : Top topProg loose mean mg mb h₀) (hk : cs.kind = .function)
   (hd : dp + 80 < recursionLimit) (hu : un + 600 < cLine)
   (mtl : (tl, W.listOf #[.ref T0, .ref T1] kt) ∈ R) (m0 : (T0, o0) ∈ R) (m1 : (T1, o1) ∈ R) (hS0 : IsSums o0 n0) (hS1 : IsSums o1 n1)
   (mc : (L + 1, oc) ∈ R) (hoc : oc.data = .cell (some (.int (q : Int) t2))) (mt : (L + 1 + 1 + 1 + 1, ot) ∈ R) (hot : ot.data = .cell (some (.ref tl))) (hq : q ≤ 4)
   (heq : ∀ i, i < q → psum n0 i = psum n1 i)
   (ret : ∀ h tk, Fr h₀ L h m → News h₀ L h R → Q .next { s with heap := h, toks := tk }) :
   wpAny (model PySem.Challenge.rw_hu0001_01.row.prog w) (ktrTop dp un gd cn cs L a ccd cl outer) (exec st6 (lawEnv L fa cd)) Q E s := by
  simp only [lawEnv, st6, lawBody, forBody, defBody, defScope, lawDef, PySem.Challenge.pw_hu0001_01]
  obtain ⟨hsm, hrn, hsz⟩ := small_cnt hq
  k_with_none; w_top off; revert X; k_fill; intro X
  k_steps
  refine none_ind ?_ ?_ q 0 (Nat.zero_add _)
  · intro i t I oI C oC D m₂ h tk E' hi hC hx F N
    have e := heq i hi
    k_steps
    rw [e]; exact bne_self_eq_false _
  · k_steps
    rename News _ _ _ _ => kN
    apply ret
    · assumption
    · exact kst_newsOf kN (fun p hp => by (repeat (first | (with_reducible assumption) | apply List.mem_cons_of_mem)))
end Mine
end
section
open PySem PySem.W PySem.Calls PyProof.Rows PyProof.V PySem.Spec
set_option maxRecDepth 100000
namespace Mine
abbrev nDue : Str := Str.ofString "due"
def dueAcc (d : Int) : Nat → Int
  | 0 => d
  | i + 1 => dueAcc d i * ((i : Int) + 1) * 2 ^ i
theorem canon1 {m : Str → Option Value} {x : Str} {v : Value} (h : m x = some v) : m = fun y => if y = x then some v else m y := by
  funext y
  by_cases hy : y = x
  · rw [if_pos hy, hy]; exact h
  · rw [if_neg hy]
local macro_rules | `(tactic| walk_at "binaryOp Pow int int") => `(tactic| (k_here; refine pow_is _ (Int.zero_add _) (by omega) (by decide) ?_))
theorem pow_mulOk {i : Nat} (hi : i < 4) (a : Int) : IntMulOk a (2 ^ i) := by
  refine IntMulOk.of_right ?_
  rcases (by omega : i = 0 ∨ i = 1 ∨ i = 2 ∨ i = 3) with rfl | rfl | rfl | rfl <;> exact intBits_le_64 (by decide) (by decide)
theorem succ_mulOk {i : Nat} (hi : i < 4) (a : Int) : IntMulOk a (0 + (i : Int) + 1) := by
  refine IntMulOk.of_right ?_
  rcases (by omega : i = 0 ∨ i = 1 ∨ i = 2 ∨ i = 3) with rfl | rfl | rfl | rfl <;> exact intBits_le_64 (by decide) (by decide)
local macro_rules | `(tactic| walk_at "binaryOp Mult int int") => `(tactic| (k_here; first | refine mul_int ?_ (succ_mulOk (by omega) _) | refine mul_int ?_ (pow_mulOk (by omega) _)))
set_option maxHeartbeats 2000000 in
theorem due_ok {w : World} {loose : List Str} {mean : ExcName → Option Value} {mg mb : Str → Option Value}
   {dp un : Nat} {gd : Option (List Code)} {cn : Str} {cs : Scope} {a : Addr} {ccd : Value} {cl : List (Str × Addr)} {outer : List Env} {A₀ : Around} {base h₀ : Heap} {L : Addr} {m : Str → Option Value} {s : Shared} {Q : Flow → Shared → Prop} {E : Value → Shared → Prop}
   {R : List (Addr × Obj)} {fa : Addr} {cd : Value} {oc : Obj} {q : Nat} {t2 td : Tok} {d : Int}
   (B : Below A₀ base outer h₀) (F : Fr h₀ L s.heap m) (X : (Mine.hd.heap_39 w.params).In h₀)
   (N : News h₀ L s.heap R) (T : Top topProg loose mean mg mb h₀) (hk : cs.kind = .function)
   (hd : dp + 80 < recursionLimit) (hu : un + 600 < cLine)
   (mc : (L + 1, oc) ∈ R) (hoc : oc.data = .cell (some (.int (q : Int) t2))) (hq : q ≤ 4) (hm : m nDue = some (.int d td))
   (hE : PassesOwn (model PySem.Challenge.rw_hu0001_01.row.prog w) (ktrTop dp un gd cn cs L a ccd cl outer) (lawEnv L fa cd) E)
   (ret : ∀ m' t h tk, Fr h₀ L h m' → m' nDue = some (.int (dueAcc d q) t) → News h₀ L h R → Q .next { s with heap := h, toks := tk }) :
   wpAny (model PySem.Challenge.rw_hu0001_01.row.prog w) (ktrTop dp un gd cn cs L a ccd cl outer) (exec st8 (lawEnv L fa cd)) Q E s := by
  simp only [lawEnv, st8, lawBody, forBody, defBody, defScope, lawDef, PySem.Challenge.pw_hu0001_01] at hE ⊢
  obtain ⟨hsm, hrn, hsz⟩ := small_cnt hq
  k_with_none; w_top off; revert X; k_fill; intro X
  k_dflt (refine For_invVF F ?fx ?fp ?fh ?_ hE)
  case fx => rfl
  case fp => rfl
  case fh =>
    iterate 7 walk1
    k_dflt (refine' iter_GR (n := q) (fun i m' nx => nx = R ∧ ∃ t, m' nDue = some (.int (dueAcc d i) t)) rfl ?ir hsm hrn ?iF ?iN ⟨rfl, td, hm⟩ ?it ?id)
    case ir => assumption
    case iF => assumption
    case iN => assumption
    case it =>
      rintro i t m₁ nx I oI h tk hi ⟨rfl, t9, hm1⟩ hoff F N
      rw [canon1 hm1] at F
      have e : dueAcc d (i + 1) = dueAcc d i * (0 + (i : Int) + 1) * 2 ^ i := by rw [Int.zero_add]; rfl
      k_steps
      rename News _ _ _ _ => kN
      rename Fr _ _ _ _ => kF
      refine' EndI.intro kF kN (List.Mem.head _) (fun p hp => List.mem_cons_of_mem _ hp) hoff ⟨rfl, ?tq, ?pq⟩
      case pq => rw [e]; exact if_pos rfl
    case id =>
      rintro m₁ nx h tk ⟨rfl, t9, hm1⟩ F N
      exact ret m₁ t9 h tk F hm1 N
  case _ => intro _; rfl
end Mine
end
section
open PySem PySem.W PyProof.Rows
set_option maxRecDepth 100000
namespace Mine
theorem lot_facts {n : Int} (h0 : 0 ≤ n) (h1 : n < 16) : lotOf (2 * n) = lotOf n ∧ lotOf (2 * n + 1) ≠ lotOf n := by
  obtain ⟨k, rfl⟩ := Int.eq_ofNat_of_zero_le h0
  have hk : k < 16 := by omega
  clear h0 h1
  revert k
  decide
theorem dig_facts {n : Int} (h0 : 0 ≤ n) (h1 : n < 16) : vl ((digs n.toNat (Builtin.Int.intBits n)).drop 1) 0 ((digs n.toNat (Builtin.Int.intBits n)).drop 1).length = n.fdiv 2 ∧ vl (digs n.toNat (Builtin.Int.intBits n)) 0 (digs n.toNat (Builtin.Int.intBits n)).length = n ∧ (digs n.toNat (Builtin.Int.intBits n)).length ≤ 5 := by
  obtain ⟨k, rfl⟩ := Int.eq_ofNat_of_zero_le h0
  have hk : k < 16 := by omega
  clear h0 h1
  revert k
  decide
theorem len_facts {q : Nat} (hq : q ≤ 4) : (upTo 0 (2 ^ q)).length + (upTo 1 (2 ^ q)).length = 2 ^ q ∧ (0 < q → (upTo 0 (2 ^ q)).length = (upTo 1 (2 ^ q)).length) := by
  rcases (by omega : q = 0 ∨ q = 1 ∨ q = 2 ∨ q = 3 ∨ q = 4) with rfl | rfl | rfl | rfl | rfl <;> decide
theorem lots_lit : upTo 0 1 = [0] ∧ upTo 1 1 = [] ∧ upTo 0 2 = [0] ∧ upTo 1 2 = [1] ∧ upTo 0 4 = [0, 3] ∧ upTo 1 4 = [1, 2] ∧ upTo 0 8 = [0, 3, 5, 6] ∧ upTo 1 8 = [1, 2, 4, 7] ∧ upTo 0 16 = [0, 3, 5, 6, 9, 10, 12, 15] ∧ upTo 1 16 = [1, 2, 4, 7, 8, 11, 13, 14] := by decide
end Mine
namespace Mine
def ev : Nat → List Int | 0 => [0] | 1 => [0] | 2 => [0, 3] | 3 => [0, 3, 5, 6] | _ => [0, 3, 5, 6, 9, 10, 12, 15]
def od : Nat → List Int | 0 => [] | 1 => [1] | 2 => [1, 2] | 3 => [1, 2, 4, 7] | _ => [1, 2, 4, 7, 8, 11, 13, 14]
theorem ev_is {q : Nat} (hq : q ≤ 4) : upTo 0 (2 ^ q) = ev q ∧ upTo 1 (2 ^ q) = od q := by
  obtain ⟨a0, a1, b0, b1, c0, c1, d0, d1, e0, e1⟩ := lots_lit
  rcases (by omega : q = 0 ∨ q = 1 ∨ q = 2 ∨ q = 3 ∨ q = 4) with rfl | rfl | rfl | rfl | rfl
  · exact ⟨a0, a1⟩
  · exact ⟨b0, b1⟩
  · exact ⟨c0, c1⟩
  · exact ⟨d0, d1⟩
  · exact ⟨e0, e1⟩
theorem ps0 (b st : Int) (q : Nat) (hq : q ≤ 4) : psum (mv b st (ev q)) 0 = ((ev q).length : Int) ∧ psum (mv b st (od q)) 0 = ((od q).length : Int) := by
  rcases (by omega : q = 0 ∨ q = 1 ∨ q = 2 ∨ q = 3 ∨ q = 4) with rfl | rfl | rfl | rfl | rfl <;>
  (constructor <;> (simp only [psum, mv, ev, od, List.map, List.foldl, Int.pow_zero]; rfl))
theorem ps1 (b st : Int) (q i : Nat) (hq : q ≤ 4) (hi : i < q) : psum (mv b st (ev q)) i = psum (mv b st (od q)) i := by
  rcases (by omega : q = 1 ∨ q = 2 ∨ q = 3 ∨ q = 4) with rfl | rfl | rfl | rfl <;>
  rcases (by omega : i = 0 ∨ i = 1 ∨ i = 2 ∨ i = 3) with rfl | rfl | rfl | rfl <;>
  first
  | (exfalso; omega)
  | (simp only [psum, mv, ev, od, List.map, List.foldl]; grind)
theorem ps2 (b st : Int) (q : Nat) (hq : q ≤ 4) : psum (mv b st (ev q)) q - psum (mv b st (od q)) q = dueAcc (st ^ q) q * (1 - 2 * ((q : Int).fmod 2)) := by
  rcases (by omega : q = 0 ∨ q = 1 ∨ q = 2 ∨ q = 3 ∨ q = 4) with rfl | rfl | rfl | rfl | rfl
  · have e : 1 - 2 * (((0 : Nat) : Int).fmod 2) = 1 := by decide
    rw [e]; simp only [psum, mv, ev, od, List.map, List.foldl, dueAcc]; grind
  · have e : 1 - 2 * (((1 : Nat) : Int).fmod 2) = -1 := by decide
    rw [e]; simp only [psum, mv, ev, od, List.map, List.foldl, dueAcc]; grind
  · have e : 1 - 2 * (((2 : Nat) : Int).fmod 2) = 1 := by decide
    rw [e]; simp only [psum, mv, ev, od, List.map, List.foldl, dueAcc]; grind
  · have e : 1 - 2 * (((3 : Nat) : Int).fmod 2) = -1 := by decide
    rw [e]; simp only [psum, mv, ev, od, List.map, List.foldl, dueAcc]; grind
  · have e : 1 - 2 * (((4 : Nat) : Int).fmod 2) = 1 := by decide
    rw [e]; simp only [psum, mv, ev, od, List.map, List.foldl, dueAcc]; grind
theorem law_facts {b st : Int} {q : Nat} (_hb : -20 ≤ b ∧ b ≤ 20) (_hs : 1 ≤ st ∧ st ≤ 5) (hq : q ≤ 4) :
    psum (mv b st (upTo 0 (2 ^ q))) 0 = ((upTo 0 (2 ^ q)).length : Int) ∧ psum (mv b st (upTo 1 (2 ^ q))) 0 = ((upTo 1 (2 ^ q)).length : Int) ∧ (∀ i, i < q → psum (mv b st (upTo 0 (2 ^ q))) i = psum (mv b st (upTo 1 (2 ^ q))) i) ∧
      psum (mv b st (upTo 0 (2 ^ q))) q - psum (mv b st (upTo 1 (2 ^ q))) q = dueAcc (st ^ q) q * (1 - 2 * ((q : Int).fmod 2)) := by
  rw [(ev_is hq).1, (ev_is hq).2]
  exact ⟨(ps0 b st q hq).1, (ps0 b st q hq).2, fun i hi => ps1 b st q i hq hi, ps2 b st q hq⟩
end Mine
end
section
open PySem PySem.W PySem.Calls PyProof.Rows PyProof.V PySem.Spec
set_option maxRecDepth 100000
namespace Mine
def F23 (tb : List (Addr × Obj)) : Prop := ∃ c1 oc1 vs1 tq1, tb = [(c1, oc1), (23, hit23 c1)] ∧ oc1.data = .fields vs1 ∧ vs1[1]? = some (.str Q2 tq1)
def T23 (tb : List (Addr × Obj)) : Prop := tb = [(23, tabObj #[])] ∨ F23 tb
set_option maxHeartbeats 2000000 in
theorem d2i_any {w : World} {loose : List Str} {mean : ExcName → Option Value} {mg mb : Str → Option Value}
   {dp un : Nat} {gd : Option (List Code)} {cn : Str} {cs : Scope} {a : Addr} {ccd : Value} {cl : List (Str × Addr)} {outer : List Env} {A₀ : Around} {base h₀ : Heap} {L : Addr} {m : Str → Option Value} {s : Shared} {Q E : Value → Shared → Prop}
   {news tb : List (Addr × Obj)} {ld : Addr} {us : List Value} {ns : List Int} {c : Nat} {t' : Tok}
   (B : Below A₀ base outer h₀) (F : Fr h₀ L s.heap m) (X : (Mine.hd.heap_39 w.params).In h₀)
   (N : News h₀ L s.heap (tb ++ news)) (ht : T23 tb) (ho : Off tb news) (T : Top topProg loose mean mg mb h₀) (C1 : CodeHd base 27 23) (hk : cs.kind = .function)
   (hl : (ld, W.listOf us.toArray c) ∈ news) (hI : IntsAre us ns) (hB : Bits ns) (hlen : us.length ≤ 5)
   (hd : dp + 20 < recursionLimit) (hu : un + 160 < cLine)
   (ret : ∀ tb' t h' tk', F23 tb' → Off tb' news → Fr h₀ L h' m → News h₀ L h' (tb' ++ news) → Q (.int (vl ns 0 ns.length) t) { s with heap := h', toks := tk' }) :
   wpAny (model PySem.Challenge.rw_hu0001_01.row.prog w) (ktrTop dp un gd cn cs L a ccd cl outer) (call (.ref 28) [.ref ld, .int 1 t']) Q E s := by
  rcases ht with rfl | ht
  · refine d2i_E B F X N (fun p hp => ho p hp (23, _) (List.mem_singleton.mpr rfl)) T C1 hk hl hI hB hlen hd hu ?_
    intro c1 oc1 vs1 tq1 t h' tk' hd1 hd2 F' N' hlt
    refine ret [(c1, oc1), (23, hit23 c1)] t h' tk' ⟨c1, oc1, vs1, tq1, rfl, hd1, hd2⟩ ?_ F' N'
    intro p hp q hq
    rcases List.mem_cons.mp hq with rfl | hq
    · exact Nat.ne_of_lt (hlt p (List.mem_cons_of_mem _ hp))
    rcases List.mem_cons.mp hq with rfl | hq
    · exact ho p hp (23, tabObj #[]) (List.mem_singleton.mpr rfl)
    · cases hq
  · obtain ⟨c1, oc1, vs1, tq1, rfl, hd1, hd2⟩ := id ht
    refine d2i_H B F X N T C1 hk (List.mem_cons_of_mem _ (List.Mem.head _)) (List.Mem.head _) hd1 hd2 (List.mem_append_right _ hl) hI hB hlen hd hu ?_
    intro t h' tk' F' N'
    exact ret _ t h' tk' ht ho F' N'
local macro_rules | `(tactic| walk_at "eval Name") => `(tactic| (k_here; k_dflt (first
  | (refine' nameX_C ?N ?c ?m ?d ?_ ?a ?b; (case a | b => rfl); (case N => k_asm); (case c => rfl); (case m => (repeat (first | (with_reducible assumption) | exact List.Mem.head _ | apply List.mem_cons_of_mem))); (case d => with_reducible assumption); k_whole)
  | (refine' nameX_L ?F ?v ?_ ?a ?b; (case F => k_asm); (case a | b => rfl); (case v => first | with_reducible assumption | rfl); k_whole))))
local macro_rules | `(tactic| walk_at "call ref") => `(tactic| (k_here; k_dflt (first
  | (refine' lot_H ?k1 ?k2 ?k3 ?k4 ?k5 ?kC ?kK ?m1 ?m2 ?m3 ?m4 ?kd ?ku ?z0 ?z1 ?_; (case k1 | k2 | k3 | k4 | k5 => k_asm); (case kC => with_reducible assumption); (case kK => with_reducible assumption); (case m1 => (repeat (first | (with_reducible assumption) | exact List.Mem.head _ | apply List.mem_cons_of_mem))); (case m2 => (repeat (first | (with_reducible assumption) | exact List.Mem.head _ | apply List.mem_cons_of_mem))); (case m3 => with_reducible assumption); (case m4 => with_reducible assumption); (case kd => ktr_room); (case ku => ktr_units); (case z0 => omega); (case z1 => omega); intro t9' h' tk' F' N')
  | (refine' i2d_H ?k1 ?k2 ?k3 ?k4 ?k5 ?kC ?kK ?m1 ?m2 ?m3 ?m4 ?kd ?ku ?z0 ?z1 ?_; (case k1 | k2 | k3 | k4 | k5 => k_asm); (case kC => with_reducible assumption); (case kK => with_reducible assumption); (case m1 => (repeat (first | (with_reducible assumption) | exact List.Mem.head _ | apply List.mem_cons_of_mem))); (case m2 => (repeat (first | (with_reducible assumption) | exact List.Mem.head _ | apply List.mem_cons_of_mem))); (case m3 => with_reducible assumption); (case m4 => with_reducible assumption); (case kd => ktr_room); (case ku => ktr_units); (case z0 => omega); (case z1 => omega); intro D' us' h' tk' hI' F' N' l1))))
local macro_rules | `(tactic| walk_at "binaryOp Pow int int") => `(tactic| (k_here; refine pow_is _ rfl (by omega) (by decide) ?_))
theorem off_in3 {tb R : List (Addr × Obj)} {S D I : Addr} {oS oD oI : Obj} (lS : ∀ p ∈ (D, oD) :: (I, oI) :: (tb ++ R), p.1 < S) (lD : ∀ p ∈ (I, oI) :: (tb ++ R), p.1 < D) (hoff : ∀ p ∈ tb ++ R, p.1 ≠ I) (ho : Off tb R) :
    Off tb ([(S, oS), (D, oD), (I, oI)] ++ R) := by
  intro p hp q hq
  rcases List.mem_cons.mp hp with rfl | hp
  · exact Nat.ne_of_gt (lS q (List.mem_cons_of_mem _ (List.mem_cons_of_mem _ (List.mem_append_left _ hq))))
  rcases List.mem_cons.mp hp with rfl | hp
  · exact Nat.ne_of_gt (lD q (List.mem_cons_of_mem _ (List.mem_append_left _ hq)))
  rcases List.mem_cons.mp hp with rfl | hp
  · exact Ne.symm (hoff q (List.mem_append_left _ hq))
  · exact ho p hp q hq
theorem ite_fb {c : Bool} {P R : Prop} (hc : c = false) (h : R) : if c = true then P else R := by rw [hc, if_neg (by decide)]; exact h
local macro_rules | `(tactic| walk_at "ite") => `(tactic| (refine ite_fb (by with_reducible assumption) ?_))
local macro_rules | `(tactic| walk_at "subscriptTail Name Slice ref ref") => `(tactic| (k_here; k_dflt (refine' kmk_slice_ints ?F ?N ?l ?p ?q ?i ?m ?c ?_ ?s ?t ?z; (case F => k_asm); (case N => k_asm); (case l => exact News.isList (by k_asm) (by (repeat (first | (with_reducible assumption) | exact List.Mem.head _ | apply List.mem_cons_of_mem)))); (case p => kmk_part); (case q => kmk_part); (case i => with_reducible assumption); (case m => exact kmk_from (by with_reducible assumption) (by decide)); (case c => exact rfl); (case s => with_unfolding_all rfl); (case t => kmk_pure); (case z => exact kmk_sz (by with_reducible assumption) (Nat.le_trans (m := 5) (by with_reducible assumption) (by decide)))); intro D' ws' h' F' N' l1 hI' hC' hL'))
set_option maxHeartbeats 2000000 in
theorem last_ok {w : World} {loose : List Str} {mean : ExcName → Option Value} {mg mb : Str → Option Value}
   {dp un : Nat} {gd : Option (List Code)} {cn : Str} {cs : Scope} {a : Addr} {ccd : Value} {cl : List (Str × Addr)} {outer : List Env} {A₀ : Around} {base h₀ : Heap} {L : Addr} {m : Str → Option Value} {s : Shared} {Q : Flow → Shared → Prop} {E : Value → Shared → Prop}
   {R tb : List (Addr × Obj)} {fa : Addr} {cd : Value} {oc : Obj} {q : Nat} {t2 : Tok} {c1 : Addr} {oc1 : Obj} {vs1 : Array Value} {tq1 : Tok}
   (B : Below A₀ base outer h₀) (F : Fr h₀ L s.heap m) (X : (Mine.hd.heap_39 w.params).In h₀)
   (N : News h₀ L s.heap (tb ++ R)) (ht : T23 tb) (ho : Off tb R) (T : Top topProg loose mean mg mb h₀) (C1 : CodeHd base 20 16) (C2 : CodeHd base 27 23) (hk : cs.kind = .function)
   (m16 : (16, hit16 c1) ∈ R) (mc1 : (c1, oc1) ∈ R) (hcd1 : oc1.data = .fields vs1) (hcv1 : vs1[1]? = some (.str Q1 tq1))
   (hd : dp + 80 < recursionLimit) (hu : un + 600 < cLine)
   (mc : (L + 1, oc) ∈ R) (hoc : oc.data = .cell (some (.int (q : Int) t2))) (hq : q ≤ 4)
   (hE : PassesOwn (model PySem.Challenge.rw_hu0001_01.row.prog w) (ktrTop dp un gd cn cs L a ccd cl outer) (lawEnv L fa cd) E)
   (ret : ∀ m' tb' h tk, T23 tb' → Off tb' R → Fr h₀ L h m' → News h₀ L h (tb' ++ R) → Q .next { s with heap := h, toks := tk }) :
   wpAny (model PySem.Challenge.rw_hu0001_01.row.prog w) (ktrTop dp un gd cn cs L a ccd cl outer) (exec st10 (lawEnv L fa cd)) Q E s := by
  simp only [lawEnv, st10, lawBody, forBody, defBody, defScope, lawDef, PySem.Challenge.pw_hu0001_01] at hE ⊢
  obtain ⟨hsm, hrn, h16, hpos⟩ := small_pow hq
  k_with_none; w_top off; revert X; k_fill; intro X
  have mcT : (L + 1, oc) ∈ tb ++ R := List.mem_append_right _ mc
  k_dflt (refine For_invVF F ?fx ?fp ?fh ?_ hE)
  case fx => rfl
  case fp => rfl
  case fh =>
    iterate 10 walk1
    k_dflt (refine' iter_GR (n := 2 ^ q) (fun i m' nx => ∃ tb, nx = tb ++ R ∧ T23 tb ∧ Off tb R) rfl ?ir hsm hrn ?iF ?iN ⟨tb, rfl, ht, ho⟩ ?it ?id)
    case ir => assumption
    case iF => assumption
    case iN => assumption
    case it =>
      rintro i t m₁ nx I oI h tk hi ⟨tb, rfl, ht, ho⟩ hoff F N
      obtain ⟨n, hn⟩ : ∃ n : Int, n = 0 + (i : Int) := ⟨_, rfl⟩
      rw [← hn] at F
      have hn0 : 0 ≤ n := by omega
      have hn16 : n < 16 := by omega
      obtain ⟨e1, e2⟩ := lot_facts hn0 hn16
      obtain ⟨e3, e4, e5⟩ := dig_facts hn0 hn16
      have mm1 : (16, hit16 c1) ∈ tb ++ R := List.mem_append_right _ m16
      have mm2 : (c1, oc1) ∈ tb ++ R := List.mem_append_right _ mc1
      have mm3 : (L + 1, oc) ∈ tb ++ R := List.mem_append_right _ mc
      have b1 : (lotOf (2 * n) != lotOf n) = false := by rw [e1]; exact bne_self_eq_false _
      have b2 : (lotOf (2 * n + 1) == lotOf n) = false := by rw [beq_eq_false_iff_ne]; exact e2
      have b3 : (vl ((digs n.toNat (Builtin.Int.intBits n)).drop 1) 0 ((digs n.toNat (Builtin.Int.intBits n)).drop 1).length != n.fdiv 2) = false := by rw [e3]; exact bne_self_eq_false _
      have b4 : (vl (digs n.toNat (Builtin.Int.intBits n)) 0 (digs n.toNat (Builtin.Int.intBits n)).length != n) = false := by rw [e4]; exact bne_self_eq_false _
      k_steps
      rename News _ _ _ _ => kN
      rename IntsAre _ (List.drop _ _) => kW
      rename IntsAre _ (digs _ _) => kU
      change IntsAre _ (List.drop 1 _) at kW
      have hlw := kW.length
      have hlu := kU.length
      rw [List.length_drop] at hlw
      refine d2i_any (by k_asm) (by k_asm) (by k_asm) (perm_news (a := [_, _, _]) (tb := tb) (b := R) kN) ht (off_in3 (by with_reducible assumption) (by with_reducible assumption) hoff ho) (by k_asm) C2 hk (List.Mem.head _) kW (bits_drop (bits_digs _ _)) (by omega) (by ktr_room) (by ktr_units) ?_
      intro tb1 t1 h1 tk1 hF1 ho1 F1 N1
      k_steps
      refine d2i_any (by k_asm) F1 (by k_asm) N1 (.inr hF1) ho1 (by k_asm) C2 hk (List.mem_cons_of_mem _ (List.Mem.head _)) kU (bits_digs _ _) (by omega) (by ktr_room) (by ktr_units) ?_
      intro tb2 t2 h2 tk2 hF2 ho2 F2 N2
      k_steps
      refine EndI.intro F2 N2 (List.mem_append_right _ (List.mem_cons_of_mem _ (List.mem_cons_of_mem _ (List.Mem.head _)))) ?_ ?_ ⟨tb2, rfl, .inr hF2, ho2.sub fun p hp => List.mem_append_right _ hp⟩
      · intro p hp
        rcases List.mem_append.mp hp with hp | hp
        · exact List.mem_append_left _ hp
        · exact List.mem_append_right _ (List.mem_append_right _ hp)
      · intro p hp
        rcases List.mem_append.mp hp with hp | hp
        · exact Ne.symm (ho2 (I, oI) (List.mem_cons_of_mem _ (List.mem_cons_of_mem _ (List.Mem.head _))) p hp)
        · exact hoff p (List.mem_append_right _ hp)
    case id =>
      rintro m₁ nx h tk ⟨tb, rfl, ht, ho⟩ F N
      exact ret m₁ tb h tk ht ho F N
  case _ => intro _; rfl
end Mine
end
section
open PySem PySem.W PySem.Calls PyProof.Rows PyProof.V PySem.Spec
set_option maxRecDepth 100000
namespace Mine
def OffA (tb : List (Addr × Obj)) (as : List Addr) : Prop := ∀ q ∈ tb, ∀ a ∈ as, @Ne Nat a q.1
abbrev cA (L I : Addr) : List Addr := [I, L + 1 + 1 + 1 + 1, L + 1 + 1 + 1, L + 1 + 1, L + 1]
abbrev cL (L I : Addr) (oI o4 o3 o2 o1 : Obj) (r : List (Addr × Obj)) : List (Addr × Obj) := (I, oI) :: (L + 1 + 1 + 1 + 1, o4) :: (L + 1 + 1 + 1, o3) :: (L + 1 + 1, o2) :: (L + 1, o1) :: r
theorem off_cells {tb r : List (Addr × Obj)} {L I : Addr} {oI o4 o3 o2 o1 : Obj} (h : OffA tb (cA L I)) (hr : Off tb r) : Off tb (cL L I oI o4 o3 o2 o1 r) := by
  intro p hp q hq
  rcases List.mem_cons.mp hp with rfl | hp
  · exact h q hq _ (List.Mem.head _)
  rcases List.mem_cons.mp hp with rfl | hp
  · exact h q hq _ (List.mem_cons_of_mem _ (List.Mem.head _))
  rcases List.mem_cons.mp hp with rfl | hp
  · exact h q hq _ (List.mem_cons_of_mem _ (List.mem_cons_of_mem _ (List.Mem.head _)))
  rcases List.mem_cons.mp hp with rfl | hp
  · exact h q hq _ (List.mem_cons_of_mem _ (List.mem_cons_of_mem _ (List.mem_cons_of_mem _ (List.Mem.head _))))
  rcases List.mem_cons.mp hp with rfl | hp
  · exact h q hq _ (List.mem_cons_of_mem _ (List.mem_cons_of_mem _ (List.mem_cons_of_mem _ (List.mem_cons_of_mem _ (List.Mem.head _)))))
  · exact hr p hp q hq
theorem offA_of {tb r : List (Addr × Obj)} {L I : Addr} {oI o4 o3 o2 o1 : Obj} (h : Off tb (cL L I oI o4 o3 o2 o1 r)) : OffA tb (cA L I) := by
  intro q hq a ha
  simp only [cA, List.mem_cons, List.not_mem_nil, or_false] at ha
  rcases ha with rfl | rfl | rfl | rfl | rfl
  · exact h (_, oI) (by simp) q hq
  · exact h (_, o4) (by simp) q hq
  · exact h (_, o3) (by simp) q hq
  · exact h (_, o2) (by simp) q hq
  · exact h (_, o1) (by simp) q hq
local macro_rules | `(tactic| walk_at "eval Name") => `(tactic| (k_here; k_dflt (first
  | (refine' nameX_C ?N ?c ?m ?d ?_ ?a ?b; (case a | b => rfl); (case N => k_asm); (case c => rfl); (case m => (repeat (first | (with_reducible assumption) | exact List.Mem.head _ | apply List.mem_cons_of_mem))); (case d => with_reducible assumption); k_whole)
  | (refine' nameX_L ?F ?v ?_ ?a ?b; (case F => k_asm); (case a | b => rfl); (case v => first | with_reducible assumption | rfl); k_whole))))
local macro_rules | `(tactic| walk_at "subscriptTail") => `(tactic| (k_here; (with_reducible show wpAny _ _ (subscriptTail _ _ (Value.ref _) (Value.int _ _)) _ _ _); k_dflt (first
  | (refine list_get2 (by k_asm) (by (repeat (first | (with_reducible assumption) | exact List.Mem.head _ | apply List.mem_cons_of_mem))) (by first | exact .inl ⟨rfl, rfl⟩ | exact .inr ⟨rfl, rfl⟩) ?_)
  | (refine sums_get _ (by k_asm) (by (repeat (first | (with_reducible assumption) | exact List.Mem.head _ | apply List.mem_cons_of_mem))) (by with_reducible assumption) (by omega) rfl ?_; intro t9')
  | (refine sums_get 0 (by k_asm) (by (repeat (first | (with_reducible assumption) | exact List.Mem.head _ | apply List.mem_cons_of_mem))) (by with_reducible assumption) (by omega) rfl ?_; intro t9'))))
local macro_rules | `(tactic| walk_at "call builtin:len") => `(tactic| (k_here; k_dflt (refine len_ints (by k_asm) (by (repeat (first | (with_reducible assumption) | exact List.Mem.head _ | apply List.mem_cons_of_mem))) (by with_reducible assumption) ?_)))
local macro_rules | `(tactic| walk_at "binaryOp Pow int int") => `(tactic| (k_here; refine pow_is _ rfl (by omega) (by omega) ?_))
local macro_rules | `(tactic| walk_at "ite") => `(tactic| (refine ite_fb (by with_reducible assumption) ?_))
local macro_rules | `(tactic| k_all) => `(tactic| first | assumption | exact ne_of_allLt (by assumption) (by omega))
theorem sign_ok {q : Nat} (hq : q ≤ 4) (a : Int) : IntMulOk 2 ((q : Int).fmod 2) ∧ IntMulOk a (1 - 2 * (q : Int).fmod 2) := by
  refine ⟨IntMulOk.of_right ?_, IntMulOk.of_right ?_⟩ <;>
  rcases (by omega : q = 0 ∨ q = 1 ∨ q = 2 ∨ q = 3 ∨ q = 4) with rfl | rfl | rfl | rfl | rfl <;> exact intBits_le_64 (by decide) (by decide)
local macro_rules | `(tactic| walk_at "binaryOp Mult int int") => `(tactic| (k_here; refine mul_int ?_ (by with_reducible assumption)))
def st2 : Stmt := match lawBody with | _ :: _ :: s :: _ => s | _ => .Pass ⟨0, 0, 0, 0⟩
set_option maxHeartbeats 2000000 in
theorem if1_ok {w : World} {loose : List Str} {mean : ExcName → Option Value} {mg mb : Str → Option Value}
   {dp un : Nat} {gd : Option (List Code)} {cn : Str} {cs : Scope} {a : Addr} {ccd : Value} {cl : List (Str × Addr)} {outer : List Env} {A₀ : Around} {base h₀ : Heap} {L : Addr} {m : Str → Option Value} {s : Shared} {Q : Flow → Shared → Prop} {E : Value → Shared → Prop}
   {R : List (Addr × Obj)} {fa : Addr} {cd : Value} {o1 : Obj} {q : Nat} {t1 : Tok} {D D0 D1 : Addr} {ys0 ys1 : List Value}
   (B : Below A₀ base outer h₀) (F : Fr h₀ L s.heap m) (X : (Mine.hd.heap_39 w.params).In h₀)
   (N : News h₀ L s.heap R) (T : Top topProg loose mean mg mb h₀) (hk : cs.kind = .function) (hd : dp + 90 < recursionLimit) (hu : un + 700 < cLine) (hq : q ≤ 4)
   (mD : (D, W.listOf #[.ref D0, .ref D1] 2) ∈ R) (m0 : (D0, W.listOf ys0.toArray ys0.length) ∈ R) (m1 : (D1, W.listOf ys1.toArray ys1.length) ∈ R) (mc : (L + 1, o1) ∈ R) (d1 : o1.data = .cell (some (.int (q : Int) t1)))
   (l0 : ys0.length < 2 ^ 62) (l1 : ys1.length < 2 ^ 62) (hm : m nLots = some (.ref D))
   (g1 : (((ys0.length : Nat) : Int) + ((ys1.length : Nat) : Int) != 2 ^ q) = false) (g2 : 0 < q → (((ys0.length : Nat) : Int) != ((ys1.length : Nat) : Int)) = false)
   (ret : ∀ tk, Q .next { s with toks := tk }) :
   wpAny (model PySem.Challenge.rw_hu0001_01.row.prog w) (ktrTop dp un gd cn cs L a ccd cl outer) (exec st2 (lawEnv L fa cd)) Q E s := by
  simp only [lawEnv, st2, lawBody, forBody, defBody, defScope, lawDef, PySem.Challenge.pw_hu0001_01]
  k_with_none; w_top off; revert X; k_fill; intro X
  k_steps
  · exfalso
    have h9 : ((ys0.length : Nat) : Int) = ((ys1.length : Nat) : Int) := by simpa using g2 (by omega)
    contradiction
  · exact ret _
  · exact ret _
set_option maxHeartbeats 2000000 in
theorem turn_tail {w : World} {loose : List Str} {mean : ExcName → Option Value} {mg mb : Str → Option Value}
   {dp un : Nat} {gd : Option (List Code)} {cn : Str} {cs : Scope} {a : Addr} {ccd : Value} {cl : List (Str × Addr)} {outer : List Env} {A₀ : Around} {base h₀ : Heap} {L : Addr} {m : Str → Option Value} {s : Shared} {Q : Flow → Shared → Prop} {E : Value → Shared → Prop}
   {tb16 tb23 Y : List (Addr × Obj)} {fa I : Addr} {cd : Value} {oI o4 o3 o2 o1 : Obj} {q : Nat} {b st : Int} {t1 t2 t3 : Tok} {v4 : Option Value}
   (B : Below A₀ base outer h₀) (F : Fr h₀ L s.heap m) (X : (Mine.hd.heap_39 w.params).In h₀)
   (N : News h₀ L s.heap (cL L I oI o4 o3 o2 o1 (tb16 ++ (tb23 ++ Y)))) (T : Top topProg loose mean mg mb h₀) (C1 : CodeHd base 20 16) (C2 : CodeHd base 27 23) (hk : cs.kind = .function)
   (h16 : T16 tb16) (h23 : T23 tb23) (a16 : OffA tb16 (cA L I)) (a23 : OffA tb23 (cA L I)) (aY : OffA Y (cA L I)) (f16 : Off tb16 (tb23 ++ Y)) (f23 : Off tb23 Y) (nI : ∀ c ∈ [L + 1 + 1 + 1 + 1, L + 1 + 1 + 1, L + 1 + 1, L + 1], @Ne Nat I c)
   (d1 : o1.data = .cell (some (.int (q : Int) t1))) (d2 : o2.data = .cell (some (.int st t2))) (d3 : o3.data = .cell (some (.int b t3))) (d4 : o4.data = .cell v4)
   (hd : dp + 90 < recursionLimit) (hu : un + 700 < cLine)
   (hq : q ≤ 4) (hb : -20 ≤ b ∧ b ≤ 20) (hst : 1 ≤ st ∧ st ≤ 5)
   (hE : PassesOwn (model PySem.Challenge.rw_hu0001_01.row.prog w) (ktrTop dp un gd cn cs L a ccd cl outer) (lawEnv L fa cd) E)
   (ret : ∀ m' tb16' tb23' o4' v4' h tk, F16 tb16' → T23 tb23' → OffA tb16' (cA L I) → OffA tb23' (cA L I) → Off tb16' (tb23' ++ Y) → Off tb23' Y → o4'.data = .cell v4' → Fr h₀ L h m' →
     News h₀ L h (cL L I oI o4' o3 o2 o1 (tb16' ++ (tb23' ++ Y))) → Q .next { s with heap := h, toks := tk }) :
   wpAny (model PySem.Challenge.rw_hu0001_01.row.prog w) (ktrTop dp un gd cn cs L a ccd cl outer) (execs (lawBody.drop 1) (lawEnv L fa cd)) Q E s := by
  have IF1 := @if1_ok w loose mean mg mb dp un gd cn cs a ccd cl outer A₀ base h₀ L
  have LOTS := @lots_ok w loose mean mg mb dp un gd cn cs a ccd cl outer A₀ base h₀ L
  have TOLD := @told_ok w loose mean mg mb dp un gd cn cs a ccd cl outer A₀ base h₀ L
  have SEL := @sel_ok w loose mean mg mb dp un gd cn cs a ccd cl outer A₀ base h₀ L
  have DUE := @due_ok w loose mean mg mb dp un gd cn cs a ccd cl outer A₀ base h₀ L
  have LAST := @last_ok w loose mean mg mb dp un gd cn cs a ccd cl outer A₀ base h₀ L
  simp only [lawEnv, st1, st2, st4, st6, st8, st10, List.drop, lawBody, forBody, defBody, defScope, lawDef, PySem.Challenge.pw_hu0001_01] at IF1 LOTS TOLD SEL DUE LAST hE ⊢
  k_with_none; w_top off; revert X; k_fill; intro X
  obtain ⟨lq1, lq2⟩ := len_facts hq
  obtain ⟨p0, p1, p2, p3⟩ := law_facts hb hst hq
  walk1
  refine LOTS B F X (perm_news (a := [_, _, _, _, _]) (tb := tb16) (b := tb23 ++ Y) N) h16 (off_cells a16 f16) T C1 hk (by omega) (by omega) (by simp) d1 hq ?_
  intro D D0 D1 ys0 ys1 tbA h tk hF16 hI0 hI1 F1 N1 hoA nD nD0 nD1 nD01
  have e0 := hI0.length
  have e1 := hI1.length
  have hA16 : OffA tbA (cA L I) := offA_of (hoA.sub fun p hp => List.mem_cons_of_mem _ (List.mem_cons_of_mem _ hp))
  obtain ⟨R1, hR1⟩ : ∃ R1, R1 = (D, LCg.lst [.ref D0, .ref D1]) :: (D1, LCg.lst ys1) :: (D0, LCg.lst ys0) :: (I, oI) :: (L + 1 + 1 + 1, o3) :: (L + 1 + 1, o2) :: (L + 1, o1) :: (tbA ++ (tb23 ++ Y)) := ⟨_, rfl⟩
  have N2 : News h₀ L h ((L + 1 + 1 + 1 + 1, o4) :: R1) := kst_newsOf N1 (by
    intro p hp
    rw [hR1] at hp
    simp only [List.mem_cons, List.mem_append] at hp ⊢
    rcases hp with h | h | h | h | h | h | h | h | h | h | h <;> simp only [h, true_or, or_true])
  have offW : ∀ p ∈ R1, @Ne Nat p.1 (L + 1 + 1 + 1 + 1) := by
    intro p hp
    rw [hR1] at hp
    rcases List.mem_cons.mp hp with rfl | hp
    · exact Ne.symm (nD (L + 1 + 1 + 1 + 1, o4) (by simp only [List.mem_cons, List.mem_append]; simp only [true_or, or_true]))
    rcases List.mem_cons.mp hp with rfl | hp
    · exact Ne.symm (nD1 (L + 1 + 1 + 1 + 1, o4) (List.mem_cons_of_mem _ (List.Mem.head _)))
    rcases List.mem_cons.mp hp with rfl | hp
    · exact Ne.symm (nD0 (L + 1 + 1 + 1 + 1, o4) (List.mem_cons_of_mem _ (List.Mem.head _)))
    rcases List.mem_cons.mp hp with rfl | hp
    · exact nI _ (List.Mem.head _)
    rcases List.mem_cons.mp hp with rfl | hp
    · exact Nat.ne_of_lt (Nat.lt_succ_self _)
    rcases List.mem_cons.mp hp with rfl | hp
    · exact Nat.ne_of_lt (Nat.lt_succ_of_lt (Nat.lt_succ_self _))
    rcases List.mem_cons.mp hp with rfl | hp
    · exact Nat.ne_of_lt (Nat.lt_succ_of_lt (Nat.lt_succ_of_lt (Nat.lt_succ_self _)))
    have mem4 : L + 1 + 1 + 1 + 1 ∈ cA L I := List.mem_cons_of_mem _ (List.Mem.head _)
    rcases List.mem_append.mp hp with hp | hp
    · exact Ne.symm (hA16 p hp _ mem4)
    rcases List.mem_append.mp hp with hp | hp
    · exact Ne.symm (a23 p hp _ mem4)
    · exact Ne.symm (aY p hp _ mem4)
  have mD : (D, W.listOf #[.ref D0, .ref D1] 2) ∈ R1 := by rw [hR1]; exact List.Mem.head _
  have m0 : (D0, W.listOf ys0.toArray ys0.length) ∈ R1 := by rw [hR1]; exact List.mem_cons_of_mem _ (List.mem_cons_of_mem _ (List.Mem.head _))
  have m1 : (D1, W.listOf ys1.toArray ys1.length) ∈ R1 := by rw [hR1]; exact List.mem_cons_of_mem _ (List.Mem.head _)
  have mc1 : (L + 1, o1) ∈ R1 := by rw [hR1]; simp
  have mc2 : (L + 1 + 1, o2) ∈ R1 := by rw [hR1]; simp
  have mc3 : (L + 1 + 1 + 1, o3) ∈ R1 := by rw [hR1]; simp
  obtain ⟨-, -, hp16, hpos⟩ := small_pow hq
  have hpow : ((2 : Int) ^ q) = ((2 ^ q : Nat) : Int) := by simp
  have le0 : ys0.length < 2 ^ 62 := by omega
  have le1 : ys1.length < 2 ^ 62 := by omega
  have g1 : (((ys0.length : Nat) : Int) + ((ys1.length : Nat) : Int) != 2 ^ q) = false := by
    have : ((ys0.length : Nat) : Int) + ((ys1.length : Nat) : Int) = 2 ^ q := by rw [hpow]; omega
    rw [this]; exact bne_self_eq_false _
  have g2 : 0 < q → (((ys0.length : Nat) : Int) != ((ys1.length : Nat) : Int)) = false := by
    intro hz
    rw [e0, e1, lq2 hz]
    simp
  dsimp only
  walk1
  refine IF1 B F1 X N2 T hk hd hu hq (List.mem_cons_of_mem _ mD) (List.mem_cons_of_mem _ m0) (List.mem_cons_of_mem _ m1) (List.mem_cons_of_mem _ mc1) d1 le0 le1 (if_pos rfl) g1 g2 ?_
  intro tk
  dsimp only
  iterate 8 walk1
  rename News _ _ _ _ => kN
  rename Fr _ _ _ _ => kF
  rename Obj.data _ = Data.cell _ => kC
  rename @LT.lt Nat _ _ _ ∧ AllLt _ _ => kl
  rename_i tl hA1 hA2 ox
  refine TOLD B kF X kN T hk (by omega) (by omega) (List.mem_cons_of_mem _ mD) (List.mem_cons_of_mem _ m0) (List.mem_cons_of_mem _ m1) (List.mem_cons_of_mem _ mc2) d2 (List.mem_cons_of_mem _ mc3) d3 (List.Mem.head _) kC
    (List.forall_mem_cons.mpr ⟨Nat.ne_of_lt kl.1, fun p hp => Nat.ne_of_lt (lt_of_allLt kl.2 (Nat.le_refl _) p hp)⟩) hI0 hI1 hq hb hst (if_pos rfl) hE ?_
  intro T0 T1 p0' p1' k3 m3 h3 tk3 F3 hm3 N3 S0 S1
  have g5 : (psum (mv b st (upTo 0 (2 ^ q))) 0 != ((ys0.length : Nat) : Int)) = false := by rw [p0, e0]; exact bne_self_eq_false _
  have g6 : (psum (mv b st (upTo 1 (2 ^ q))) 0 != ((ys1.length : Nat) : Int)) = false := by rw [p1, e1]; exact bne_self_eq_false _
  dsimp only
  iterate 51 walk1
  refine SEL B F3 X N3 T hk (by omega) (by omega) (List.Mem.head _) (List.mem_cons_of_mem _ (List.Mem.head _)) (List.mem_cons_of_mem _ (List.mem_cons_of_mem _ (List.Mem.head _))) S0 S1 (by simp [mc1]) d1 (by simp) kC hq p2 ?_
  intro h4 tk4 F4 N4
  dsimp only
  iterate 8 walk1
  rename News _ _ _ _ => kN
  rename Fr _ _ _ _ => kF
  refine DUE B kF X kN T hk (by omega) (by omega) (by simp [mc1]) d1 hq (if_pos rfl) hE ?_
  intro m5 t5 h5 tk5 F5 hm5 N5
  rw [canon1 hm5] at F5
  have g9 : (psum (mv b st (upTo 0 (2 ^ q))) q - psum (mv b st (upTo 1 (2 ^ q))) q != dueAcc (st ^ q) q * (1 - 2 * (q : Int).fmod 2)) = false := by rw [p3]; exact bne_self_eq_false _
  obtain ⟨w1, w2⟩ := sign_ok hq (dueAcc (st ^ q) q)
  dsimp only
  iterate 35 walk1
  refine wpAny_execs_nil ?_
  dsimp only
  iterate 2 walk1
  obtain ⟨c9, oc9, vs9, tq9, eA, hcd9, hcv9⟩ := id hF16
  have hoA2 : Off tbA (tb23 ++ Y) := hoA.sub fun p hp => by simp only [List.mem_cons, List.mem_append] at hp ⊢; rcases hp with h | h <;> simp only [h, true_or, or_true]
  have hoB : Off tb23 (tbA ++ Y) := by
    intro p hp q' hq'
    rcases List.mem_append.mp hp with hp | hp
    · exact Ne.symm (hoA2 q' (List.mem_append_left _ hq') p hp)
    · exact f23 p hp q' hq'
  have N6 : News h₀ L h5 (tb23 ++ cL L I oI ox o3 o2 o1 (tbA ++ Y)) := kst_newsOf N5 (by
    intro p hp
    rw [hR1]
    simp only [cL, List.mem_cons, List.mem_append] at hp ⊢
    rcases hp with h | h | h | h | h | h | h | h <;> simp only [h, true_or, or_true])
  refine LAST (R := cL L I oI ox o3 o2 o1 (tbA ++ Y)) B F5 X N6 h23 (off_cells a23 hoB) T C1 C2 hk (c1 := c9) (oc1 := oc9) (oc := o1) (by simp [eA]) (by simp [eA]) hcd9 hcv9 (by omega) (by omega) (by simp) d1 hq hE ?_
  intro m7 tbB h7 tk7 hTB hoB7 F7 N7
  dsimp only
  refine wpAny_execs_nil ?_
  refine ret m7 tbA tbB ox _ h7 tk7 hF16 hTB hA16 (offA_of hoB7) ?_ (hoB7.sub fun p hp => by simp only [cL, List.mem_cons, List.mem_append]; simp only [hp, or_true]) kC F7 ?_
  · intro p hp q' hq'
    rcases List.mem_append.mp hp with hp | hp
    · exact Ne.symm (hoB7 q' (by simp only [cL, List.mem_cons, List.mem_append]; simp only [hq', or_true, true_or]) p hp)
    · exact hoA2 p (List.mem_append_right _ hp) q' hq'
  · exact kst_newsOf N7 (by
      intro p hp
      simp only [cL, List.mem_cons, List.mem_append] at hp ⊢
      rcases hp with h | h | h | h | h | h | h | h <;> simp only [h, true_or, or_true])
end Mine
end
section
open PySem PySem.W PySem.Calls PyProof.Rows PyProof.V PySem.Spec
set_option maxRecDepth 100000
namespace Mine
abbrev nScript : Str := Str.ofString "script"
abbrev cB (L : Addr) : List Addr := [L + 1 + 1 + 1 + 1, L + 1 + 1 + 1, L + 1 + 1, L + 1]
def LawJ (L : Addr) (Y : List (Addr × Obj)) (_ : Nat) (_ : Str → Option Value) (nx : List (Addr × Obj)) : Prop :=
  ∃ (tb16 tb23 : List (Addr × Obj)) (o4 o3 o2 o1 : Obj) (v4 v3 v2 v1 : Option Value), nx = (L + 1 + 1 + 1 + 1, o4) :: (L + 1 + 1 + 1, o3) :: (L + 1 + 1, o2) :: (L + 1, o1) :: (tb16 ++ (tb23 ++ Y)) ∧ T16 tb16 ∧ T23 tb23 ∧
    OffA tb16 (cB L) ∧ OffA tb23 (cB L) ∧ Off tb16 (tb23 ++ Y) ∧ Off tb23 Y ∧ o4.data = .cell v4 ∧ o3.data = .cell v3 ∧ o2.data = .cell v2 ∧ o1.data = .cell v1
theorem offA_cons {tb : List (Addr × Obj)} {L I : Addr} (h : OffA tb (cB L)) (hI : ∀ q ∈ tb, @Ne Nat q.1 I) : OffA tb (cA L I) := fun q hq a ha => by
  rcases List.mem_cons.mp ha with rfl | ha
  · exact Ne.symm (hI q hq)
  · exact h q hq a ha
theorem mod5 (n : Int) : ∃ q : Nat, q ≤ 4 ∧ n.fmod 5 = (q : Int) := by
  have h1 : n.fmod 5 = n % 5 := Int.fmod_eq_emod_of_nonneg n (by decide)
  obtain ⟨q, hq⟩ := Int.eq_ofNat_of_zero_le (by omega : 0 ≤ n % 5)
  exact ⟨q, by omega, by omega⟩
theorem st_bound (n : Int) : 1 ≤ 1 + (n.fdiv 5).fmod 5 ∧ 1 + (n.fdiv 5).fmod 5 ≤ 5 := by
  rw [Int.fmod_eq_emod_of_nonneg _ (by decide)]
  omega
theorem b_bound (n : Int) : -20 ≤ (n.fdiv 25).fmod 41 - 20 ∧ (n.fdiv 25).fmod 41 - 20 ≤ 20 := by
  rw [Int.fmod_eq_emod_of_nonneg _ (by decide)]
  omega
local macro_rules | `(tactic| k_all) => `(tactic| first | with_reducible assumption | exact ne_of_allLt (by assumption) (by omega))
set_option maxHeartbeats 2000000 in
theorem law_all {w : World} {loose : List Str} {mean : ExcName → Option Value} {mg mb : Str → Option Value}
   {dp un : Nat} {gd : Option (List Code)} {cn : Str} {cs : Scope} {a : Addr} {ccd : Value} {cl : List (Str × Addr)} {outer : List Env} {A₀ : Around} {base h₀ : Heap} {L : Addr} {m : Str → Option Value} {s : Shared} {Q : Flow → Shared → Prop} {E : Value → Shared → Prop}
   {fa sc : Addr} {cd : Value} {o4 o3 o2 o1 : Obj} {v4 v3 v2 v1 : Option Value} {us : List Value} {ns : List Int}
   (B : Below A₀ base outer h₀) (F : Fr h₀ L s.heap m) (X : (Mine.hd.heap_39 w.params).In h₀)
   (N : News h₀ L s.heap [(L + 1 + 1 + 1 + 1, o4), (L + 1 + 1 + 1, o3), (L + 1 + 1, o2), (L + 1, o1), (23, tabObj #[]), (16, tabObj #[])]) (T : Top topProg loose mean mg mb h₀) (C1 : CodeHd base 20 16) (C2 : CodeHd base 27 23) (hk : cs.kind = .function)
   (d4 : o4.data = .cell v4) (d3 : o3.data = .cell v3) (d2 : o2.data = .cell v2) (d1 : o1.data = .cell v1) (hL1 : @LT.lt Nat _ 23 L) (hL2 : @LT.lt Nat _ 16 L)
   (hd : dp + 90 < recursionLimit) (hu : un + 700 < cLine) (hm : m nScript = some (.ref sc)) (hl : h₀.IsList sc us.toArray) (hI : IntsAre us ns) (hlen : us.length ≤ 64)
   (hE : PassesOwn (model PySem.Challenge.rw_hu0001_01.row.prog w) (ktrTop dp un gd cn cs L a ccd cl outer) (lawEnv L fa cd) E)
   (ret : ∀ m' nx h tk, Fr h₀ L h m' → News h₀ L h nx → GrownAt 23 h → GrownAt 16 h → Q (.ret (.bool true)) { s with heap := h, toks := tk }) :
   wpAny (model PySem.Challenge.rw_hu0001_01.row.prog w) (ktrTop dp un gd cn cs L a ccd cl outer) (execs (defBody lawDef) (lawEnv L fa cd)) Q E s := by
  have TAIL := @turn_tail w loose mean mg mb dp un gd cn cs a ccd cl outer A₀ base h₀ L
  simp only [lawEnv, List.drop, lawBody, forBody, defBody, defScope, lawDef, PySem.Challenge.pw_hu0001_01] at TAIL hE ⊢
  k_with_none; w_top off; revert X; k_fill; intro X
  rw [canon1 hm] at F
  walk1
  k_dflt (refine For_invVF F ?fx ?fp ?fh ?_ hE)
  case fx => rfl
  case fp => rfl
  case fh =>
    iterate 8 walk1
    rename News _ _ _ _ => kN
    rename Fr _ _ _ _ => kF
    rename IntsAre _ (List.take _ _) => kI
    rename_i D ws hh kl hC hLn
    k_dflt (refine' iter_GL (nn := 0) (vs := ws) (LawJ L [(D, W.listOf ws.toArray 0)]) rfl ?jl kI kF (news := (L + 1 + 1 + 1 + 1, o4) :: (L + 1 + 1 + 1, o3) :: (L + 1 + 1, o2) :: (L + 1, o1) :: ([(16, tabObj #[])] ++ ([(23, tabObj #[])] ++ [(D, W.listOf ws.toArray 0)]))) ?jN ?jj ?jt ?jd)
    case jl =>
      rintro i m' nx ⟨tb16, tb23, o4, o3, o2, o1, v4, v3, v2, v1, rfl, _⟩
      simp only [List.mem_cons, List.mem_append, true_or, or_true]
    case jN => exact kst_newsOf kN (by
      intro p hp
      simp only [List.mem_cons, List.mem_append, List.not_mem_nil, or_false] at hp ⊢
      rcases hp with h | h | h | h | h | h | h <;> simp only [h, true_or, or_true])
    case jj =>
      refine ⟨[(16, tabObj #[])], [(23, tabObj #[])], o4, o3, o2, o1, v4, v3, v2, v1, rfl, .inl rfl, .inl rfl, ?_, ?_, ?_, ?_, d4, d3, d2, d1⟩
      · intro q hq a ha
        rw [List.mem_singleton.mp hq]
        simp only [cB, List.mem_cons, List.not_mem_nil, or_false] at ha
        rcases ha with rfl | rfl | rfl | rfl <;> omega
      · intro q hq a ha
        rw [List.mem_singleton.mp hq]
        simp only [cB, List.mem_cons, List.not_mem_nil, or_false] at ha
        rcases ha with rfl | rfl | rfl | rfl <;> omega
      · intro p hp q hq
        rw [List.mem_singleton.mp hq]
        rcases List.mem_append.mp hp with hp | hp
        · rw [List.mem_singleton.mp hp]; decide
        · rw [List.mem_singleton.mp hp]
          show @Ne Nat D 16
          omega
      · intro p hp q hq
        rw [List.mem_singleton.mp hq, List.mem_singleton.mp hp]
        show @Ne Nat D 23
        omega
    case jt =>
      clear kN kF
      rintro i n t m₁ nx I oI h tk hn ⟨tb16, tb23, o4, o3, o2, o1, v4, v3, v2, v1, rfl, ht16, ht23, a16, a23, f16, f23, e4, e3, e2, e1⟩ hoff F N
      obtain ⟨q, hq, hq5⟩ := mod5 n
      have nI : ∀ c ∈ [L + 1 + 1 + 1 + 1, L + 1 + 1 + 1, L + 1 + 1, L + 1], @Ne Nat I c := by
        intro c hc
        simp only [List.mem_cons, List.not_mem_nil, or_false] at hc
        rcases hc with rfl | rfl | rfl | rfl
        · exact Ne.symm (hoff (_, o4) (List.Mem.head _))
        · exact Ne.symm (hoff (_, o3) (List.mem_cons_of_mem _ (List.Mem.head _)))
        · exact Ne.symm (hoff (_, o2) (List.mem_cons_of_mem _ (List.mem_cons_of_mem _ (List.Mem.head _))))
        · exact Ne.symm (hoff (_, o1) (List.mem_cons_of_mem _ (List.mem_cons_of_mem _ (List.mem_cons_of_mem _ (List.Mem.head _)))))
      have aY : OffA [(D, W.listOf ws.toArray 0)] (cB L) := by
        intro q hq a ha
        rw [List.mem_singleton.mp hq]
        simp only [cB, List.mem_cons, List.not_mem_nil, or_false] at ha
        rcases ha with rfl | rfl | rfl | rfl
        · show @Ne Nat _ D
          omega
        · show @Ne Nat _ D
          omega
        · show @Ne Nat _ D
          omega
        · show @Ne Nat _ D
          omega
      have hR0 : ∀ p ∈ tb16 ++ (tb23 ++ [(D, W.listOf ws.toArray 0)]), ∀ c ∈ cB L, @Ne Nat p.1 c := by
        intro p hp c hc
        rcases List.mem_append.mp hp with hp | hp
        · exact Ne.symm (a16 p hp c hc)
        rcases List.mem_append.mp hp with hp | hp
        · exact Ne.symm (a23 p hp c hc)
        · exact Ne.symm (aY p hp c hc)
      have hRI : ∀ p ∈ tb16 ++ (tb23 ++ [(D, W.listOf ws.toArray 0)]), @Ne Nat p.1 I := fun p hp => hoff p (List.mem_cons_of_mem _ (List.mem_cons_of_mem _ (List.mem_cons_of_mem _ (List.mem_cons_of_mem _ hp))))
      obtain ⟨R, hR⟩ : ∃ R, R = tb16 ++ (tb23 ++ [(D, W.listOf ws.toArray 0)]) := ⟨_, rfl⟩
      rw [← hR] at N hR0
      have r1 : ∀ p ∈ R, p.1 ≠ L + 1 := fun p hp => hR0 p hp _ (List.mem_cons_of_mem _ (List.mem_cons_of_mem _ (List.mem_cons_of_mem _ (List.Mem.head _))))
      have r2 : ∀ p ∈ R, p.1 ≠ L + 1 + 1 := fun p hp => hR0 p hp _ (List.mem_cons_of_mem _ (List.mem_cons_of_mem _ (List.Mem.head _)))
      have r3 : ∀ p ∈ R, p.1 ≠ L + 1 + 1 + 1 := fun p hp => hR0 p hp _ (List.mem_cons_of_mem _ (List.Mem.head _))
      have i1 : @Ne Nat I (L + 1) := nI _ (List.mem_cons_of_mem _ (List.mem_cons_of_mem _ (List.mem_cons_of_mem _ (List.Mem.head _))))
      have i2 : @Ne Nat I (L + 1 + 1) := nI _ (List.mem_cons_of_mem _ (List.mem_cons_of_mem _ (List.Mem.head _)))
      have i3 : @Ne Nat I (L + 1 + 1 + 1) := nI _ (List.mem_cons_of_mem _ (List.Mem.head _))
      iterate 43 walk1
      rename News _ _ _ _ => kN
      rename Fr _ _ _ _ => kF
      rename Obj.data _ = Data.cell (some (Value.int (_ - _) _)) => k3
      rename Obj.data _ = Data.cell (some (Value.int (1 + _) _)) => k2
      rename Obj.data _ = Data.cell (some (Value.int (Int.fmod _ _) _)) => k1
      rw [hq5] at k1
      subst hR
      have aYI : OffA [(D, W.listOf ws.toArray 0)] (cA L I) := offA_cons aY (fun q hq => hRI q (List.mem_append_right _ (List.mem_append_right _ hq)))
      have a16I : OffA tb16 (cA L I) := offA_cons a16 (fun q hq => hRI q (List.mem_append_left _ hq))
      have a23I : OffA tb23 (cA L I) := offA_cons a23 (fun q hq => hRI q (List.mem_append_right _ (List.mem_append_left _ hq)))
      refine' TAIL (oI := oI) B kF X (kst_newsOf kN ?hs) T C1 C2 hk ht16 ht23 a16I a23I aYI f16 f23 nI k1 k2 k3 e4 hd hu hq (b_bound n) (st_bound n) hE ?ht
      case hs =>
        intro p hp
        simp only [cL, List.mem_cons, List.mem_append] at hp ⊢
        rcases hp with h | h | h | h | h | h | h | h <;> simp only [h, true_or, or_true]
      case ht =>
        intro m' tb16' tb23' o4' v4' h' tk' hF hT g16 g23 gf16 gf23 ge4 F7 N7
        refine EndI.intro F7 N7 (List.Mem.head _) (fun p hp => List.mem_cons_of_mem _ hp) ?_ ⟨tb16', tb23', o4', _, _, _, v4', _, _, _, rfl, .inr hF, hT, fun q hq a ha => g16 q hq a (List.mem_cons_of_mem _ ha), fun q hq a ha => g23 q hq a (List.mem_cons_of_mem _ ha), gf16, gf23, ge4, k3, k2, k1⟩
        intro p hp
        rcases List.mem_cons.mp hp with rfl | hp
        · exact Ne.symm (nI _ (List.Mem.head _))
        rcases List.mem_cons.mp hp with rfl | hp
        · exact Ne.symm i3
        rcases List.mem_cons.mp hp with rfl | hp
        · exact Ne.symm i2
        rcases List.mem_cons.mp hp with rfl | hp
        · exact Ne.symm i1
        rcases List.mem_append.mp hp with hp | hp
        · exact Ne.symm (g16 p hp I (List.Mem.head _))
        rcases List.mem_append.mp hp with hp | hp
        · exact Ne.symm (g23 p hp I (List.Mem.head _))
        · exact hRI p (List.mem_append_right _ (List.mem_append_right _ hp))
    case jd =>
      rintro m₁ nx h tk ⟨tb16, tb23, p4, p3, p2, p1, x4, x3, x2, x1, rfl, ht16, ht23, -⟩ F9 N9
      have g16 : GrownAt 16 h := by
        rcases ht16 with e | ⟨c1, oc1, vs1, tq1, e, -⟩
        · exact GrownAt.of N9 (ps := #[]) (by rw [e]; simp only [List.mem_cons, List.mem_append, true_or, or_true])
        · exact GrownAt.of N9 (ps := #[rawInt 5, rawInt 4, .ref c1]) (by rw [e]; simp only [List.mem_cons, List.mem_append, true_or, or_true])
      have g23 : GrownAt 23 h := by
        rcases ht23 with e | ⟨c1, oc1, vs1, tq1, e, -⟩
        · exact GrownAt.of N9 (ps := #[]) (by rw [e]; simp only [List.mem_cons, List.mem_append, true_or, or_true])
        · exact GrownAt.of N9 (ps := #[rawInt 20, rawInt 4, .ref c1]) (by rw [e]; simp only [List.mem_cons, List.mem_append, true_or, or_true])
      dsimp only
      k_steps
      exact ret _ _ _ _ F9 N9 g23 g16
  case _ => intro _; rfl
end Mine
end
section
open PySem PySem.W PySem.Calls PyProof.Rows PyProof.V PySem.Spec
set_option maxRecDepth 100000
namespace Mine
set_option maxHeartbeats 8000000 in
theorem top_holds : PySem.Challenge.rw_hu0001_01.Holds := Mine.hd (by
  k_with_none
  w_top off
  k_go0
  (all_goals try k_fold)
  have LAW := @law_all
  simp only [lawEnv, defBody, defScope, lawDef, PySem.Challenge.pw_hu0001_01] at LAW
  rename Fr _ _ _ _ => kF
  rename News _ _ _ _ => kN
  k_dflt (refine' LAW ?B kF ?X ?N ?T ?C1 ?C2 ?hk ?d4 ?d3 ?d2 ?d1 ?l1 ?l2 ?hd ?hu ?hm ?hl ?hI ?hlen ?hE ?ret)
  case B => k_asm
  case N => exact kN
  case X => k_asm
  case T => k_asm
  case C1 => with_reducible assumption
  case C2 => with_reducible assumption
  case hk => exact rfl
  case d4 => with_reducible assumption
  case d3 => with_reducible assumption
  case d2 => with_reducible assumption
  case d1 => with_reducible assumption
  case l1 => omega
  case l2 => omega
  case hd => decide
  case hu => decide
  case hm => exact rfl
  case hl => with_reducible assumption
  case hI => with_reducible assumption
  case hlen => have := IntsAre.length (by assumption); omega
  case hE => passes_own
  case ret =>
    intro m' nx h tk F9 N9 g23 g16
    refine ⟨?_, g23, g16, trivial⟩
    k_steps
    all_goals (trace_state; w_report))
end Mine
end
theorem PySem.Challenge.cw_hu0001_01_holds : PySem.Challenge.rw_hu0001_01.Holds := by
  exact Mine.top_holds
