import PyProof.Rows.All
import Wide.All
import OpenK.AllK
import Wide.FinOn
import KE.BitLaws
import PySem.Challenge.RW_fw0002_01
set_option Elab.async false
set_option maxRecDepth 100000
namespace Mine
/-- additive for xor -/
def Addv (f : Nat → Nat) : Prop := ∀ a b, f (a ^^^ b) = f a ^^^ f b
theorem Addv.zero {f : Nat → Nat} (h : Addv f) : f 0 = 0 := by
  have := h 0 0
  rw [Nat.xor_self, Nat.xor_self] at this
  exact this
theorem Addv.id : Addv fun x => x := fun _ _ => rfl
theorem Addv.const0 : Addv fun _ => 0 := fun _ _ => by simp
theorem Addv.comp {f g : Nat → Nat} (hf : Addv f) (hg : Addv g) : Addv fun x => f (g x) := fun a b => by
  show f (g (a ^^^ b)) = _; rw [hg, hf]
theorem xor4 (a b c d : Nat) : (a ^^^ b) ^^^ (c ^^^ d) = (a ^^^ c) ^^^ (b ^^^ d) := by
  rw [Nat.xor_assoc, Nat.xor_assoc]; congr 1; rw [← Nat.xor_assoc, Nat.xor_comm b c, Nat.xor_assoc]
theorem Addv.xor {f g : Nat → Nat} (hf : Addv f) (hg : Addv g) : Addv fun x => f x ^^^ g x := fun a b => by
  show f (a ^^^ b) ^^^ g (a ^^^ b) = _; rw [hf, hg, xor4]
theorem Addv.shr (k : Nat) : Addv fun x => x >>> k := fun _ _ => Nat.shiftRight_xor_distrib
theorem Addv.shl (k : Nat) : Addv fun x => x <<< k := fun _ _ => Nat.shiftLeft_xor_distrib
theorem Addv.land (k : Nat) : Addv fun x => x &&& k := fun _ _ => Nat.and_xor_distrib_right
/-- the bit's choice -/
def pick (i k : Nat) (x : Nat) : Nat := if x.testBit i then k else 0
theorem Addv.pick (i k : Nat) : Addv (pick i k) := fun a b => by
  unfold Mine.pick
  rw [Nat.testBit_xor]
  cases a.testBit i <;> cases b.testBit i <;> simp
theorem low_bit (n x : Nat) (h : x < 2 ^ (n + 1)) : x = (x &&& (2 ^ n - 1)) ^^^ pick n (2 ^ n) x := by
  apply Nat.eq_of_testBit_eq
  intro i
  rw [Nat.testBit_xor, Nat.and_two_pow_sub_one_eq_mod, Nat.testBit_mod_two_pow]
  unfold pick
  by_cases hi : i < n
  · cases x.testBit n <;> simp [hi, Nat.testBit_two_pow, Nat.ne_of_gt hi]
  · by_cases he : i = n
    · subst he
      cases hx : x.testBit i <;> simp [hx, Nat.testBit_two_pow]
    · have : x.testBit i = false := Nat.testBit_lt_two_pow (Nat.lt_of_lt_of_le h (Nat.pow_le_pow_right (by decide) (by omega)))
      rw [this]
      cases hx : x.testBit n <;> simp [hi, Nat.testBit_two_pow, Ne.symm he]
theorem ext_basis {f g : Nat → Nat} (hf : Addv f) (hg : Addv g) : ∀ n : Nat, (∀ i, i < n → f (2 ^ i) = g (2 ^ i)) → ∀ x, x < 2 ^ n → f x = g x
  | 0, _, x, hx => by
    have : x = 0 := by omega
    rw [this, hf.zero, hg.zero]
  | n + 1, h, x, hx => by
    rw [low_bit n x hx, hf, hg]
    have h1 : f (x &&& (2 ^ n - 1)) = g (x &&& (2 ^ n - 1)) := ext_basis hf hg n (fun i hi => h i (by omega)) _ (by
      rw [Nat.and_two_pow_sub_one_eq_mod]; exact Nat.mod_lt _ (Nat.two_pow_pos n))
    rw [h1]
    congr 1
    unfold pick
    cases x.testBit n
    · rw [if_neg (by decide), hf.zero, hg.zero]
    · rw [if_pos rfl]; exact h n (by omega)
theorem ext_basis_all {f g : Nat → Nat} (hf : Addv f) (hg : Addv g) (n : Nat) (h : (List.range n).all (fun i => f (2 ^ i) == g (2 ^ i)) = true) (x : Nat) (hx : x < 2 ^ n) : f x = g x :=
  ext_basis hf hg n (fun i hi => beq_iff_eq.mp (List.all_eq_true.mp h i (List.mem_range.mpr hi))) x hx

/-- the generator's choice -/
def gen (t : Nat) : Nat := pick 0 996825010 t ^^^ pick 1 642813549 t ^^^ pick 2 513874426 t ^^^ pick 3 1027748829 t ^^^ pick 4 705979059 t
theorem gen_add : Addv gen := ((((Addv.pick _ _).xor (Addv.pick _ _)).xor (Addv.pick _ _)).xor (Addv.pick _ _)).xor (Addv.pick _ _)
/-- one turn of the register -/
def stp (c v : Nat) : Nat := (((c &&& 33554431) <<< 5) ^^^ v) ^^^ gen (c >>> 25)
def stp0 (c : Nat) : Nat := ((c &&& 33554431) <<< 5) ^^^ gen (c >>> 25)
theorem stp0_add : Addv stp0 := ((Addv.shl 5).comp (Addv.land _)).xor (gen_add.comp (Addv.shr 25))
theorem stp_eq (c v : Nat) : stp c v = stp0 c ^^^ v := by
  unfold stp stp0
  rw [Nat.xor_assoc, Nat.xor_comm v, ← Nat.xor_assoc]
theorem stp_add (a b u v : Nat) : stp (a ^^^ b) (u ^^^ v) = stp a u ^^^ stp b v := by
  rw [stp_eq, stp_eq, stp_eq, stp0_add, xor4]
def poly (ns : List Nat) (c : Nat := 1) : Nat := ns.foldl stp c
theorem gen_lt (t : Nat) : gen t < 2 ^ 30 := by
  have hp : ∀ i k : Nat, k < 2 ^ 30 → pick i k t < 2 ^ 30 := fun i k hk => by unfold pick; split <;> omega
  unfold gen
  exact Nat.xor_lt_two_pow (Nat.xor_lt_two_pow (Nat.xor_lt_two_pow (Nat.xor_lt_two_pow (hp _ _ (by decide)) (hp _ _ (by decide))) (hp _ _ (by decide))) (hp _ _ (by decide))) (hp _ _ (by decide))
theorem stp_lt (c v : Nat) (hv : v < 2 ^ 30) : stp c v < 2 ^ 30 := by
  unfold stp
  refine Nat.xor_lt_two_pow (Nat.xor_lt_two_pow ?_ hv) (gen_lt _)
  rw [Nat.shiftLeft_eq, show (33554431 : Nat) = 2 ^ 25 - 1 from rfl, Nat.and_two_pow_sub_one_eq_mod]
  have := Nat.mod_lt c (show (0 : Nat) < 2 ^ 25 by decide)
  omega
theorem poly_lt : ∀ (ns : List Nat) (c : Nat), c < 2 ^ 30 → (∀ v ∈ ns, v < 32) → poly ns c < 2 ^ 30
  | [], _, hc, _ => hc
  | v :: r, c, _, hn => poly_lt r (stp c v) (stp_lt c v (Nat.lt_trans (hn v List.mem_cons_self) (by decide))) fun u hu => hn u (List.mem_cons_of_mem _ hu)

/-- a product by a constant, bit by bit: k0 .. k4 are the products of 1, 2, 4, 8, 16 -/
def lin (k : Nat × Nat × Nat × Nat × Nat) (x : Nat) : Nat := pick 0 k.1 x ^^^ pick 1 k.2.1 x ^^^ pick 2 k.2.2.1 x ^^^ pick 3 k.2.2.2.1 x ^^^ pick 4 k.2.2.2.2 x
theorem lin_add (k) : Addv (lin k) := ((((Addv.pick _ _).xor (Addv.pick _ _)).xor (Addv.pick _ _)).xor (Addv.pick _ _)).xor (Addv.pick _ _)
def dig (i c : Nat) : Nat := (c >>> (5 * i)) &&& 31
theorem dig_add (i : Nat) : Addv (dig i) := (Addv.land 31).comp (Addv.shr _)
theorem dig_lt (i c : Nat) : dig i c < 32 := by
  unfold dig
  rw [show (31 : Nat) = 2 ^ 5 - 1 from rfl, Nat.and_two_pow_sub_one_eq_mod]
  exact Nat.mod_lt _ (by decide)
def digs (c : Nat) : List Nat := [dig 5 c, dig 4 c, dig 3 c, dig 2 c, dig 1 c, dig 0 c]

/-- the tables -/
def expT : List Nat := [1, 2, 4, 8, 16, 9, 18, 13, 26, 29, 19, 15, 30, 21, 3, 6, 12, 24, 25, 27, 31, 23, 7, 14, 28, 17, 11, 22, 5, 10, 20]
def logT : List Nat := [0, 0, 1, 14, 2, 28, 15, 22, 3, 5, 29, 26, 16, 7, 23, 11, 4, 25, 6, 10, 30, 13, 27, 21, 17, 18, 8, 19, 24, 9, 12, 20]
def times (a b : Nat) : Nat := if a = 0 ∨ b = 0 then 0 else expT.getD ((logT.getD a 0 + logT.getD b 0) % 31) 0
def rows (q : Nat) : Nat × Nat × Nat × Nat × Nat := (times 1 q, times 2 q, times 4 q, times 8 q, times 16 q)
def mul (q x : Nat) : Nat := lin (rows q) x
theorem times_lin (q : Nat) (hq : (List.range 32).all (fun x => times x q == mul q x) = true) (x : Nat) (hx : x < 32) : times x q = mul q x :=
  beq_iff_eq.mp (List.all_eq_true.mp hq x (List.mem_range.mpr hx))
/-- a remainder's turn, by the bits -/
def rst (q : Nat × Nat) (p : Nat × Nat) (v : Nat) : Nat × Nat := (p.2 ^^^ mul q.1 p.1, v ^^^ mul q.2 p.1)
/-- as the law reckons it -/
def rstT (q : Nat × Nat) (p : Nat × Nat) (v : Nat) : Nat × Nat := (p.2 ^^^ times p.1 q.1, v ^^^ times p.1 q.2)
def px (p r : Nat × Nat) : Nat × Nat := (p.1 ^^^ r.1, p.2 ^^^ r.2)
theorem rst_add (q p r : Nat × Nat) (u v : Nat) : rst q (px p r) (u ^^^ v) = px (rst q p u) (rst q r v) := by
  unfold rst px
  simp only [mul]
  rw [lin_add, lin_add, xor4, xor4 u v]
def phi (q : Nat × Nat) (c : Nat) : Nat × Nat := (digs c).foldl (rst q) (0, 0)
theorem px_zero_l (p : Nat × Nat) : px (0, 0) p = p := by unfold px; simp
theorem px_zero_r (p : Nat × Nat) : px p (0, 0) = p := by unfold px; simp
def dphi (q : Nat × Nat) : List Nat → Nat × Nat → Nat × Nat := fun l p => l.foldl (rst q) p
/-- two lists, place by place -/
def zx (u v : List Nat) : List Nat := List.zipWith (· ^^^ ·) u v
theorem fold_rst_add (q : Nat × Nat) : ∀ (u v : List Nat) (p r : Nat × Nat), u.length = v.length → (zx u v).foldl (rst q) (px p r) = px (u.foldl (rst q) p) (v.foldl (rst q) r)
  | [], [], _, _, _ => rfl
  | a :: u, b :: v, p, r, h => by
    show (zx u v).foldl (rst q) (rst q (px p r) (a ^^^ b)) = _
    rw [rst_add]
    exact fold_rst_add q u v _ _ (by simpa using h)
theorem fold_stp_add : ∀ (u v : List Nat) (a b : Nat), u.length = v.length → (zx u v).foldl stp (a ^^^ b) = u.foldl stp a ^^^ v.foldl stp b
  | [], [], _, _, _ => rfl
  | x :: u, y :: v, a, b, h => by
    show (zx u v).foldl stp (stp (a ^^^ b) (x ^^^ y)) = _
    rw [stp_add]
    exact fold_stp_add u v _ _ (by simpa using h)
theorem digs_add (a b : Nat) : digs (a ^^^ b) = zx (digs a) (digs b) := by
  unfold digs zx
  simp only [List.zipWith_cons_cons, List.zipWith_nil_left, dig_add _ a b]
theorem phi_add (q : Nat × Nat) (a b : Nat) : phi q (a ^^^ b) = px (phi q a) (phi q b) := by
  unfold phi
  rw [digs_add]
  exact fold_rst_add q _ _ (0, 0) (0, 0) rfl
theorem phi1_add (q) : Addv fun c => (phi q c).1 := fun a b => by show (phi q (a ^^^ b)).1 = _; rw [phi_add]; rfl
theorem phi2_add (q) : Addv fun c => (phi q c).2 := fun a b => by show (phi q (a ^^^ b)).2 = _; rw [phi_add]; rfl
theorem rst1_add (q) : Addv fun c => (rst q (phi q c) 0).1 := fun a b => by
  show (rst q (phi q (a ^^^ b)) 0).1 = _
  rw [phi_add, show (0 : Nat) = 0 ^^^ 0 from rfl, rst_add]; rfl
theorem rst2_add (q) : Addv fun c => (rst q (phi q c) 0).2 := fun a b => by
  show (rst q (phi q (a ^^^ b)) 0).2 = _
  rw [phi_add, show (0 : Nat) = 0 ^^^ 0 from rfl, rst_add]; rfl

/-- the three quadratics -/
def quads : List (Nat × Nat) := [(30, 30), (27, 4), (24, 14)]
/-- what is asked of a quadratic, on a basis alone -/
def fine (q : Nat × Nat) : Bool :=
  (List.range 30).all (fun i => (phi q (stp0 (2 ^ i))).1 == (rst q (phi q (2 ^ i)) 0).1) && (List.range 30).all (fun i => (phi q (stp0 (2 ^ i))).2 == (rst q (phi q (2 ^ i)) 0).2) &&
  (List.range 5).all (fun i => (phi q (2 ^ i)).1 == 0) && (List.range 5).all (fun i => (phi q (2 ^ i)).2 == 2 ^ i) &&
  (List.range 32).all (fun x => times x q.1 == mul q.1 x) && (List.range 32).all (fun x => times x q.2 == mul q.2 x) && decide (phi q 1 = (0, 1))
theorem fine1 : fine (30, 30) = true := by decide +kernel
theorem fine2 : fine (27, 4) = true := by decide +kernel
theorem fine3 : fine (24, 14) = true := by decide +kernel
theorem fine_all : ∀ q ∈ quads, fine q = true := by
  intro q hq
  simp only [quads, List.mem_cons, List.not_mem_nil, or_false] at hq
  rcases hq with rfl | rfl | rfl
  · exact fine1
  · exact fine2
  · exact fine3
section
variable {q : Nat × Nat} (hf : fine q = true)
include hf
theorem phi_stp0 (c : Nat) (hc : c < 2 ^ 30) : phi q (stp0 c) = rst q (phi q c) 0 := by
  simp only [fine, Bool.and_eq_true] at hf
  exact Prod.ext (ext_basis_all ((phi1_add q).comp stp0_add) (rst1_add q) 30 hf.1.1.1.1.1.1 c hc) (ext_basis_all ((phi2_add q).comp stp0_add) (rst2_add q) 30 hf.1.1.1.1.1.2 c hc)
theorem phi_small (v : Nat) (hv : v < 32) : phi q v = (0, v) := by
  simp only [fine, Bool.and_eq_true] at hf
  exact Prod.ext (ext_basis_all (phi1_add q) Addv.const0 5 hf.1.1.1.1.2 v hv) (ext_basis_all (phi2_add q) Addv.id 5 hf.1.1.1.2 v hv)
theorem rst_zero (v : Nat) : rst q (0, 0) v = (0, v) := by
  unfold rst mul
  rw [(lin_add _).zero, (lin_add _).zero]; simp
theorem phi_stp (c v : Nat) (hc : c < 2 ^ 30) (hv : v < 32) : phi q (stp c v) = rst q (phi q c) v := by
  rw [stp_eq, phi_add, phi_stp0 hf c hc, phi_small hf v hv]
  have h := rst_add q (phi q c) (0, 0) 0 v
  rw [px_zero_r, Nat.zero_xor, rst_zero hf] at h
  exact h.symm
theorem phi_poly : ∀ (ns : List Nat) (c : Nat), c < 2 ^ 30 → (∀ v ∈ ns, v < 32) → phi q (poly ns c) = ns.foldl (rst q) (phi q c)
  | [], _, _, _ => rfl
  | v :: r, c, hc, hn => by
    have hv := hn v List.mem_cons_self
    show phi q (poly r (stp c v)) = r.foldl (rst q) (rst q (phi q c) v)
    rw [← phi_stp hf c v hc hv]
    exact phi_poly r _ (stp_lt c v (Nat.lt_trans hv (by decide))) fun u hu => hn u (List.mem_cons_of_mem _ hu)
theorem mul_lt1 (x : Nat) (hx : x < 32) : times x q.1 = mul q.1 x := by
  simp only [fine, Bool.and_eq_true] at hf
  exact times_lin q.1 hf.1.1.2 x hx
theorem mul_lt2 (x : Nat) (hx : x < 32) : times x q.2 = mul q.2 x := by
  simp only [fine, Bool.and_eq_true] at hf
  exact times_lin q.2 hf.1.2 x hx
end
theorem times_lt (a b : Nat) : times a b < 32 := by
  unfold times
  split
  · decide
  · have h : ∀ i, i < 31 → expT.getD i 0 < 32 := by decide
    exact h _ (Nat.mod_lt _ (by decide))
theorem rstT_lt {q p : Nat × Nat} {v : Nat} (h2 : p.2 < 32) (hv : v < 32) : (rstT q p v).1 < 32 ∧ (rstT q p v).2 < 32 :=
  ⟨Nat.xor_lt_two_pow (n := 5) h2 (times_lt _ _), Nat.xor_lt_two_pow (n := 5) hv (times_lt _ _)⟩
theorem fold_rstT {q : Nat × Nat} (hf : fine q = true) : ∀ (ns : List Nat) (p : Nat × Nat), p.1 < 32 → p.2 < 32 → (∀ v ∈ ns, v < 32) → ns.foldl (rstT q) p = ns.foldl (rst q) p
  | [], _, _, _, _ => rfl
  | v :: r, p, h1, h2, hn => by
    have hv := hn v List.mem_cons_self
    have e : rstT q p v = rst q p v := by unfold rstT rst; rw [mul_lt1 hf _ h1, mul_lt2 hf _ h1]
    have hl := rstT_lt (q := q) (p := p) h2 hv
    show r.foldl (rstT q) (rstT q p v) = r.foldl (rst q) (rst q p v)
    rw [fold_rstT hf r _ hl.1 hl.2 fun u hu => hn u (List.mem_cons_of_mem _ hu), e]
/-- the row's remainder, as the law reckons it -/
def rem (q : Nat × Nat) (ns : List Nat) (p : Nat × Nat := (0, 1)) : Nat × Nat := ns.foldl (rstT q) p
theorem rem_lt (q : Nat × Nat) : ∀ (ns : List Nat) (p : Nat × Nat), p.1 < 32 → p.2 < 32 → (∀ v ∈ ns, v < 32) → (rem q ns p).1 < 32 ∧ (rem q ns p).2 < 32
  | [], _, h1, h2, _ => ⟨h1, h2⟩
  | v :: r, p, _, h2, hn => by
    have hl := rstT_lt (q := q) (p := p) h2 (hn v List.mem_cons_self)
    exact rem_lt q r _ hl.1 hl.2 fun u hu => hn u (List.mem_cons_of_mem _ hu)
theorem rem_append (q : Nat × Nat) (u v : List Nat) (p) : rem q (u ++ v) p = rem q v (rem q u p) := List.foldl_append
theorem rem_poly {q : Nat × Nat} (hf : fine q = true) (ns : List Nat) (hn : ∀ v ∈ ns, v < 32) : rem q ns = phi q (poly ns) := by
  unfold rem
  rw [fold_rstT hf ns _ (by decide) (by decide) hn, phi_poly hf ns 1 (by decide) hn]
  congr 1
  simp only [fine, Bool.and_eq_true] at hf
  exact (of_decide_eq_true hf.2).symm

/-- the three remainders tell the number -/
def back (a b c : Nat × Nat) : Nat :=
  lin (845632406, 919471653, 1065912682, 798331604, 263921825) a.1 ^^^ lin (786384776, 262843952, 500291945, 959649490, 586557613) a.2 ^^^
  lin (953524721, 598426571, 399681206, 758466661, 184169674) b.1 ^^^ lin (932563274, 1069233812, 804448289, 259355714, 477777028) b.2 ^^^
  lin (179499591, 358958510, 676999004, 44096433, 88151659) c.1 ^^^ lin (424316611, 806459558, 841167180, 910582424, 1049388089) c.2
theorem back_add : Addv fun x => back (phi (30, 30) x) (phi (27, 4) x) (phi (24, 14) x) := by
  unfold back
  exact (((((((lin_add _).comp (phi1_add _)).xor ((lin_add _).comp (phi2_add _))).xor ((lin_add _).comp (phi1_add _))).xor ((lin_add _).comp (phi2_add _))).xor ((lin_add _).comp (phi1_add _))).xor ((lin_add _).comp (phi2_add _)))
theorem back_ok : (List.range 30).all (fun i => back (phi (30, 30) (2 ^ i)) (phi (27, 4) (2 ^ i)) (phi (24, 14) (2 ^ i)) == 2 ^ i) = true := by decide +kernel
theorem back_phi (x : Nat) (hx : x < 2 ^ 30) : back (phi (30, 30) x) (phi (27, 4) x) (phi (24, 14) x) = x := ext_basis_all back_add Addv.id 30 back_ok x hx
/-- do the three remainders fit -/
def fits (ns : List Nat) : Bool := quads.all fun q => rem q ns == (0, 1)
theorem fits_iff (ns : List Nat) (hn : ∀ v ∈ ns, v < 32) : fits ns = decide (poly ns = 1) := by
  rw [Bool.eq_iff_iff, decide_eq_true_iff]
  simp only [fits, quads, List.all_cons, List.all_nil, Bool.and_true, Bool.and_eq_true, beq_iff_eq]
  rw [rem_poly fine1 ns hn, rem_poly fine2 ns hn, rem_poly fine3 ns hn]
  constructor
  · rintro ⟨h1, h2, h3⟩
    have h := back_phi (poly ns) (poly_lt ns 1 (by decide) hn)
    rw [h1, h2, h3] at h
    rw [← h]; decide +kernel
  · intro h
    rw [h]; decide +kernel

/-- the six of the standard -/
def six (ns : List Nat) : List Nat := digs (poly (ns ++ [0, 0, 0, 0, 0, 0]) ^^^ 1)
theorem six_lt (ns : List Nat) : ∀ v ∈ six ns, v < 32 := by
  intro v hv
  simp only [six, digs, List.mem_cons, List.not_mem_nil, or_false] at hv
  rcases hv with rfl | rfl | rfl | rfl | rfl | rfl <;> exact dig_lt _ _
theorem six_len (ns : List Nat) : (six ns).length = 6 := rfl
def unfold6 (c : Nat) : Nat := (digs c).foldl stp 0
theorem unfold6_add : Addv unfold6 := fun a b => by
  unfold unfold6
  rw [digs_add]
  exact fold_stp_add _ _ 0 0 rfl
theorem unfold6_id (c : Nat) (hc : c < 2 ^ 30) : unfold6 c = c := ext_basis_all unfold6_add Addv.id 30 (by decide +kernel) c hc
theorem poly_six (ns : List Nat) (hn : ∀ v ∈ ns, v < 32) : poly (ns ++ six ns) = 1 := by
  have h6 : ∀ l : List Nat, l.length = 6 → zx [0, 0, 0, 0, 0, 0] l = l := by
    intro l hl
    match l, hl with
    | [a, b, c, d, e, f], _ => simp [zx]
  have hp : poly (ns ++ [0, 0, 0, 0, 0, 0]) < 2 ^ 30 := poly_lt _ 1 (by decide) (by
    intro v hv
    rcases List.mem_append.mp hv with h | h
    · exact hn v h
    · simp only [List.mem_cons, List.not_mem_nil, or_false, or_self] at h; omega)
  have h1 := fold_stp_add [0, 0, 0, 0, 0, 0] (six ns) (poly ns) 0 rfl
  rw [h6 _ rfl, Nat.xor_zero] at h1
  have h2 : (six ns).foldl stp 0 = poly (ns ++ [0, 0, 0, 0, 0, 0]) ^^^ 1 := unfold6_id _ (Nat.xor_lt_two_pow hp (by decide))
  have h3 : [0, 0, 0, 0, 0, 0].foldl stp (poly ns) = poly (ns ++ [0, 0, 0, 0, 0, 0]) := by unfold poly; rw [List.foldl_append]
  rw [h2, h3] at h1
  unfold poly at h1 ⊢
  rw [List.foldl_append, h1, ← Nat.xor_assoc, Nat.xor_self, Nat.zero_xor]
theorem fits_six (ns : List Nat) (hn : ∀ v ∈ ns, v < 32) : fits (ns ++ six ns) = true := by
  rw [fits_iff _ (by
    intro v hv
    rcases List.mem_append.mp hv with h | h
    · exact hn v h
    · exact six_lt ns v h), poly_six ns hn]
  rfl
theorem take_snoc {α β : Type} (f : β → α → β) {ns : List α} {i : Nat} {v : α} (h : ns[i]? = some v) (c : β) : (ns.take (i + 1)).foldl f c = f ((ns.take i).foldl f c) v := by
  rw [List.take_add_one, h]; simp
theorem poly_snoc {ns : List Nat} {i v : Nat} (h : ns[i]? = some v) : poly (ns.take (i + 1)) = stp (poly (ns.take i)) v := take_snoc stp h 1

end Mine
namespace Mine
open PySem PyProof.Rows
theorem xor_and_add : ∀ (n a b : Nat), a ≤ n → (a ^^^ b) + 2 * (a &&& b) = a + b := by
  intro n
  induction n with
  | zero => intro a b h; have : a = 0 := by omega
            subst this; simp
  | succ n ih =>
    intro a b h
    by_cases h0 : a = 0
    · subst h0; simp
    · have h1 := ih (a / 2) (b / 2) (by omega)
      have h2 : (a ^^^ b) / 2 = a / 2 ^^^ b / 2 := Nat.xor_div_two
      have h3 : (a &&& b) / 2 = a / 2 &&& b / 2 := Nat.and_div_two
      have h4 := @Nat.xor_mod_two_eq_one a b
      have h5 := @Nat.and_mod_two_eq_one a b
      have h6 : (a &&& b) % 2 = 0 ∨ (a &&& b) % 2 = 1 := by omega
      rw [← h2, ← h3] at h1
      rcases h6 with h6 | h6
      · have h7 : ¬(a % 2 = 1 ∧ b % 2 = 1) := fun q => by rw [h5.mpr q] at h6; cases h6
        by_cases h8 : a % 2 = 1 <;> by_cases h9 : b % 2 = 1 <;> simp only [h8, h9, true_iff, false_iff, iff_true, iff_false, not_true_eq_false, not_false_eq_true, and_self, and_true, true_and, and_false, false_and] at h4 h7 <;> omega
      · have h7 := h5.mp h6
        simp only [h7.1, h7.2, true_iff, not_true_eq_false, iff_false] at h4
        omega
theorem bxor_nat (a b : Nat) : Builtin.bitXor (a : Int) (b : Int) = ((a ^^^ b : Nat) : Int) := by
  rw [bitXor_and, bitAnd_pp (by omega) (by omega)]
  have := xor_and_add a a b (Nat.le_refl _)
  simp only [Int.toNat_natCast]
  omega
theorem band_nat (a b : Nat) : Builtin.bitAnd (a : Int) (b : Int) = ((a &&& b : Nat) : Int) := by
  rw [bitAnd_pp (by omega) (by omega)]; rfl
theorem two_pow_cast (k : Nat) : (2 : Int) ^ k = ((2 ^ k : Nat) : Int) := by simp
theorem fdiv_nat (a k : Nat) : Int.fdiv (a : Int) (2 ^ k) = ((a >>> k : Nat) : Int) := by
  rw [two_pow_cast, Int.fdiv_eq_ediv_of_nonneg _ (Int.natCast_nonneg _), Nat.shiftRight_eq_div_pow]
  rfl
theorem mul_nat (a k : Nat) : (a : Int) * 2 ^ k = ((a <<< k : Nat) : Int) := by
  rw [two_pow_cast, Nat.shiftLeft_eq]; rfl
/-- one turn, as the program reckons it -/
theorem bit_test (t i : Nat) : Builtin.bitAnd (Int.fdiv (t : Int) (2 ^ i)) 1 = if t.testBit i then 1 else 0 := by
  rw [fdiv_nat, show (1 : Int) = ((1 : Nat) : Int) from rfl, band_nat]
  unfold Nat.testBit
  rw [Nat.and_comm]
  rcases Nat.mod_two_eq_zero_or_one (t >>> i) with h | h
  · have : 1 &&& (t >>> i) = 0 := by rw [Nat.and_comm, Nat.and_one_is_mod, h]
    simp [this]
  · have : 1 &&& (t >>> i) = 1 := by rw [Nat.and_comm, Nat.and_one_is_mod, h]
    simp [this]
def genL : List Nat := [996825010, 642813549, 513874426, 1027748829, 705979059]
theorem turn_one (c T : Nat) (k : Int) (h0 : 0 ≤ k) (h5 : k < 5) (hb : Builtin.bitAnd (Int.fdiv (T : Int) (2 ^ k.toNat)) 1 ≠ 0) :
    Builtin.bitXor (c : Int) (([996825010, 642813549, 513874426, 1027748829, 705979059] : List Int).getD k.toNat 0) = ((c ^^^ pick k.toNat (genL.getD k.toNat 0) T : Nat) : Int) := by
  rw [bit_test] at hb
  have ht : T.testBit k.toNat = true := by
    cases h : T.testBit k.toNat with
    | true => rfl
    | false => rw [h] at hb; exact absurd rfl hb
  have hg : (([996825010, 642813549, 513874426, 1027748829, 705979059] : List Int).getD k.toNat 0) = ((genL.getD k.toNat 0 : Nat) : Int) := by
    obtain rfl | rfl | rfl | rfl | rfl : k = 0 ∨ k = 1 ∨ k = 2 ∨ k = 3 ∨ k = 4 := by omega
    all_goals rfl
  rw [hg, bxor_nat]
  unfold pick
  rw [if_pos ht]
theorem turn_zero (c T : Nat) (k : Int) (hb : Builtin.bitAnd (Int.fdiv (T : Int) (2 ^ k.toNat)) 1 = 0) :
    Builtin.bitXor (c : Int) 0 = ((c ^^^ pick k.toNat (genL.getD k.toNat 0) T : Nat) : Int) := by
  rw [bit_test] at hb
  have ht : ¬ T.testBit k.toNat = true := fun h => by rw [if_pos h] at hb; cases hb
  unfold pick
  rw [if_neg ht, bitXor_zero, Nat.xor_zero]
theorem five_turns (C T : Nat) : ([0, 1, 2, 3, 4] : List Int).foldl (fun c k => c ^^^ pick k.toNat (genL.getD k.toNat 0) T) C = C ^^^ gen T := by
  unfold gen
  simp only [List.foldl_cons, List.foldl_nil]
  show ((((C ^^^ pick 0 996825010 T) ^^^ pick 1 642813549 T) ^^^ pick 2 513874426 T) ^^^ pick 3 1027748829 T) ^^^ pick 4 705979059 T = _
  simp only [Nat.xor_assoc]
theorem getD_cast (l : List Nat) (i : Nat) : (l.map Int.ofNat).getD i 0 = ((l.getD i 0 : Nat) : Int) := by
  rw [List.getD_eq_getElem?_getD, List.getD_eq_getElem?_getD, List.getElem?_map]
  cases l[i]? <;> rfl
theorem fmod_nat (a b : Nat) : Int.fmod (a : Int) (b : Int) = ((a % b : Nat) : Int) := by
  rw [Int.fmod_eq_emod_of_nonneg _ (Int.natCast_nonneg _)]; rfl
theorem fdiv_nat' (a b : Nat) : Int.fdiv (a : Int) (b : Int) = ((a / b : Nat) : Int) := by
  rw [Int.fdiv_eq_ediv_of_nonneg _ (Int.natCast_nonneg _)]; rfl
theorem times_val (x y : Nat) (hx : x ≠ 0) (hy : y ≠ 0) :
    (expT.map Int.ofNat).getD (((logT.map Int.ofNat).getD ((x : Int).toNat) 0 + (logT.map Int.ofNat).getD ((y : Int).toNat) 0).fmod 31).toNat 0 = ((times x y : Nat) : Int) := by
  rw [getD_cast, getD_cast, getD_cast, Int.toNat_natCast, Int.toNat_natCast, ← Int.natCast_add, show (31 : Int) = ((31 : Nat) : Int) from rfl, fmod_nat, Int.toNat_natCast]
  unfold times
  rw [if_neg (by omega)]
theorem times_zero_l (x y : Nat) (h : (x : Int) = 0) : (0 : Int) = ((times x y : Nat) : Int) := by
  have : x = 0 := by omega
  subst this; unfold times; rw [if_pos (Or.inl rfl)]; rfl
theorem times_zero_r (x y : Nat) (h : (y : Int) = 0) : (0 : Int) = ((times x y : Nat) : Int) := by
  have : y = 0 := by omega
  subst this; unfold times; rw [if_pos (Or.inr rfl)]; rfl
theorem elt_z {co : List Nat} {f : Nat → Nat} {i c : Nat} {z : Int} (h1 : ((co.map f).map Int.ofNat)[i]? = some z) (h2 : co[i]? = some c) : z = ((f c : Nat) : Int) := by
  simp only [List.getElem?_map, h2, Option.map_some, Option.some.injEq] at h1
  exact h1.symm
theorem dig_val (P j : Nat) (e : Int) (he : e.toNat = 5 * j) : Builtin.bitAnd (Int.fdiv (Builtin.bitXor (P : Int) 1) (2 ^ e.toNat)) 31 = ((dig j (P ^^^ 1) : Nat) : Int) := by
  rw [he, show (1 : Int) = ((1 : Nat) : Int) from rfl, bxor_nat, fdiv_nat, show (31 : Int) = ((31 : Nat) : Int) from rfl, band_nat]
  rfl

end Mine
namespace Mine
open PySem PySem.W PyProof.Rows
set_option maxRecDepth 100000 in
set_option maxHeartbeats 8000000 in
open_top hd for PySem.Challenge.rw_fw0002_01

end Mine
namespace Mine
open PySem PySem.W PyProof.Rows PySem.Calls
/-- all that stands in h stands in h' -/
abbrev Kept (h h' : Heap) : Prop := ∀ b o, h.get? b = some o → h'.get? b = some o
/-- a call's end: nothing is turned, and the caller goes on -/
def Back (g : Heap) (Q : Value → Shared → Prop) (v : Value) (s' : Shared) : Prop := Kept g s'.heap ∧ Q v s'

theorem enter {prog : Program} {w : World} {A₀ A : Around} {E : Value → Shared → Prop} {s : Shared} {K : Frag} {base h₀ : Heap} {outer : List Env} {env : Env} {L : Addr} {m mg mb : Str → Option Value} {p : Program} {loose : List Str} {mean : ExcName → Option Value} {Q : Value → Shared → Prop}
    {name qual : Str} {params : Arguments} {body : List Stmt} {scope : Scope} {dV kV doc pm cdv ct oc : Value} {an od : Option Addr} {osl : Array (Option Value)} {f : Addr} {vals : List Value} {binds : List (Str × Value)}
    (B : Below A₀ base outer h₀) (F : Fr h₀ L s.heap m) (X₀ : K.In h₀) (T : Top p loose mean mg mb h₀) (hA : A.frames = some (env :: outer)) (hf : env.frame = some L) (hke : env.scope.kind = .function)
    (ho : K.lookup f = some ⟨oc, od, .func (fnOf name qual params body scope dV kV doc pm an cdv ct), osl⟩) (hcd : codeIn K cdv qual = true) (hroom : A.depth < recursionLimit)
    (hbind : BindsTo s (fnOf name qual params body scope dV kV doc pm an cdv ct) ⟨vals, []⟩ binds) (hloc : ∀ y ∈ binds, scope.names.lookup y.1 = some .local)
    (h : ∀ g L' h₁, g = s.heap → Fr g L' h₁ (fun y => binds.reverse.lookup y) → News g L' h₁ [] → Below A base (env :: outer) g → K.In g → Top p loose mean mg mb g →
      wpAny (model prog w) (A.deeper (envOf qual scope L' f cdv)) (execs body (envOf qual scope L' f cdv))
        (fun fl s' => Back g Q (match fl with | .ret v => v | _ => .none) s') (fun _ _ => False)
        { s with heap := h₁, toks := s.toks + binds.length })
    (hco : scope.isCoroutine = false) (hgen : scope.isGenerator = false) (hk : scope.kind = .function)
    (hcell : ∀ x ∈ scope.names, x.2 ≠ .cell) : wpAny (model prog w) A (call (.ref f) vals) Q E s := by
  refine wpAny_call (codeAny_call_def (fd := fnX name qual params body scope [] dV kV doc pm an cdv ct) (body := body) (binds := binds) hroom ((X₀.keeps F.keep) _ _ ho) rfl (T.nolimit.keeps F.keep) (codeRec_of (X₀.keeps F.keep) hcd) rfl hbind hcell hloc (fun h₁ hns hk₁ => ?_) hco hgen hk)
  have B₁ := pushX B F hf hke
  exact wpAny_mono (h s.heap s.heap.objs.size h₁ rfl ⟨hns, hk₁, Nat.le_refl _⟩ News.nil ⟨hA, B₁.stays, B₁.frames⟩ (X₀.keeps F.keep) (T.keeps F.keep)) (fun fl s' hl => hl.2) fun _ _ x => x.elim
/-- a new address is none of the ledger's -/
def AllNe (d : Addr) : List (Addr × Obj) → Prop
  | [] => True
  | p :: r => (@Ne Nat p.1 d) ∧ AllNe d r
theorem allNe_of {h₀ h : Heap} {L d : Addr} : ∀ {l : List (Addr × Obj)}, News h₀ L h l → h.get? d = none → AllNe d l
  | [], _, _ => trivial
  | p :: r, N, hd => ⟨(fun e => by have := (N p (.head _)).1; rw [show p.1 = d from e, hd] at this; cases this), allNe_of (fun q hq => N q (.tail _ hq)) hd⟩

end Mine
namespace Mine
open PySem PySem.W PyProof.Rows PySem.Calls
/-- the walk, up to a loop -/
local macro_rules | `(tactic| walk_at "mine: stop") => `(tactic| first
  | (with_reducible show wpAny _ _ (exec (Stmt.For _ _ _ _ _) _) _ _ _)
  | (with_reducible show wpAny _ _ (pyIter _) _ _ _)
  | (with_reducible show InvPostN _ _ _ _ _ _ _ _ _)
  | (with_reducible show InvEndN _ _ _ _ _ _ _)
  | (with_reducible show InvPost _ _ _ _ _ _ _ _)
  | (with_reducible show InvEnd _ _ _ _ _ _)
  | (with_reducible show Back _ _ _ _))
local macro_rules | `(tactic| walk_at "mine: up to a loop") => `(tactic| repeat' ((fail_if_success (walk_at "mine: stop")); first | (k_unfold; (try dsimp only)) | (k_end; wrow_close) | walk1 | (dsimp only; walk1) | (leave1; walk_say "STEP leave1"; try dsimp only) | fail "no step"))

theorem News.sub {h₀ h : Heap} {L : Addr} {news news' : List (Addr × Obj)} (N : News h₀ L h news) (hs : ∀ p ∈ news', p ∈ news) : News h₀ L h news' := fun p hp => N p (hs p hp)
theorem mem_turn {α : Type} {a : α} {l : List α} : ∀ p ∈ a :: l, p ∈ l ++ [a] := fun p hp => by
  rcases List.mem_cons.mp hp with rfl | hp
  · exact List.mem_append.mpr (.inr (List.mem_singleton.mpr rfl))
  · exact List.mem_append.mpr (.inl hp)
theorem mem_back {α : Type} {a : α} {l : List α} : ∀ p ∈ l ++ [a], p ∈ a :: l := fun p hp => by
  rcases List.mem_append.mp hp with hp | hp
  · exact .tail _ hp
  · rw [List.mem_singleton.mp hp]; exact .head _
theorem un1 {y : Str} {v : Value} {m : Str → Option Value} (e : m y = some v) (z : Str) : m z = if z = y then some v else m z := by
  by_cases hy : z = y
  · subst hy; simp [e]
  · simp [hy]
theorem fr_eq {h₀ : Heap} {L : Addr} {h : Heap} {m m' : Str → Option Value} (F : Fr h₀ L h m) (e : ∀ z, m z = m' z) : Fr h₀ L h m' := by
  have : m = m' := funext e
  rw [← this]; exact F
/-- after a turn: what is known of the frame -/
theorem pull1 {h₀ : Heap} {L : Addr} {h : Heap} {x y : Str} {v w : Value} {m : Str → Option Value} (F : Fr h₀ L h (fun z => if z = x then some w else m z)) (e : m y = some v) :
    Fr h₀ L h (fun z => if z = x then some w else if z = y then some v else m z) := fr_eq F fun z => by rw [← un1 e z]
theorem pull2 {h₀ : Heap} {L : Addr} {h : Heap} {x y y' : Str} {v v' w : Value} {m : Str → Option Value} (F : Fr h₀ L h (fun z => if z = x then some w else m z)) (e : m y = some v) (e' : m y' = some v') :
    Fr h₀ L h (fun z => if z = x then some w else if z = y then some v else if z = y' then some v' else m z) := fr_eq F fun z => by rw [← un1 e' z, ← un1 e z]
theorem pull3 {h₀ : Heap} {L : Addr} {h : Heap} {x y y' y'' : Str} {v v' v'' w : Value} {m : Str → Option Value} (F : Fr h₀ L h (fun z => if z = x then some w else m z)) (e : m y = some v) (e' : m y' = some v') (e'' : m y'' = some v'') :
    Fr h₀ L h (fun z => if z = x then some w else if z = y then some v else if z = y' then some v' else if z = y'' then some v'' else m z) := fr_eq F fun z => by rw [← un1 e'' z, ← un1 e' z, ← un1 e z]
theorem end1 {h₀ : Heap} {L : Addr} {h : Heap} {y : Str} {v : Value} {m : Str → Option Value} (F : Fr h₀ L h m) (e : m y = some v) :
    Fr h₀ L h (fun z => if z = y then some v else m z) := fr_eq F fun z => by rw [← un1 e z]
theorem end2 {h₀ : Heap} {L : Addr} {h : Heap} {y y' : Str} {v v' : Value} {m : Str → Option Value} (F : Fr h₀ L h m) (e : m y = some v) (e' : m y' = some v') :
    Fr h₀ L h (fun z => if z = y then some v else if z = y' then some v' else m z) := fr_eq F fun z => by rw [← un1 e' z, ← un1 e z]
theorem end3 {h₀ : Heap} {L : Addr} {h : Heap} {y y' y'' : Str} {v v' v'' : Value} {m : Str → Option Value} (F : Fr h₀ L h m) (e : m y = some v) (e' : m y' = some v') (e'' : m y'' = some v'') :
    Fr h₀ L h (fun z => if z = y then some v else if z = y' then some v' else if z = y'' then some v'' else m z) := fr_eq F fun z => by rw [← un1 e'' z, ← un1 e' z, ← un1 e z]

set_option maxHeartbeats 400000 in
theorem polymod_call {w : World} {mean : ExcName → Option Value} {mg mb : Str → Option Value} {dp un : Nat} {gd : Option (List Code)} {cn : Str} {cs : Scope} {L a : Addr} {ccd : Value} {cl : List (Str × Addr)} {outer : List Env} {A₀ : Around} {base h₀ : Heap} {m : Str → Option Value} {s : Shared} {Q E : Value → Shared → Prop}
    (B : Below A₀ base outer h₀) (F : Fr h₀ L s.heap m) (X : (hd.heap_39 w.params).In h₀) (T : Top hd.view_39 (looseW hd.view_39 []) mean mg mb h₀) (hk : cs.kind = .function) (hdp : dp + 1 < recursionLimit)
    {l : Addr} {vs : List Value} {ns : List Nat} (hl : s.heap.IsList l vs.toArray) (hi : IntsAre vs (ns.map Int.ofNat))
    (ret : ∀ t h' tk', Kept s.heap h' → Q (.int (poly ns : Nat) t) { s with heap := h', toks := tk' }) :
    wpAny (model PySem.Challenge.rw_fw0002_01.row.prog w) (ktrTop dp un gd cn cs L a ccd cl outer) (call (.ref 21) [.ref l]) Q E s := by
  revert X; k_fill; intro X
  refine enter (binds := [(Str.ofString "values", .ref l)]) B F X T rfl rfl hk (by k_is) (by k_is) (by ktr_room) (BindsTo.of_eq rfl) (locs rfl) ?_ rfl rfl rfl ?dd
  (case dd => decide)
  intro g L' h₁ hg F' N' B' X' T'
  subst hg
  (try dsimp only)
  k_fold
  walk_at "mine: up to a loop"
  rename_i l' h2 l1 h3 h4 F4 N4
  refine For_invV s.heap rfl rfl ?_
  walk_at "mine: up to a loop"
  refine iter_inv (fun i m => (∃ c t, m (Str.ofString "chk") = some (.int c t) ∧ c = ((poly (ns.take i) : Nat) : Int)) ∧ m (Str.ofString "generator") = some (.ref l')) rfl hl hi (by k_asm) (by k_asm) ⟨⟨_, _, rfl, rfl⟩, rfl⟩ ?_ ?_
  · intro i n t m₁ h tk own hni hJ F₁ N₁
    obtain ⟨v, hv, rfl⟩ : ∃ v, ns[i]? = some v ∧ n = ((v : Nat) : Int) := by
      simp only [List.getElem?_map, Option.map_eq_some_iff] at hni
      obtain ⟨v, h1, h2⟩ := hni
      exact ⟨v, h1, h2.symm⟩
    obtain ⟨⟨c, tc, hc, rfl⟩, hgn⟩ := hJ
    replace F₁ : Fr s.heap L' h _ := pull2 F₁ hc hgn
    replace N₁ : News s.heap L' h _ := News.sub N₁ mem_turn
    clear hc hgn F4 N4
    generalize hP : poly (ns.take i) = P at F₁
    have hb : 0 ≤ Builtin.bitAnd (P : Int) 33554431 ∧ Builtin.bitAnd (P : Int) 33554431 < 33554432 := by
      rw [show (33554431 : Int) = ((33554431 : Nat) : Int) from rfl, band_nat, show (33554431 : Nat) = 2 ^ 25 - 1 from rfl, Nat.and_two_pow_sub_one_eq_mod]
      have := Nat.mod_lt P (show 0 < 2 ^ 25 by decide)
      omega
    obtain ⟨hb1, hb2⟩ := hb
    dsimp only
    walk_at "mine: up to a loop"
    rename_i h5 h6 F6 N6
    refine For_invV s.heap rfl rfl ?_
    have ec : Builtin.bitXor (Builtin.bitAnd (P : Int) 33554431 * 2 ^ Int.toNat 5) (v : Int) = (((P &&& 33554431) <<< 5) ^^^ v : Nat) := by
      rw [show (33554431 : Int) = ((33554431 : Nat) : Int) from rfl, band_nat, show Int.toNat 5 = 5 from rfl, mul_nat, bxor_nat]
    have et : Int.fdiv (P : Int) (2 ^ Int.toNat 25) = ((P >>> 25 : Nat) : Int) := by rw [show Int.toNat 25 = 25 from rfl, fdiv_nat]
    generalize hC : ((P &&& 33554431) <<< 5) ^^^ v = C at ec
    generalize hT : P >>> 25 = T5 at et
    obtain ⟨m5, t5, t6, F7⟩ : ∃ (m5 : Str → Option Value) (t5 t6 : Tok), Fr s.heap L' h6 (fun z => if z = Str.ofString "chk" then some (.int ((C : Nat) : Int) t5) else if z = Str.ofString "top" then some (.int ((T5 : Nat) : Int) t6) else if z = Str.ofString "generator" then some (.ref l') else m5 z) :=
      ⟨_, _, _, end3 F6 (congrArg (fun x => some (Value.int x _)) ec) (congrArg (fun x => some (Value.int x _)) et) rfl⟩
    clear F6 ec et
    walk_at "mine: up to a loop"
    dsimp only
    rename IsRange _ _ _ _ _ _ _ _ => hR
    refine iterRange_accG (fun (c : Nat) t => Value.int (c : Int) t) (y := Str.ofString "chk") (c₀ := C) (n := 5) (fun c k => c ^^^ pick k.toNat (genL.getD k.toNat 0) T5) rfl hR (by decide) (by decide) (by k_asm) (by k_asm) rfl ?_ ?_
    · intro k t7 c7 tc7 h7 tk7 own7 hk0 hk5 hoff7 F7 N7
      replace F7 : Fr s.heap L' h7 _ := F7
      replace N7 : News s.heap L' h7 _ := N7
      have hb := bit_test T5 k.toNat
      dsimp only
      walk_at "mine: up to a loop"
      · exact InvEndN.intro (by k_asm) (by k_asm) ⟨rfl, ⟨_, congrArg (fun x => some (Value.int x _)) (turn_one c7 T5 k hk0 (by omega) (by assumption))⟩, fun z h1 h2 => by simp [h1, h2]⟩ rfl (fun p hp => List.mem_append.mpr (.inl hp)) (fun p hp => List.mem_append.mpr (.inr hp))
      · exact InvEndN.intro (by k_asm) (by k_asm) ⟨rfl, ⟨_, congrArg (fun x => some (Value.int x _)) (turn_zero c7 T5 k (by assumption))⟩, fun z h1 h2 => by simp [h1, h2]⟩ rfl (fun p hp => List.mem_append.mpr (.inl hp)) (fun p hp => List.mem_append.mpr (.inr hp))
    · intro u t8 h8 tk8 F8 N8
      dsimp only
      walk_at "mine: up to a loop"
      refine InvEnd.intro F8 N8 mem_back ⟨⟨_, _, rfl, congrArg Int.ofNat ?v⟩, rfl⟩
      rw [show rangeKs 0 5 = [0, 1, 2, 3, 4] from rfl, five_turns, poly_snoc hv, hP, ← hC, ← hT]
      rfl
  · intro m₁ h tk hJ F₁ N₁
    obtain ⟨⟨c, tc, hc, rfl⟩, hgn⟩ := hJ
    replace F₁ : Fr s.heap L' h _ := end1 F₁ hc
    replace N₁ : News s.heap L' h _ := N₁
    rw [List.length_map, List.take_length] at F₁
    clear hc hgn F4 N4
    dsimp only
    walk_at "mine: up to a loop"
    exact (⟨F₁.keep, ret _ _ _ F₁.keep⟩ : Back s.heap Q _ _)

end Mine
namespace Mine
open PySem PySem.W PyProof.Rows PySem.Calls
/-- the walk, up to a loop -/
local macro_rules | `(tactic| walk_at "mine: stop") => `(tactic| first
  | (with_reducible show wpAny _ _ (exec (Stmt.For _ _ _ _ _) _) _ _ _)
  | (with_reducible show wpAny _ _ (pyIter _) _ _ _)
  | (with_reducible show InvPostN _ _ _ _ _ _ _ _ _)
  | (with_reducible show InvEndN _ _ _ _ _ _ _)
  | (with_reducible show InvPost _ _ _ _ _ _ _ _)
  | (with_reducible show InvEnd _ _ _ _ _ _)
  | (with_reducible show Back _ _ _ _))
local macro_rules | `(tactic| walk_at "mine: up to a loop") => `(tactic| repeat' ((fail_if_success (walk_at "mine: stop")); first | (k_unfold; (try dsimp only)) | (k_end; wrow_close) | walk1 | (dsimp only; walk1) | (leave1; walk_say "STEP leave1"; try dsimp only) | fail "no step"))

set_option maxHeartbeats 400000 in
theorem times_call {w : World} {mean : ExcName → Option Value} {mg mb : Str → Option Value} {dp un : Nat} {gd : Option (List Code)} {cn : Str} {cs : Scope} {L a : Addr} {ccd : Value} {cl : List (Str × Addr)} {outer : List Env} {A₀ : Around} {base h₀ : Heap} {m : Str → Option Value} {s : Shared} {Q E : Value → Shared → Prop}
    (B : Below A₀ base outer h₀) (F : Fr h₀ L s.heap m) (X : (hd.heap_39 w.params).In h₀) (T : Top hd.view_39 (looseW hd.view_39 []) mean mg mb h₀) (hk : cs.kind = .function) (hdp : dp + 1 < recursionLimit)
    {x y : Nat} {tx ty : Tok} (hx : x < 32) (hy : y < 32)
    (ret : ∀ t h' tk', Kept s.heap h' → Q (.int (times x y : Nat) t) { s with heap := h', toks := tk' }) :
    wpAny (model PySem.Challenge.rw_fw0002_01.row.prog w) (ktrTop dp un gd cn cs L a ccd cl outer) (call (.ref 52) [.int (x : Int) tx, .int (y : Int) ty]) Q E s := by
  have ret' : ∀ z : Int, z = ((times x y : Nat) : Int) → ∀ t h' tk', Kept s.heap h' → Q (.int z t) { s with heap := h', toks := tk' } := by rintro z rfl; exact ret
  revert X; k_fill; intro X
  refine enter (binds := [(Str.ofString "one", .int (x : Int) tx), (Str.ofString "two", .int (y : Int) ty)]) B F X T rfl rfl hk (by k_is) (by k_is) (by ktr_room) (BindsTo.of_eq rfl) (locs rfl) ?_ rfl rfl rfl ?dd
  (case dd => decide)
  intro g L' h₁ hg F' N' B' X' T'
  subst hg
  (try dsimp only)
  k_fold
  walk_at "mine: up to a loop"
  · exact (⟨F'.keep, ret' _ (times_zero_l x y (by assumption)) _ _ _ F'.keep⟩ : Back s.heap Q _ _)
  · exact (⟨F'.keep, ret' _ (times_zero_r x y (by assumption)) _ _ _ F'.keep⟩ : Back s.heap Q _ _)
  · exact (⟨F'.keep, ret' _ (times_val x y (by omega) (by omega)) _ _ _ F'.keep⟩ : Back s.heap Q _ _)

set_option maxHeartbeats 400000 in
theorem low_call {w : World} {mean : ExcName → Option Value} {mg mb : Str → Option Value} {dp un : Nat} {gd : Option (List Code)} {cn : Str} {cs : Scope} {L a : Addr} {ccd : Value} {cl : List (Str × Addr)} {outer : List Env} {A₀ : Around} {base h₀ : Heap} {m : Str → Option Value} {s : Shared} {Q E : Value → Shared → Prop}
    (B : Below A₀ base outer h₀) (F : Fr h₀ L s.heap m) (X : (hd.heap_39 w.params).In h₀) (T : Top hd.view_39 (looseW hd.view_39 []) mean mg mb h₀) (hk : cs.kind = .function) (hdp : dp + 1 < recursionLimit)
    {x : Int} {tx : Tok} 
    (ret : ∀ t h' tk', Kept s.heap h' → Q (.int (if 65 ≤ x ∧ x ≤ 90 then x + 32 else x) t) { s with heap := h', toks := tk' }) :
    wpAny (model PySem.Challenge.rw_fw0002_01.row.prog w) (ktrTop dp un gd cn cs L a ccd cl outer) (call (.ref 59) [.int x tx]) Q E s := by
  have ret' : ∀ z : Int, z = (if 65 ≤ x ∧ x ≤ 90 then x + 32 else x) → ∀ t h' tk', Kept s.heap h' → Q (.int z t) { s with heap := h', toks := tk' } := by rintro z rfl; exact ret
  revert X; k_fill; intro X
  refine enter (binds := [(Str.ofString "code", .int x tx)]) B F X T rfl rfl hk (by k_is) (by k_is) (by ktr_room) (BindsTo.of_eq rfl) (locs rfl) ?_ rfl rfl rfl ?dd
  (case dd => decide)
  intro g L' h₁ hg F' N' B' X' T'
  subst hg
  (try dsimp only)
  k_fold
  walk_at "mine: up to a loop"
  · exact (⟨F'.keep, ret' _ (by rw [if_pos ⟨by assumption, by assumption⟩]) _ _ _ F'.keep⟩ : Back s.heap Q _ _)
  · exact (⟨F'.keep, ret' _ (by rw [if_neg (by omega)]) _ _ _ F'.keep⟩ : Back s.heap Q _ _)
  · exact (⟨F'.keep, ret' _ (by rw [if_neg (by omega)]) _ _ _ F'.keep⟩ : Back s.heap Q _ _)

end Mine
namespace Mine
open PySem PySem.W PyProof.Rows PySem.Calls
/-- the walk, up to a loop -/
local macro_rules | `(tactic| walk_at "mine: stop") => `(tactic| first
  | (with_reducible show wpAny _ _ (exec (Stmt.For _ _ _ _ _) _) _ _ _)
  | (with_reducible show wpAny _ _ (pyIter _) _ _ _)
  | (with_reducible show InvPostN _ _ _ _ _ _ _ _ _)
  | (with_reducible show InvEndN _ _ _ _ _ _ _)
  | (with_reducible show InvPost _ _ _ _ _ _ _ _)
  | (with_reducible show InvEnd _ _ _ _ _ _)
  | (with_reducible show Back _ _ _ _))
local macro_rules | `(tactic| walk_at "mine: up to a loop") => `(tactic| repeat' ((fail_if_success (walk_at "mine: stop")); first | (k_unfold; (try dsimp only)) | (k_end; wrow_close) | walk1 | (dsimp only; walk1) | (leave1; walk_say "STEP leave1"; try dsimp only) | fail "no step"))


/-- after a call: what stood stands -/
local macro_rules | `(tactic| walk_at "mine: back") => `(tactic| (intro t9 h9 tk9 hk9; (with_reducible rename Fr _ _ _ _ => kF9); (with_reducible rename News _ _ _ _ => kN9); (have F9 := Fr.keeps kF9 hk9); (have N9 := News.grown kN9 hk9); clear kF9 kN9 hk9; (try dsimp only)))
local macro_rules | `(tactic| walk_at "call ref") => `(tactic| (k_here; k_dflt (refine' times_call ?k1 ?k2 ?k3 ?k4 ?k5 ?k6 ?k7 ?k8 ?_; (case k1 => k_asm); (case k2 => k_asm); (case k3 => k_asm); (case k4 => k_asm); (case k5 => exact rfl); (case k6 => ktr_room); (case k7 => assumption); (case k8 => assumption); walk_at "mine: back")))
set_option maxHeartbeats 400000 in
theorem rest_call {w : World} {mean : ExcName → Option Value} {mg mb : Str → Option Value} {dp un : Nat} {gd : Option (List Code)} {cn : Str} {cs : Scope} {L a : Addr} {ccd : Value} {cl : List (Str × Addr)} {outer : List Env} {A₀ : Around} {base h₀ : Heap} {m : Str → Option Value} {s : Shared} {Q E : Value → Shared → Prop}
    (B : Below A₀ base outer h₀) (F : Fr h₀ L s.heap m) (X : (hd.heap_39 w.params).In h₀) (T : Top hd.view_39 (looseW hd.view_39 []) mean mg mb h₀) (hk : cs.kind = .function) (hdp : dp + 2 < recursionLimit)
    {lp lv lq : Addr} {p q : Nat × Nat} {tp1 tp2 tq1 tq2 : Tok} {vs : List Value} {ns : List Nat}
    (hp : s.heap.IsList lp [Value.int (p.1 : Int) tp1, Value.int (p.2 : Int) tp2].toArray) (hp1 : p.1 < 32) (hp2 : p.2 < 32)
    (hq : IsTup s.heap lq [Value.int (q.1 : Int) tq1, Value.int (q.2 : Int) tq2].toArray) (hq1 : q.1 < 32) (hq2 : q.2 < 32)
    (hl : s.heap.IsList lv vs.toArray) (hi : IntsAre vs (ns.map Int.ofNat)) (hn : ∀ v ∈ ns, v < 32)
    (ret : ∀ D t1 t2 h' tk', Kept s.heap h' → s.heap.get? D = none → h'.get? D = some (W.listOf #[Value.int ((rem q ns p).1 : Int) t1, Value.int ((rem q ns p).2 : Int) t2] 0) → Q (.ref D) { s with heap := h', toks := tk' }) :
    wpAny (model PySem.Challenge.rw_fw0002_01.row.prog w) (ktrTop dp un gd cn cs L a ccd cl outer) (call (.ref 66) [.ref lp, .ref lv, .ref lq]) Q E s := by
  revert X; k_fill; intro X
  refine enter (binds := [(Str.ofString "pair", .ref lp), (Str.ofString "values", .ref lv), (Str.ofString "quad", .ref lq)]) B F X T rfl rfl hk (by k_is) (by k_is) (by ktr_room) (BindsTo.of_eq rfl) (locs rfl) ?_ rfl rfl rfl ?dd
  (case dd => decide)
  intro g L' h₁ hg F' N' B' X' T'
  subst hg
  (try dsimp only)
  k_fold
  walk_at "mine: up to a loop"
  refine kun_list F' N' (hp.at fun o e => F'.keep lp o e) rfl rfl rfl ?_
  intro h2 F2 N2
  clear F' N'
  (try dsimp only)
  walk_at "mine: up to a loop"
  rename_i h3 h4 F4 N4
  refine For_invV s.heap rfl rfl ?_
  walk_at "mine: up to a loop"
  (try dsimp only)
  refine iter_inv (fun i m => (∃ c t, m (Str.ofString "high") = some (.int c t) ∧ c = (((rem q (ns.take i) p).1 : Nat) : Int)) ∧ (∃ c t, m (Str.ofString "low") = some (.int c t) ∧ c = (((rem q (ns.take i) p).2 : Nat) : Int)) ∧ m (Str.ofString "quad") = some (.ref lq)) rfl hl hi (by k_asm) (by k_asm) ⟨⟨_, _, rfl, rfl⟩, ⟨_, _, rfl, rfl⟩, rfl⟩ ?_ ?_
  · intro i n t m₁ h tk own hni hJ F₁ N₁
    obtain ⟨v, hv, rfl⟩ : ∃ v, ns[i]? = some v ∧ n = ((v : Nat) : Int) := by
      simp only [List.getElem?_map, Option.map_eq_some_iff] at hni
      obtain ⟨v, h1, h2⟩ := hni
      exact ⟨v, h1, h2.symm⟩
    obtain ⟨⟨c1, tc1, hc1, rfl⟩, ⟨c2, tc2, hc2, rfl⟩, hqn⟩ := hJ
    replace F₁ : Fr s.heap L' h _ := pull3 F₁ hc1 hc2 hqn
    replace N₁ : News s.heap L' h _ := N₁
    clear hc1 hc2 hqn F4 N4
    have hlt := rem_lt q (ns.take i) p hp1 hp2 (fun u hu => hn u (List.mem_of_mem_take hu))
    obtain ⟨R, hR⟩ : ∃ R, rem q (ns.take i) p = R := ⟨_, rfl⟩
    rw [hR] at F₁ hlt
    obtain ⟨hlt1, hlt2⟩ := hlt
    (try dsimp only)
    walk_at "mine: up to a loop"
    have hs : rem q (ns.take (i + 1)) p = rstT q R v := hR ▸ take_snoc (rstT q) hv p
    exact InvEnd.intro (by k_asm) (by k_asm) (fun p hp => .tail _ hp) ⟨⟨_, _, rfl, by rw [hs, bxor_nat]; rfl⟩, ⟨_, _, rfl, by rw [hs, bxor_nat]; rfl⟩, rfl⟩
  · intro m₁ h tk hJ F₁ N₁
    obtain ⟨⟨c1, tc1, hc1, rfl⟩, ⟨c2, tc2, hc2, rfl⟩, hqn⟩ := hJ
    replace F₁ : Fr s.heap L' h _ := end2 F₁ hc1 hc2
    replace N₁ : News s.heap L' h _ := N₁
    rw [List.length_map, List.take_length] at F₁
    clear hc1 hc2 hqn F4 N4
    (try dsimp only)
    walk_at "mine: up to a loop"
    rename_i D h5 F5 N5 l5
    exact (⟨F5.keep, ret D _ _ h5 _ F5.keep (N5 _ (.head _)).2.2 (N5 _ (.head _)).1⟩ : Back s.heap Q _ _)

end Mine
namespace Mine
open PySem PySem.W PyProof.Rows PySem.Calls
/-- the walk, up to a loop -/
local macro_rules | `(tactic| walk_at "mine: stop") => `(tactic| first
  | (with_reducible show wpAny _ _ (exec (Stmt.For _ _ _ _ _) _) _ _ _)
  | (with_reducible show wpAny _ _ (pyIter _) _ _ _)
  | (with_reducible show InvPostN _ _ _ _ _ _ _ _ _)
  | (with_reducible show InvEndN _ _ _ _ _ _ _)
  | (with_reducible show InvPost _ _ _ _ _ _ _ _)
  | (with_reducible show InvEnd _ _ _ _ _ _)
  | (with_reducible show Back _ _ _ _))
local macro_rules | `(tactic| walk_at "mine: up to a loop") => `(tactic| repeat' ((fail_if_success (walk_at "mine: stop")); first | (k_unfold; (try dsimp only)) | (k_end; wrow_close) | walk1 | (dsimp only; walk1) | (leave1; walk_say "STEP leave1"; try dsimp only) | fail "no step"))


/-- after a call: what stood stands -/
local macro_rules | `(tactic| walk_at "mine: back") => `(tactic| (intro t9 h9 tk9 hk9; (with_reducible rename Fr _ _ _ _ => kF9); (with_reducible rename News _ _ _ _ => kN9); (have F9 := Fr.keeps kF9 hk9); (have N9 := News.grown kN9 hk9); clear kF9 kN9 hk9; (try dsimp only)))
local macro_rules | `(tactic| walk_at "call ref") => `(tactic| (k_here; k_dflt (refine' times_call ?k1 ?k2 ?k3 ?k4 ?k5 ?k6 ?k7 ?k8 ?_; (case k1 => k_asm); (case k2 => k_asm); (case k3 => k_asm); (case k4 => k_asm); (case k5 => exact rfl); (case k6 => ktr_room); (case k7 => assumption); (case k8 => assumption); walk_at "mine: back")))
local macro_rules | `(tactic| walk_at "mine: list") => `(tactic| first | assumption | exact Heap.IsList.at (by assumption) (fun o e => Fr.keep (by k_asm) _ o e) | exact ⟨_, News.get (by k_asm) (by k_mem), rfl, _, rfl⟩)
local macro_rules | `(tactic| walk_at "mine: tup") => `(tactic| first | assumption | exact IsTup.keeps (by assumption) (Fr.keep (by k_asm)) | exact kun_topT (by k_asm) (by k_asm) (by k_is) | exact ⟨_, News.get (by k_asm) (by k_mem), rfl, _, rfl⟩)
local macro_rules | `(tactic| walk_at "mine: backL") => `(tactic| (intro D9 t9 u9 h9 tk9 hk9 hn9 ho9; (with_reducible rename Fr _ _ _ _ => kF9); (with_reducible rename News _ _ _ _ => kN9); (have F9 := Fr.keeps kF9 hk9); (have N9 := News.more F9 (News.grown kN9 hk9) ho9 (fun _ _ q => by cases q) (by cases hq : Heap.get? _ D9 with | none => rfl | some o => exact absurd (hn9.symm.trans (kF9.keep _ _ hq)) (by simp))); (have ne9 := allNe_of kN9 hn9); (simp only [AllNe, and_true] at ne9); clear kF9 kN9 hk9 hn9 ho9; (try dsimp only)))
local macro_rules | `(tactic| walk_at "mine: rest") => `(tactic| ((case k1 => k_asm); (case k2 => k_asm); (case k3 => k_asm); (case k4 => k_asm); (case k5 => exact rfl); (case k6 => ktr_room); (case k7 => walk_at "mine: list"); (case j1 => walk_at "mine: tup"); (case j4 => walk_at "mine: list"); (case j5 => assumption); (case k8 => first | assumption | decide); (case k9 => first | assumption | decide); (case j2 => first | assumption | decide); (case j3 => first | assumption | decide); (case j6 => assumption); walk_at "mine: backL"))
local macro_rules | `(tactic| walk_at "call ref") => `(tactic| (k_here; k_dflt (first
  | (refine' rest_call (q := (30, 30)) ?k1 ?k2 ?k3 ?k4 ?k5 ?k6 ?k7 ?k8 ?k9 ?j1 ?j2 ?j3 ?j4 ?j5 ?j6 ?_; walk_at "mine: rest")
  | (refine' rest_call (q := (27, 4)) ?k1 ?k2 ?k3 ?k4 ?k5 ?k6 ?k7 ?k8 ?k9 ?j1 ?j2 ?j3 ?j4 ?j5 ?j6 ?_; walk_at "mine: rest")
  | (refine' rest_call (q := (24, 14)) ?k1 ?k2 ?k3 ?k4 ?k5 ?k6 ?k7 ?k8 ?k9 ?j1 ?j2 ?j3 ?j4 ?j5 ?j6 ?_; walk_at "mine: rest"))))
local macro_rules | `(tactic| walk_at "mine: units") => `(tactic| first | assumption | ((simp only [units_in1, units_deeper, Around.mark_units, units_caller]); (try dsimp only [ktrTop]); omega))
local macro_rules | `(tactic| walk_at "compareOp NotEq ref ref") => `(tactic| (k_here; k_dflt (refine' ne_intsK ?k1 ?k2 ?k3 ?k4 ?k5 ?_; (case k1 => walk_at "mine: list"); (case k2 => l_ints); (case k3 => walk_at "mine: list"); (case k4 => l_ints); (case k5 => walk_at "mine: units"))))
theorem pair_yes {r : Nat × Nat} (h : [(r.1 : Int), (r.2 : Int)] = [0, 1]) : (r == (0, 1)) = true := by
  simp only [List.cons.injEq, and_true] at h
  obtain ⟨a, b⟩ := r
  obtain ⟨h1, h2⟩ := h
  have e1 : a = 0 := by simpa using h1
  have e2 : b = 1 := by simp only at h2; omega
  subst e1; subst e2; rfl
theorem pair_no {r : Nat × Nat} (h : ¬ [(r.1 : Int), (r.2 : Int)] = [0, 1]) : (r == (0, 1)) = false := by
  cases e : r == (0, 1) with
  | false => rfl
  | true => rw [eq_of_beq e] at h; exact absurd rfl h
set_option maxHeartbeats 400000 in
theorem fits_call {w : World} {mean : ExcName → Option Value} {mg mb : Str → Option Value} {dp un : Nat} {gd : Option (List Code)} {cn : Str} {cs : Scope} {L a : Addr} {ccd : Value} {cl : List (Str × Addr)} {outer : List Env} {A₀ : Around} {base h₀ : Heap} {m : Str → Option Value} {s : Shared} {Q E : Value → Shared → Prop}
    (B : Below A₀ base outer h₀) (F : Fr h₀ L s.heap m) (X : (hd.heap_39 w.params).In h₀) (T : Top hd.view_39 (looseW hd.view_39 []) mean mg mb h₀) (hk : cs.kind = .function) (hdp : dp + 3 < recursionLimit) (hun : un + 100 < cLine)
    {lr l0 l1 l2 ls : Addr} {p0 p1 p2 : Nat × Nat} {a0 b0 a1 b1 a2 b2 : Tok} {vs : List Value} {ns : List Nat}
    (hr : s.heap.IsList lr [Value.ref l0, Value.ref l1, Value.ref l2].toArray)
    (hp0 : s.heap.IsList l0 [Value.int (p0.1 : Int) a0, Value.int (p0.2 : Int) b0].toArray) (h01 : p0.1 < 32) (h02 : p0.2 < 32)
    (hp1 : s.heap.IsList l1 [Value.int (p1.1 : Int) a1, Value.int (p1.2 : Int) b1].toArray) (h11 : p1.1 < 32) (h12 : p1.2 < 32)
    (hp2 : s.heap.IsList l2 [Value.int (p2.1 : Int) a2, Value.int (p2.2 : Int) b2].toArray) (h21 : p2.1 < 32) (h22 : p2.2 < 32)
    (hl : s.heap.IsList ls vs.toArray) (hi : IntsAre vs (ns.map Int.ofNat)) (hn : ∀ v ∈ ns, v < 32)
    (ret : ∀ h' tk', Kept s.heap h' → Q (.bool (rem (30, 30) ns p0 == (0, 1) && (rem (27, 4) ns p1 == (0, 1) && rem (24, 14) ns p2 == (0, 1)))) { s with heap := h', toks := tk' }) :
    wpAny (model PySem.Challenge.rw_fw0002_01.row.prog w) (ktrTop dp un gd cn cs L a ccd cl outer) (call (.ref 73) [.ref lr, .ref ls]) Q E s := by
  have ret' : ∀ b : Bool, b = (rem (30, 30) ns p0 == (0, 1) && (rem (27, 4) ns p1 == (0, 1) && rem (24, 14) ns p2 == (0, 1))) → ∀ h' tk', Kept s.heap h' → Q (.bool b) { s with heap := h', toks := tk' } := by rintro b rfl; exact ret
  revert X; k_fill; intro X
  refine enter (binds := [(Str.ofString "rests", .ref lr), (Str.ofString "six", .ref ls)]) B F X T rfl rfl hk (by k_is) (by k_is) (by ktr_room) (BindsTo.of_eq rfl) (locs rfl) ?_ rfl rfl rfl ?dd
  (case dd => decide)
  intro g L' h₁ hg F' N' B' X' T'
  subst hg
  (try dsimp only)
  k_fold
  repeat' ((fail_if_success (with_reducible show Back _ _ _ _)); first | (k_unfold; (try dsimp only)) | (k_end; wrow_close) | walk1 | (dsimp only; walk1) | (leave1; walk_say "STEP leave1"; try dsimp only) | fail "no step")
  all_goals (rename Fr _ _ _ _ => kF)
  · exact (⟨kF.keep, ret' _ (by rw [pair_yes (r := rem (30, 30) ns p0) (by assumption), pair_yes (r := rem (27, 4) ns p1) (by assumption), pair_yes (r := rem (24, 14) ns p2) (by assumption)]) _ _ kF.keep⟩ : Back s.heap Q _ _)
  · exact (⟨kF.keep, ret' _ (by rw [pair_no (r := rem (24, 14) ns p2) (by assumption), Bool.and_false, Bool.and_false]) _ _ kF.keep⟩ : Back s.heap Q _ _)
  · exact (⟨kF.keep, ret' _ (by rw [pair_no (r := rem (27, 4) ns p1) (by assumption), Bool.false_and, Bool.and_false]) _ _ kF.keep⟩ : Back s.heap Q _ _)
  · exact (⟨kF.keep, ret' _ (by rw [pair_no (r := rem (30, 30) ns p0) (by assumption), Bool.false_and]) _ _ kF.keep⟩ : Back s.heap Q _ _)

end Mine
namespace Mine
open PySem PySem.W PyProof.Rows PySem.Calls
theorem enterC {prog : Program} {w : World} {A₀ A : Around} {E : Value → Shared → Prop} {s : Shared} {K : Frag} {base h₀ : Heap} {outer : List Env} {env : Env} {L : Addr} {m mg mb : Str → Option Value} {p : Program} {loose : List Str} {mean : ExcName → Option Value} {Q : Value → Shared → Prop}
    {name qual : Str} {params : Arguments} {body : List Stmt} {scope : Scope} {dV kV doc pm cdv ct oc : Value} {an od : Option Addr} {osl : Array (Option Value)} {f : Addr} {vals : List Value} {binds : List (Str × Value)}
    (B : Below A₀ base outer h₀) (F : Fr h₀ L s.heap m) (X₀ : K.In h₀) (T : Top p loose mean mg mb h₀) (hA : A.frames = some (env :: outer)) (hf : env.frame = some L) (hke : env.scope.kind = .function)
    (ho : K.lookup f = some ⟨oc, od, .func (fnOf name qual params body scope dV kV doc pm an cdv ct), osl⟩) (hcd : codeIn K cdv qual = true) (hroom : A.depth < recursionLimit)
    (hbind : BindsTo s (fnOf name qual params body scope dV kV doc pm an cdv ct) ⟨vals, []⟩ binds) (hkind : (binds.all fun y => scope.names.lookup y.1 == some .local || scope.names.lookup y.1 == some .cell) = true)
    (hnd : ((cellsFrom 0 scope.names []).map (·.1)).Nodup)
    (h : ∀ g L' h₁ tk cells, g = s.heap → Fr g L' h₁ (bindL (envOfC qual scope L' f cdv).kindOf binds fun _ => none) → News g L' h₁ cells →
      CellsAre (bindC (envOfC qual scope L' f cdv).kindOf binds fun _ => none) (cellsFrom (L' + 1) scope.names []) cells → Below A base (env :: outer) g → K.In g → Top p loose mean mg mb g →
      wpAny (model prog w) (A.deeper (envOfC qual scope L' f cdv)) (execs body (envOfC qual scope L' f cdv))
        (fun fl s' => Back g Q (match fl with | .ret v => v | _ => .none) s') (fun _ _ => False)
        { s with heap := h₁, toks := tk })
    (hco : scope.isCoroutine = false) (hgen : scope.isGenerator = false) (hk : scope.kind = .function) : wpAny (model prog w) A (call (.ref f) vals) Q E s := by
  refine wpAny_call ?_
  refine codeAny_call_function hroom ((X₀.keeps F.keep) _ _ ho) rfl hco hgen rfl (codeRec_of (X₀.keeps F.keep) hcd) (hbind _ _ _ _ ?_)
  refine wpAny_newFunctionEnv_cells hk (kindsX hkind _) fun env' he s' x => ?_
  subst he
  refine ⟨(T.nolimit.keeps F.keep).keeps x.toInCall.keep, codeAny_func ?_⟩
  obtain ⟨h₁, tk, rfl, _⟩ := x.done
  have hk₁ := x.toInCall.keep
  obtain ⟨cells, NC, Y⟩ := Cl.news (h₀ := s.heap) (Nat.le_refl _) fun n c hm => ⟨x.cell n c (lookup_of_mem_nodup (cellsFrom_names scope.names 0 (s.heap.objs.size + 1) [] [] rfl ▸ hnd) hm), x.above n c hm⟩
  have B₁ := pushX B F hf hke
  exact wpAny_mono (h s.heap s.heap.objs.size h₁ tk cells rfl ⟨x.toInCall.ns, hk₁, Nat.le_refl _⟩ NC Y ⟨hA, B₁.stays, B₁.frames⟩ (X₀.keeps F.keep) (T.keeps F.keep)) (fun fl s' hl => hl.2) fun _ _ y => y.elim

/-- an element's end: the frame and the ledger stand, the value is good -/
def EltEnd (h₀ : Heap) (L : Addr) (m : Str → Option Value) (s : Shared) (led : List (Addr × Obj)) (G : Value → Prop) (y : Value) (s₂ : Shared) : Prop :=
  ∃ h' tk, s₂ = { s with heap := h', toks := tk } ∧ Fr h₀ L h' m ∧ News h₀ L h' led ∧ G y
theorem EltEnd.intro {h₀ : Heap} {L : Addr} {m : Str → Option Value} {s : Shared} {led led' : List (Addr × Obj)} {G : Value → Prop} {y : Value} {h' : Heap} {tk : Nat} (F : Fr h₀ L h' m) (N : News h₀ L h' led') (hs : ∀ p ∈ led, p ∈ led') (g : G y) :
    EltEnd h₀ L m s led G y { s with heap := h', toks := tk } := ⟨h', tk, rfl, F, News.sub N hs, g⟩
section
variable {prog : Program} {w : World} {A : Around} {E : Value → Shared → Prop} {s : Shared} {h₀ : Heap} {L : Addr} {m : Str → Option Value} {env : Env}
/-- a block whose turns make nothing that stays but the int -/
theorem rest_ints {elt : Expr} {x : Str} {scope : Scope} {cl : List (Str × Addr)} {S : List (Addr × Obj) → Prop} {P : Nat → Value → Prop} {Fin : List Value → List (Addr × Obj) → Prop} {news : List (Addr × Obj)} (hS : S news) (zs : List Int)
    (turn : ∀ i z v I oI C oC D m₂ ys h tk (E' : Value → Shared → Prop), zs[i]? = some z → P i v → LCg.NsObj oC m₂ → m₂ x = some v → Fr h₀ L h m → News h₀ L h ((I, oI) :: (C, oC) :: (D, LCg.lst ys) :: news) →
      wpAny (model prog w) A (eval elt (compEnvC scope cl C env)) (EltEnd h₀ L m { s with heap := h, toks := tk } ((I, oI) :: (C, oC) :: (D, LCg.lst ys) :: news) (fun y => ∃ t, y = .int z t)) E' { s with heap := h, toks := tk })
    (fin : ∀ ys, IntsAre ys zs → Fin ys news) : LCg.CompRest prog w A h₀ L m env elt x scope cl s S P Fin zs.length 0 [] news := by
  have key : ∀ (j i : Nat) (ys : List Value), i + j = zs.length → IntsAre ys (zs.take i) → LCg.CompRest prog w A h₀ L m env elt x scope cl s S P Fin j i ys news := by
    intro j
    induction j with
    | zero =>
      intro i ys hi hy
      have e : i = zs.length := by omega
      subst e
      rw [List.take_length] at hy
      exact LCg.CompRest.zero (fin ys hy)
    | succ j ih =>
      intro i ys hi hy
      refine LCg.CompRest.succ ?_
      intro v I oI C oC D m₂ h tk E' hv hC hx F N off ne
      have hlt : i < zs.length := by omega
      refine wpAny_mono (turn i zs[i] v I oI C oC D m₂ ys h tk E' (List.getElem?_eq_getElem hlt) hv hC hx F N) (fun y s₂ hq => ?_) fun _ _ e => e
      obtain ⟨h', tk', e, F', N', t', hy'⟩ := hq
      refine ⟨h', tk', news, e, F', N', off, hS, ?_⟩
      rw [hy']
      refine ih (i + 1) _ (by omega) ?_
      rw [List.take_add_one, List.getElem?_eq_getElem hlt]
      exact IntsAre.append hy (.cons _ t' .nil)
  exact key zs.length 0 [] (by omega) (by rw [List.take_zero]; exact .nil)

/-- a text is walked -/
def TextSrc (prog : Program) (w : World) (A : Around) (h₀ : Heap) (L : Addr) (m : Str → Option Value) (env : Env) (elt : Expr) (x : Str) (scope : Scope) (cl : List (Str × Addr)) (Q : Value → Shared → Prop) (xv : Value) (s₁ : Shared) : Prop :=
  ∃ (co : List Nat) (t : Tok) (news : List (Addr × Obj)), xv = .str ⟨co.toArray⟩ t ∧ A.handled = none ∧ (co.all (· < 128)) = true ∧ co.length ≤ sizeLine ∧ Fr h₀ L s₁.heap m ∧ News h₀ L s₁.heap news ∧
      ∀ g, LCg.CompRest prog w A h₀ L m env elt x scope cl { s₁ with heap := g } (fun _ => True) (SignAt ⟨co.toArray⟩) (LCg.FinE h₀ L m { s₁ with heap := g } Q) co.length 0 [] news
/-- a block over a text's signs -/
theorem ListComp_text {elt iter : Expr} {x : Str} {px : Pos} {scope : Scope} {cl : List (Str × Addr)} {pos : Pos} {Q : Value → Shared → Prop} (_F₀ : Fr h₀ L s.heap m)
    (hclos : closureFor scope env = pure cl) (hcell : ∀ y ∈ scope.names, y.2 ≠ .cell) (hkind : scope.kind = .function)
    (hnames : ∀ y ∈ scope.names, y.2 = .local → scope.names.lookup y.1 = some .local) (hx : scope.names.lookup x = some .local)
    (h : wpAny (model prog w) A (eval iter env) (TextSrc prog w A h₀ L m env elt x scope cl Q) E s)
    (hs : ∀ x, foldedSetIterable iter env x = pure x) :
    wpAny (model prog w) A (eval (.ListComp elt [⟨.Name x px, iter, [], 0⟩] scope pos) env) Q E s := by
  rw [eval_ListComp]
  refine wpAny_comprehension_free (use := none) rfl hs hclos hkind hnames (wpAny_mono h (fun xv s₁ h₁ => ?_) fun _ _ e => e)
  obtain ⟨co, t, news, rfl, hh, ha, hsz, F, N, R⟩ := h₁
  refine wpAny_pyIter_ascii (by simpa using ha) ?_
  have up : ∀ b o, s₁.heap.get? b = some o → (s₁.heap.push { cls := .type "str_ascii_iterator", data := .fields #[.str ⟨co.toArray⟩ t, .int 0 0] }).get? b = some o := fun b o e => Heap.get?_push_of_some _ e
  refine LCg.block_U (n := co.length) (S := fun _ => True) (Walks.strAscii hh s₁.heap.objs.size ⟨co.toArray⟩ t) hsz (fun i h st => by obtain ⟨o, e, _⟩ := st; exact ⟨o, e⟩)
    (fun i h h' o nw st e e' _ _ _ => by obtain ⟨o', q, r⟩ := st; rw [e] at q; cases q; exact ⟨o, e', r⟩) hcell hkind hx ⟨_, Heap.get?_push_size _ rfl, rfl, rfl⟩ (fun b hb => ?_)
    (F.keeps up) (N.grown up) (Nat.ne_of_lt F.ns.lt) (next_is_new F) (fun p hp => Nat.ne_of_lt (Heap.lt_size (N p hp).1)) trivial (R _) ?_
  · show b < (s₁.heap.push _).objs.size
    rw [Heap.size_push, List.mem_singleton.mp hb]
    exact Nat.lt_succ_self _
  · intro D C h tk m' ys news' F' N' o1 hn hC₀ hD₀ hCL hDL hCD offC fin
    refine ⟨m', hn, fun h'' hs'' => fin D h'' tk (F'.change hs'' hCL hC₀) (fun p hp => ?_) o1⟩
    refine ⟨hs''.extBut _ _ ?_ (N' p hp).1, (N' p hp).2⟩
    rcases List.mem_cons.mp hp with rfl | hp
    · exact Ne.symm hCD
    · exact offC p hp
end

end Mine
namespace Mine
open PySem PySem.W PyProof.Rows PySem.Calls
/-- the walk, up to a loop -/
local macro_rules | `(tactic| walk_at "mine: stop") => `(tactic| first
  | (with_reducible show wpAny _ _ (exec (Stmt.For _ _ _ _ _) _) _ _ _)
  | (with_reducible show wpAny _ _ (pyIter _) _ _ _)
  | (with_reducible show InvPostN _ _ _ _ _ _ _ _ _)
  | (with_reducible show InvEndN _ _ _ _ _ _ _)
  | (with_reducible show InvPost _ _ _ _ _ _ _ _)
  | (with_reducible show InvEnd _ _ _ _ _ _)
  | (with_reducible show Back _ _ _ _)
  | (with_reducible show EltEnd _ _ _ _ _ _ _ _)
  | (with_reducible show TextSrc _ _ _ _ _ _ _ _ _ _ _ _ _ _)
  | (with_reducible show LCg.CompSrc _ _ _ _ _ _ _ _ _ _ _ _ _ _)
  | (with_reducible show wpAny _ _ (eval (Expr.ListComp _ _ _ _) _) _ _ _))
local macro_rules | `(tactic| walk_at "mine: up to a loop") => `(tactic| repeat' ((fail_if_success (walk_at "mine: stop")); first | (k_unfold; (try dsimp only)) | (k_end; wrow_close) | walk1 | (dsimp only; walk1) | (leave1; walk_say "STEP leave1"; try dsimp only) | fail "no step"))


/-- after a call: what stood stands -/
local macro_rules | `(tactic| walk_at "mine: back") => `(tactic| (intro t9 h9 tk9 hk9; (with_reducible rename Fr _ _ _ _ => kF9); (with_reducible rename News _ _ _ _ => kN9); (have F9 := Fr.keeps kF9 hk9); (have N9 := News.grown kN9 hk9); clear kF9 kN9 hk9; (try dsimp only)))
local macro_rules | `(tactic| walk_at "call ref") => `(tactic| (k_here; k_dflt (refine' times_call ?k1 ?k2 ?k3 ?k4 ?k5 ?k6 ?k7 ?k8 ?_; (case k1 => k_asm); (case k2 => k_asm); (case k3 => k_asm); (case k4 => k_asm); (case k5 => exact rfl); (case k6 => ktr_room); (case k7 => assumption); (case k8 => assumption); walk_at "mine: back")))
local macro_rules | `(tactic| walk_at "mine: list") => `(tactic| first | assumption | exact Heap.IsList.at (by assumption) (fun o e => Fr.keep (by k_asm) _ o e) | exact ⟨_, News.get (by k_asm) (by k_mem), rfl, _, rfl⟩)
local macro_rules | `(tactic| walk_at "mine: tup") => `(tactic| first | assumption | exact IsTup.keeps (by assumption) (Fr.keep (by k_asm)) | exact kun_topT (by k_asm) (by k_asm) (by k_is) | exact ⟨_, News.get (by k_asm) (by k_mem), rfl, _, rfl⟩)
local macro_rules | `(tactic| walk_at "mine: backL") => `(tactic| (intro D9 t9 u9 h9 tk9 hk9 hn9 ho9; (with_reducible rename Fr _ _ _ _ => kF9); (with_reducible rename News _ _ _ _ => kN9); (have F9 := Fr.keeps kF9 hk9); (have N9 := News.more F9 (News.grown kN9 hk9) ho9 (fun _ _ q => by cases q) (by cases hq : Heap.get? _ D9 with | none => rfl | some o => exact absurd (hn9.symm.trans (kF9.keep _ _ hq)) (by simp))); (have ne9 := allNe_of kN9 hn9); (simp only [AllNe, and_true] at ne9); clear kF9 kN9 hk9 hn9 ho9; (try dsimp only)))
local macro_rules | `(tactic| walk_at "mine: rest") => `(tactic| ((case k1 => k_asm); (case k2 => k_asm); (case k3 => k_asm); (case k4 => k_asm); (case k5 => exact rfl); (case k6 => ktr_room); (case k7 => walk_at "mine: list"); (case j1 => walk_at "mine: tup"); (case j4 => walk_at "mine: list"); (case j5 => assumption); (case k8 => first | assumption | decide); (case k9 => first | assumption | decide); (case j2 => first | assumption | decide); (case j3 => first | assumption | decide); (case j6 => assumption); walk_at "mine: backL"))
local macro_rules | `(tactic| walk_at "call ref") => `(tactic| (k_here; k_dflt (first
  | (refine' rest_call (q := (30, 30)) ?k1 ?k2 ?k3 ?k4 ?k5 ?k6 ?k7 ?k8 ?k9 ?j1 ?j2 ?j3 ?j4 ?j5 ?j6 ?_; walk_at "mine: rest")
  | (refine' rest_call (q := (27, 4)) ?k1 ?k2 ?k3 ?k4 ?k5 ?k6 ?k7 ?k8 ?k9 ?j1 ?j2 ?j3 ?j4 ?j5 ?j6 ?_; walk_at "mine: rest")
  | (refine' rest_call (q := (24, 14)) ?k1 ?k2 ?k3 ?k4 ?k5 ?k6 ?k7 ?k8 ?k9 ?j1 ?j2 ?j3 ?j4 ?j5 ?j6 ?_; walk_at "mine: rest"))))
local macro_rules | `(tactic| walk_at "mine: units") => `(tactic| first | assumption | ((simp only [units_in1, units_deeper, Around.mark_units, units_caller]); (try dsimp only [ktrTop]); omega))
local macro_rules | `(tactic| walk_at "compareOp NotEq ref ref") => `(tactic| (k_here; k_dflt (refine' ne_intsK ?k1 ?k2 ?k3 ?k4 ?k5 ?_; (case k1 => walk_at "mine: list"); (case k2 => l_ints); (case k3 => walk_at "mine: list"); (case k4 => l_ints); (case k5 => walk_at "mine: units"))))
set_option maxHeartbeats 400000 in
theorem expand_call {w : World} {mean : ExcName → Option Value} {mg mb : Str → Option Value} {dp un : Nat} {gd : Option (List Code)} {cn : Str} {cs : Scope} {L a : Addr} {ccd : Value} {cl : List (Str × Addr)} {outer : List Env} {A₀ : Around} {base h₀ : Heap} {m : Str → Option Value} {s : Shared} {Q E : Value → Shared → Prop}
    (B : Below A₀ base outer h₀) (F : Fr h₀ L s.heap m) (X : (hd.heap_39 w.params).In h₀) (T : Top hd.view_39 (looseW hd.view_39 []) mean mg mb h₀) (hk : cs.kind = .function) (hdp : dp + 1 < recursionLimit) (hun : un + 100 < cLine)
    {co : List Nat} {tx : Tok} (hn : ∀ c ∈ co, c < 128) (hlen : co.length < 1000)
    (ret : ∀ D vs n h' tk', Kept s.heap h' → s.heap.get? D = none → h'.get? D = some (W.listOf (List.toArray vs) n) → IntsAre vs ((co.map (· >>> 5) ++ [0] ++ co.map (· &&& 31)).map Int.ofNat) → Q (.ref D) { s with heap := h', toks := tk' }) :
    wpAny (model PySem.Challenge.rw_fw0002_01.row.prog w) (ktrTop dp un gd cn cs L a ccd cl outer) (call (.ref 26) [.str ⟨co.toArray⟩ tx]) Q E s := by
  revert X; k_fill; intro X
  refine enter (binds := [(Str.ofString "hrp", .str ⟨co.toArray⟩ tx)]) B F X T rfl rfl hk (by k_is) (by k_is) (by ktr_room) (BindsTo.of_eq rfl) (locs rfl) ?_ rfl rfl rfl ?dd
  (case dd => decide)
  intro g L' h₁ hg F' N' B' X' T'
  subst hg
  (try dsimp only)
  k_fold
  walk_at "mine: up to a loop"
  refine ListComp_text (cl := []) (by k_asm) rfl (by decide) rfl (by decide) rfl ?_ (by intro _; rfl)
  walk_at "mine: up to a loop"
  refine ⟨co, tx, _, rfl, rfl, by simpa using hn, by rw [sizeLine_eq]; omega, by k_asm, by k_asm, fun g => ?_⟩
  rw [show co.length = ((co.map (· >>> 5)).map Int.ofNat).length by simp]
  refine rest_ints trivial _ ?_ ?_
  · intro i z v I oI C oC D m₂ ys h tk E' hz hP hC hx F' N'
    obtain ⟨c, u, hc, rfl⟩ := hP
    walk_at "mine: up to a loop"
    have ez := elt_z hz (by simpa using hc)
    exact EltEnd.intro (by k_asm) (by k_asm) (fun _ hp => hp) ⟨_, congrArg (fun x => Value.int x _) (by rw [ez]; exact fdiv_nat c 5)⟩
  · intro ys hy D h tk F' N' o1
    have hly := IntsAre.length hy
    simp only [List.length_map] at hly
    (try dsimp only)
    walk_at "mine: up to a loop"
    refine ListComp_text (cl := []) (by k_asm) rfl (by decide) rfl (by decide) rfl ?_ (by intro _; rfl)
    walk_at "mine: up to a loop"
    refine ⟨co, tx, _, rfl, rfl, by simpa using hn, by rw [sizeLine_eq]; omega, by k_asm, by k_asm, fun g => ?_⟩
    rw [show co.length = ((co.map (· &&& 31)).map Int.ofNat).length by simp]
    refine rest_ints trivial _ ?_ ?_
    · intro i z v I oI C oC D m₂ ys h tk E' hz hP hC hx F' N'
      obtain ⟨c, u, hc, rfl⟩ := hP
      walk_at "mine: up to a loop"
      have ez := elt_z hz (by simpa using hc)
      exact EltEnd.intro (by k_asm) (by k_asm) (fun _ hp => hp) ⟨_, congrArg (fun x => Value.int x _) (by rw [ez]; exact band_nat c 31)⟩
    · intro ys hy D h tk F' N' o1
      have hly := IntsAre.length hy
      simp only [List.length_map] at hly
      (try dsimp only)
      walk_at "mine: up to a loop"
      rename_i D5 ws5 h5 F5 N5 I5 l5
      have I6 : IntsAre ws5 ((co.map (· >>> 5) ++ [0] ++ co.map (· &&& 31)).map Int.ofNat) := by rw [List.map_append, List.map_append]; exact I5
      exact (⟨F5.keep, ret D5 ws5 0 _ _ F5.keep (N5 _ (.head _)).2.2 (N5 _ (.head _)).1 I6⟩ : Back s.heap Q _ _)

end Mine
namespace Mine
open PySem PySem.W PyProof.Rows PySem.Calls
/-- the walk, up to a loop -/
local macro_rules | `(tactic| walk_at "mine: stop") => `(tactic| first
  | (with_reducible show wpAny _ _ (exec (Stmt.For _ _ _ _ _) _) _ _ _)
  | (with_reducible show wpAny _ _ (pyIter _) _ _ _)
  | (with_reducible show InvPostN _ _ _ _ _ _ _ _ _)
  | (with_reducible show InvEndN _ _ _ _ _ _ _)
  | (with_reducible show InvPost _ _ _ _ _ _ _ _)
  | (with_reducible show InvEnd _ _ _ _ _ _)
  | (with_reducible show Back _ _ _ _)
  | (with_reducible show EltEnd _ _ _ _ _ _ _ _)
  | (with_reducible show TextSrc _ _ _ _ _ _ _ _ _ _ _ _ _ _)
  | (with_reducible show LCg.CompSrc _ _ _ _ _ _ _ _ _ _ _ _ _ _)
  | (with_reducible show wpAny _ _ (eval (Expr.ListComp _ _ _ _) _) _ _ _))
local macro_rules | `(tactic| walk_at "mine: up to a loop") => `(tactic| repeat' ((fail_if_success (walk_at "mine: stop")); first | (k_unfold; (try dsimp only)) | (k_end; wrow_close) | walk1 | (dsimp only; walk1) | (leave1; walk_say "STEP leave1"; try dsimp only) | fail "no step"))


/-- after a call: what stood stands -/
local macro_rules | `(tactic| walk_at "mine: back") => `(tactic| (intro t9 h9 tk9 hk9; (with_reducible rename Fr _ _ _ _ => kF9); (with_reducible rename News _ _ _ _ => kN9); (have F9 := Fr.keeps kF9 hk9); (have N9 := News.grown kN9 hk9); clear kF9 kN9 hk9; (try dsimp only)))
local macro_rules | `(tactic| walk_at "call ref") => `(tactic| (k_here; k_dflt (refine' times_call ?k1 ?k2 ?k3 ?k4 ?k5 ?k6 ?k7 ?k8 ?_; (case k1 => k_asm); (case k2 => k_asm); (case k3 => k_asm); (case k4 => k_asm); (case k5 => exact rfl); (case k6 => ktr_room); (case k7 => assumption); (case k8 => assumption); walk_at "mine: back")))
local macro_rules | `(tactic| walk_at "mine: list") => `(tactic| first | assumption | exact Heap.IsList.at (by assumption) (fun o e => Fr.keep (by k_asm) _ o e) | exact ⟨_, News.get (by k_asm) (by k_mem), rfl, _, rfl⟩)
local macro_rules | `(tactic| walk_at "mine: tup") => `(tactic| first | assumption | exact IsTup.keeps (by assumption) (Fr.keep (by k_asm)) | exact kun_topT (by k_asm) (by k_asm) (by k_is) | exact ⟨_, News.get (by k_asm) (by k_mem), rfl, _, rfl⟩)
local macro_rules | `(tactic| walk_at "mine: backL") => `(tactic| (intro D9 t9 u9 h9 tk9 hk9 hn9 ho9; (with_reducible rename Fr _ _ _ _ => kF9); (with_reducible rename News _ _ _ _ => kN9); (have F9 := Fr.keeps kF9 hk9); (have N9 := News.more F9 (News.grown kN9 hk9) ho9 (fun _ _ q => by cases q) (by cases hq : Heap.get? _ D9 with | none => rfl | some o => exact absurd (hn9.symm.trans (kF9.keep _ _ hq)) (by simp))); (have ne9 := allNe_of kN9 hn9); (simp only [AllNe, and_true] at ne9); clear kF9 kN9 hk9 hn9 ho9; (try dsimp only)))
local macro_rules | `(tactic| walk_at "mine: rest") => `(tactic| ((case k1 => k_asm); (case k2 => k_asm); (case k3 => k_asm); (case k4 => k_asm); (case k5 => exact rfl); (case k6 => ktr_room); (case k7 => walk_at "mine: list"); (case j1 => walk_at "mine: tup"); (case j4 => walk_at "mine: list"); (case j5 => assumption); (case k8 => first | assumption | decide); (case k9 => first | assumption | decide); (case j2 => first | assumption | decide); (case j3 => first | assumption | decide); (case j6 => assumption); walk_at "mine: backL"))
local macro_rules | `(tactic| walk_at "call ref") => `(tactic| (k_here; k_dflt (first
  | (refine' rest_call (q := (30, 30)) ?k1 ?k2 ?k3 ?k4 ?k5 ?k6 ?k7 ?k8 ?k9 ?j1 ?j2 ?j3 ?j4 ?j5 ?j6 ?_; walk_at "mine: rest")
  | (refine' rest_call (q := (27, 4)) ?k1 ?k2 ?k3 ?k4 ?k5 ?k6 ?k7 ?k8 ?k9 ?j1 ?j2 ?j3 ?j4 ?j5 ?j6 ?_; walk_at "mine: rest")
  | (refine' rest_call (q := (24, 14)) ?k1 ?k2 ?k3 ?k4 ?k5 ?k6 ?k7 ?k8 ?k9 ?j1 ?j2 ?j3 ?j4 ?j5 ?j6 ?_; walk_at "mine: rest"))))
local macro_rules | `(tactic| walk_at "mine: units") => `(tactic| first | assumption | ((simp only [units_in1, units_deeper, Around.mark_units, units_caller]); (try dsimp only [ktrTop]); omega))
local macro_rules | `(tactic| walk_at "compareOp NotEq ref ref") => `(tactic| (k_here; k_dflt (refine' ne_intsK ?k1 ?k2 ?k3 ?k4 ?k5 ?_; (case k1 => walk_at "mine: list"); (case k2 => l_ints); (case k3 => walk_at "mine: list"); (case k4 => l_ints); (case k5 => walk_at "mine: units"))))
local macro_rules | `(tactic| walk_at "mine: backM") => `(tactic| (intro D9 us9 n9 h9 tk9 hk9 hn9 ho9 hi9; (with_reducible rename Fr _ _ _ _ => kF9); (with_reducible rename News _ _ _ _ => kN9); (have F9 := Fr.keeps kF9 hk9); (have N9 := News.more F9 (News.grown kN9 hk9) ho9 (fun _ _ q => by cases q) (by cases hq : Heap.get? _ D9 with | none => rfl | some o => exact absurd (hn9.symm.trans (kF9.keep _ _ hq)) (by simp))); (have ne9 := allNe_of kN9 hn9); (simp only [AllNe, and_true] at ne9); clear kF9 kN9 hk9 hn9 ho9; (try dsimp only)))
local macro_rules | `(tactic| walk_at "call ref") => `(tactic| (k_here; k_dflt (refine' expand_call ?k1 ?k2 ?k3 ?k4 ?k5 ?k6 ?k7 ?k8 ?k9 ?_; (case k1 => k_asm); (case k2 => k_asm); (case k3 => k_asm); (case k4 => k_asm); (case k5 => exact rfl); (case k6 => ktr_room); (case k7 => walk_at "mine: units"); (case k8 => assumption); (case k9 => assumption); walk_at "mine: backM")))
local macro_rules | `(tactic| walk_at "mine: ints") => `(tactic| first | assumption | ((simp only [List.map_append, List.map_cons, List.map_nil] at *); first | assumption | l_ints))
theorem int_eq_one (n : Nat) : ((n : Int) == 1) = decide (n = 1) := by
  rw [Bool.eq_iff_iff, beq_iff_eq, decide_eq_true_iff]; omega
set_option maxHeartbeats 400000 in
theorem verify_call {w : World} {mean : ExcName → Option Value} {mg mb : Str → Option Value} {dp un : Nat} {gd : Option (List Code)} {cn : Str} {cs : Scope} {L a : Addr} {ccd : Value} {cl : List (Str × Addr)} {outer : List Env} {A₀ : Around} {base h₀ : Heap} {m : Str → Option Value} {s : Shared} {Q E : Value → Shared → Prop}
    (B : Below A₀ base outer h₀) (F : Fr h₀ L s.heap m) (X : (hd.heap_39 w.params).In h₀) (T : Top hd.view_39 (looseW hd.view_39 []) mean mg mb h₀) (hk : cs.kind = .function) (hdp : dp + 3 < recursionLimit) (hun : un + 200 < cLine)
    {co ds : List Nat} {tx : Tok} {ld : Addr} {vs : List Value} (hn : ∀ c ∈ co, c < 128) (hlen : co.length < 1000) (hl : s.heap.IsList ld vs.toArray) (hi : IntsAre vs (ds.map Int.ofNat)) (hdl : ds.length < 1000)
    (ret : ∀ h' tk', Kept s.heap h' → Q (.bool (decide (poly (co.map (· >>> 5) ++ [0] ++ co.map (· &&& 31) ++ ds) = 1))) { s with heap := h', toks := tk' }) :
    wpAny (model PySem.Challenge.rw_fw0002_01.row.prog w) (ktrTop dp un gd cn cs L a ccd cl outer) (call (.ref 33) [.str ⟨co.toArray⟩ tx, .ref ld]) Q E s := by
  have ret' : ∀ b : Bool, b = decide (poly (co.map (· >>> 5) ++ [0] ++ co.map (· &&& 31) ++ ds) = 1) → ∀ h' tk', Kept s.heap h' → Q (.bool b) { s with heap := h', toks := tk' } := by rintro b rfl; exact ret
  revert X; k_fill; intro X
  refine enter (binds := [(Str.ofString "hrp", .str ⟨co.toArray⟩ tx), (Str.ofString "data", .ref ld)]) B F X T rfl rfl hk (by k_is) (by k_is) (by ktr_room) (BindsTo.of_eq rfl) (locs rfl) ?_ rfl rfl rfl ?dd
  (case dd => decide)
  intro g L' h₁ hg F' N' B' X' T'
  subst hg
  (try dsimp only)
  k_fold
  walk_at "mine: up to a loop"
  rename_i D9 us9 n9 h9 tk9 hi9 D8 c8 h8 l8 D7 ws7 h7 F7 N7 I7 l7
  have I6 : IntsAre ws7 ((co.map (· >>> 5) ++ [0] ++ co.map (· &&& 31) ++ ds).map Int.ofNat) := by rw [List.map_append (l₂ := ds)]; exact I7
  refine polymod_call (by k_asm) (by k_asm) (by k_asm) (by k_asm) rfl (by ktr_room) ⟨_, News.get N7 (.head _), rfl, _, rfl⟩ I6 ?_
  walk_at "mine: back"
  walk_at "mine: up to a loop"
  rename Fr _ _ _ _ => kF
  exact (⟨kF.keep, ret' _ (int_eq_one _) _ _ kF.keep⟩ : Back s.heap Q _ _)

end Mine
namespace Mine
open PySem PySem.W PyProof.Rows PySem.Calls
/-- the walk, up to a loop -/
local macro_rules | `(tactic| walk_at "mine: stop") => `(tactic| first
  | (with_reducible show wpAny _ _ (exec (Stmt.For _ _ _ _ _) _) _ _ _)
  | (with_reducible show wpAny _ _ (pyIter _) _ _ _)
  | (with_reducible show InvPostN _ _ _ _ _ _ _ _ _)
  | (with_reducible show InvEndN _ _ _ _ _ _ _)
  | (with_reducible show InvPost _ _ _ _ _ _ _ _)
  | (with_reducible show InvEnd _ _ _ _ _ _)
  | (with_reducible show Back _ _ _ _)
  | (with_reducible show EltEnd _ _ _ _ _ _ _ _)
  | (with_reducible show TextSrc _ _ _ _ _ _ _ _ _ _ _ _ _ _)
  | (with_reducible show LCg.CompSrc _ _ _ _ _ _ _ _ _ _ _ _ _ _)
  | (with_reducible show wpAny _ _ (eval (Expr.ListComp _ _ _ _) _) _ _ _))
local macro_rules | `(tactic| walk_at "mine: up to a loop") => `(tactic| repeat' ((fail_if_success (walk_at "mine: stop")); first | (k_unfold; (try dsimp only)) | (k_end; wrow_close) | walk1 | (dsimp only; walk1) | (leave1; walk_say "STEP leave1"; try dsimp only) | fail "no step"))


/-- after a call: what stood stands -/
local macro_rules | `(tactic| walk_at "mine: back") => `(tactic| (intro t9 h9 tk9 hk9; (with_reducible rename Fr _ _ _ _ => kF9); (with_reducible rename News _ _ _ _ => kN9); (have F9 := Fr.keeps kF9 hk9); (have N9 := News.grown kN9 hk9); clear kF9 kN9 hk9; (try dsimp only)))
local macro_rules | `(tactic| walk_at "call ref") => `(tactic| (k_here; k_dflt (refine' times_call ?k1 ?k2 ?k3 ?k4 ?k5 ?k6 ?k7 ?k8 ?_; (case k1 => k_asm); (case k2 => k_asm); (case k3 => k_asm); (case k4 => k_asm); (case k5 => exact rfl); (case k6 => ktr_room); (case k7 => assumption); (case k8 => assumption); walk_at "mine: back")))
local macro_rules | `(tactic| walk_at "mine: list") => `(tactic| first | assumption | exact Heap.IsList.at (by assumption) (fun o e => Fr.keep (by k_asm) _ o e) | exact ⟨_, News.get (by k_asm) (by k_mem), rfl, _, rfl⟩)
local macro_rules | `(tactic| walk_at "mine: tup") => `(tactic| first | assumption | exact IsTup.keeps (by assumption) (Fr.keep (by k_asm)) | exact kun_topT (by k_asm) (by k_asm) (by k_is) | exact ⟨_, News.get (by k_asm) (by k_mem), rfl, _, rfl⟩)
local macro_rules | `(tactic| walk_at "mine: backL") => `(tactic| (intro D9 t9 u9 h9 tk9 hk9 hn9 ho9; (with_reducible rename Fr _ _ _ _ => kF9); (with_reducible rename News _ _ _ _ => kN9); (have F9 := Fr.keeps kF9 hk9); (have N9 := News.more F9 (News.grown kN9 hk9) ho9 (fun _ _ q => by cases q) (by cases hq : Heap.get? _ D9 with | none => rfl | some o => exact absurd (hn9.symm.trans (kF9.keep _ _ hq)) (by simp))); (have ne9 := allNe_of kN9 hn9); (simp only [AllNe, and_true] at ne9); clear kF9 kN9 hk9 hn9 ho9; (try dsimp only)))
local macro_rules | `(tactic| walk_at "mine: rest") => `(tactic| ((case k1 => k_asm); (case k2 => k_asm); (case k3 => k_asm); (case k4 => k_asm); (case k5 => exact rfl); (case k6 => ktr_room); (case k7 => walk_at "mine: list"); (case j1 => walk_at "mine: tup"); (case j4 => walk_at "mine: list"); (case j5 => assumption); (case k8 => first | assumption | decide); (case k9 => first | assumption | decide); (case j2 => first | assumption | decide); (case j3 => first | assumption | decide); (case j6 => assumption); walk_at "mine: backL"))
local macro_rules | `(tactic| walk_at "call ref") => `(tactic| (k_here; k_dflt (first
  | (refine' rest_call (q := (30, 30)) ?k1 ?k2 ?k3 ?k4 ?k5 ?k6 ?k7 ?k8 ?k9 ?j1 ?j2 ?j3 ?j4 ?j5 ?j6 ?_; walk_at "mine: rest")
  | (refine' rest_call (q := (27, 4)) ?k1 ?k2 ?k3 ?k4 ?k5 ?k6 ?k7 ?k8 ?k9 ?j1 ?j2 ?j3 ?j4 ?j5 ?j6 ?_; walk_at "mine: rest")
  | (refine' rest_call (q := (24, 14)) ?k1 ?k2 ?k3 ?k4 ?k5 ?k6 ?k7 ?k8 ?k9 ?j1 ?j2 ?j3 ?j4 ?j5 ?j6 ?_; walk_at "mine: rest"))))
local macro_rules | `(tactic| walk_at "mine: units") => `(tactic| first | assumption | ((simp only [units_in1, units_deeper, Around.mark_units, units_caller]); (try dsimp only [ktrTop]); omega))
local macro_rules | `(tactic| walk_at "compareOp NotEq ref ref") => `(tactic| (k_here; k_dflt (refine' ne_intsK ?k1 ?k2 ?k3 ?k4 ?k5 ?_; (case k1 => walk_at "mine: list"); (case k2 => l_ints); (case k3 => walk_at "mine: list"); (case k4 => l_ints); (case k5 => walk_at "mine: units"))))
local macro_rules | `(tactic| walk_at "mine: backM") => `(tactic| (intro D9 us9 n9 h9 tk9 hk9 hn9 ho9 hi9; (with_reducible rename Fr _ _ _ _ => kF9); (with_reducible rename News _ _ _ _ => kN9); (have F9 := Fr.keeps kF9 hk9); (have N9 := News.more F9 (News.grown kN9 hk9) ho9 (fun _ _ q => by cases q) (by cases hq : Heap.get? _ D9 with | none => rfl | some o => exact absurd (hn9.symm.trans (kF9.keep _ _ hq)) (by simp))); (have ne9 := allNe_of kN9 hn9); (simp only [AllNe, and_true] at ne9); clear kF9 kN9 hk9 hn9 ho9; (try dsimp only)))
local macro_rules | `(tactic| walk_at "call ref") => `(tactic| (k_here; k_dflt (refine' expand_call ?k1 ?k2 ?k3 ?k4 ?k5 ?k6 ?k7 ?k8 ?k9 ?_; (case k1 => k_asm); (case k2 => k_asm); (case k3 => k_asm); (case k4 => k_asm); (case k5 => exact rfl); (case k6 => ktr_room); (case k7 => walk_at "mine: units"); (case k8 => assumption); (case k9 => assumption); walk_at "mine: backM")))
local macro_rules | `(tactic| walk_at "mine: ints") => `(tactic| first | assumption | ((simp only [List.map_append, List.map_cons, List.map_nil] at *); first | assumption | l_ints))
set_option maxHeartbeats 400000 in
theorem create_call {w : World} {mean : ExcName → Option Value} {mg mb : Str → Option Value} {dp un : Nat} {gd : Option (List Code)} {cn : Str} {cs : Scope} {L a : Addr} {ccd : Value} {cl : List (Str × Addr)} {outer : List Env} {A₀ : Around} {base h₀ : Heap} {m : Str → Option Value} {s : Shared} {Q E : Value → Shared → Prop}
    (B : Below A₀ base outer h₀) (F : Fr h₀ L s.heap m) (X : (hd.heap_39 w.params).In h₀) (T : Top hd.view_39 (looseW hd.view_39 []) mean mg mb h₀) (hk : cs.kind = .function) (hdp : dp + 3 < recursionLimit) (hun : un + 200 < cLine)
    {co ds : List Nat} {tx : Tok} {ld : Addr} {vs : List Value} (hn : ∀ c ∈ co, c < 128) (hlen : co.length < 1000) (hl : s.heap.IsList ld vs.toArray ∨ IsTup s.heap ld vs.toArray) (hi : IntsAre vs (ds.map Int.ofNat)) (hdl : ds.length < 1000)
    (ret : ∀ D us n h' tk', Kept s.heap h' → s.heap.get? D = none → h'.get? D = some (W.listOf (List.toArray us) n) → IntsAre us ((six (co.map (· >>> 5) ++ [0] ++ co.map (· &&& 31) ++ ds)).map Int.ofNat) → Q (.ref D) { s with heap := h', toks := tk' }) :
    wpAny (model PySem.Challenge.rw_fw0002_01.row.prog w) (ktrTop dp un gd cn cs L a ccd cl outer) (call (.ref 38) [.str ⟨co.toArray⟩ tx, .ref ld]) Q E s := by
  revert X; k_fill; intro X
  refine enterC (binds := [(Str.ofString "hrp", .str ⟨co.toArray⟩ tx), (Str.ofString "data", .ref ld)]) B F X T rfl rfl hk (by k_is) (by k_is) (by ktr_room) (BindsTo.of_eq rfl) rfl ?dd ?_ rfl rfl rfl
  (case dd => decide)
  intro g L' h₁ tk cells hg F' N' Y' B' X' T'
  subst hg
  (try dsimp only)
  k_cells Y'
  k_unmd
  k_fold
  rcases hl with hl | hl
  all_goals
    walk_at "mine: up to a loop"
    rename News _ _ _ _ => N7
    rename IntsAre _ _ => I7
    refine polymod_call (ns := co.map (· >>> 5) ++ [0] ++ co.map (· &&& 31) ++ ds ++ [0, 0, 0, 0, 0, 0]) (by k_asm) (by k_asm) (by k_asm) (by k_asm) rfl (by ktr_room) ⟨_, News.get N7 (.head _), rfl, _, rfl⟩ (by rw [List.map_append, List.map_append (l₂ := ds)]; exact I7) ?_
    walk_at "mine: back"
    walk_at "mine: up to a loop"
    refine LCg.ListComp_U (F₀ := by k_asm) rfl (by decide) rfl (by decide) rfl ?_ (by intro _; rfl)
    walk_at "mine: up to a loop"
    (try dsimp only)
    refine LCg.CompSrc.range (n := 6) (by rfl) (by k_asm) (by k_asm) (by assumption) (by decide) (by decide) (by decide) ?_
    intro g
    have hz6 : (6 : Nat) = ((six (co.map (· >>> 5) ++ [0] ++ co.map (· &&& 31) ++ ds)).map Int.ofNat).length := rfl
    rw [hz6]
    generalize hzs : (six (co.map (· >>> 5) ++ [0] ++ co.map (· &&& 31) ++ ds)).map Int.ofNat = zs at ret ⊢
    refine rest_ints trivial _ ?_ ?_
    · intro i z v I oI C oC D m₂ ys h tk E' hz hP hC hx F' N'
      obtain ⟨t, rfl⟩ := hP
      have hi6 : i < 6 := by
        have := (List.getElem?_eq_some_iff.mp hz).1
        rw [← hzs] at this
        exact this
      rw [← hzs] at hz
      clear ret
      obtain rfl | rfl | rfl | rfl | rfl | rfl : i = 0 ∨ i = 1 ∨ i = 2 ∨ i = 3 ∨ i = 4 ∨ i = 5 := by omega
      all_goals
        obtain rfl := Option.some.inj hz
        walk_at "mine: up to a loop"
        exact EltEnd.intro (by k_asm) (by k_asm) (fun _ hp => hp) ⟨_, congrArg (fun x => Value.int x _) (dig_val _ _ _ rfl)⟩
    · intro ys hy D h tk F' N' o1
      have hly := IntsAre.length hy
      (try dsimp only)
      walk_at "mine: up to a loop"
      exact (⟨F'.keep, ret D ys _ _ _ F'.keep (N' _ (.head _)).2.2 (N' _ (.head _)).1 hy⟩ : Back s.heap Q _ _)

end Mine
namespace Mine
open PySem PySem.W PyProof.Rows PySem.Calls
section
variable {prog : Program} {w : World} {A : Around} {E : Value → Shared → Prop} {s : Shared} {h₀ : Heap} {L : Addr} {m : Str → Option Value} {env : Env}
/-- a block whose turns make nothing that stays but an int of a kind -/
theorem rest_any {elt : Expr} {x : Str} {scope : Scope} {cl : List (Str × Addr)} {S : List (Addr × Obj) → Prop} {P : Nat → Value → Prop} {Fin : List Value → List (Addr × Obj) → Prop} {news : List (Addr × Obj)} (hS : S news) (n : Nat) (G : Nat → Prop)
    (turn : ∀ i v I oI C oC D m₂ ys h tk (E' : Value → Shared → Prop), i < n → P i v → LCg.NsObj oC m₂ → m₂ x = some v → Fr h₀ L h m → News h₀ L h ((I, oI) :: (C, oC) :: (D, LCg.lst ys) :: news) →
      wpAny (model prog w) A (eval elt (compEnvC scope cl C env)) (EltEnd h₀ L m { s with heap := h, toks := tk } ((I, oI) :: (C, oC) :: (D, LCg.lst ys) :: news) (fun y => ∃ (z : Nat) (t : Tok), y = .int (z : Int) t ∧ G z)) E' { s with heap := h, toks := tk })
    (fin : ∀ ys (zs : List Nat), zs.length = n → (∀ z ∈ zs, G z) → IntsAre ys (zs.map Int.ofNat) → Fin ys news) : LCg.CompRest prog w A h₀ L m env elt x scope cl s S P Fin n 0 [] news := by
  have key : ∀ (j i : Nat) (ys : List Value) (zs : List Nat), i + j = n → zs.length = i → (∀ z ∈ zs, G z) → IntsAre ys (zs.map Int.ofNat) → LCg.CompRest prog w A h₀ L m env elt x scope cl s S P Fin j i ys news := by
    intro j
    induction j with
    | zero =>
      intro i ys zs hi hl hg hy
      exact LCg.CompRest.zero (fin ys zs (by omega) hg hy)
    | succ j ih =>
      intro i ys zs hi hl hg hy
      refine LCg.CompRest.succ ?_
      intro v I oI C oC D m₂ h tk E' hv hC hx F N off ne
      refine wpAny_mono (turn i v I oI C oC D m₂ ys h tk E' (by omega) hv hC hx F N) (fun y s₂ hq => ?_) fun _ _ e => e
      obtain ⟨h', tk', e, F', N', z, t', hy', hz⟩ := hq
      refine ⟨h', tk', news, e, F', N', off, hS, ?_⟩
      rw [hy']
      refine ih (i + 1) _ (zs ++ [z]) (by omega) (by simp [hl]) (fun q hq => ?_) ?_
      · rcases List.mem_append.mp hq with h | h
        · exact hg q h
        · rw [List.mem_singleton.mp h]; exact hz
      · rw [List.map_append]
        exact IntsAre.append hy (.cons _ t' .nil)
  exact key n 0 [] [] (by omega) rfl (fun _ h => nomatch h) .nil
end
theorem elt_zG {α : Type} {l : List α} {f : α → Nat} {i : Nat} {c : α} {z : Int} (h1 : ((l.map f).map Int.ofNat)[i]? = some z) (h2 : l[i]? = some c) : z = ((f c : Nat) : Int) := by
  simp only [List.getElem?_map, h2, Option.map_some, Option.some.injEq] at h1
  exact h1.symm
/-- an item of a list of the ints, by its place -/
theorem ints_at {vs : List Value} {ns : List Nat} (hi : IntsAre vs (ns.map Int.ofNat)) {i : Nat} {v : Value} (h : vs[i]? = some v) : ∃ (n : Nat) (t : Tok), v = .int (n : Int) t ∧ ns[i]? = some n := by
  obtain ⟨k, t, e, hk⟩ := IntsAre.at hi i v h
  simp only [List.getElem?_map, Option.map_eq_some_iff] at hk
  obtain ⟨n, h1, h2⟩ := hk
  exact ⟨n, t, by rw [e, ← h2]; rfl, h1⟩
theorem mod_elt (z : Int) : z.fmod 9973 = (((z.fmod 9973).toNat : Nat) : Int) ∧ (z.fmod 9973).toNat < 9973 := by
  rw [Int.fmod_eq_emod_of_nonneg _ (by decide)]
  have h1 := Int.emod_nonneg z (show (9973 : Int) ≠ 0 by decide)
  have h2 := Int.emod_lt_of_pos z (show (0 : Int) < 9973 by decide)
  omega
theorem idx_row (R : List Nat) (i k : Nat) : (0 + (i : Int) + ((k : Nat) : Int)).fmod ((R.map Int.ofNat).length : Int) = (((i + k) % R.length : Nat) : Int) := by
  rw [List.length_map, show (0 + (i : Int) + ((k : Nat) : Int)) = ((i + k : Nat) : Int) by omega, fmod_nat]
theorem row_val {R : List Nat} (hR : ∀ z ∈ R, z < 9973) (j : Nat) : ∃ r : Nat, (R.map Int.ofNat).getD ((j : Int).toNat) 0 = (r : Int) ∧ r < 9973 := by
  refine ⟨R.getD j 0, by rw [getD_cast, Int.toNat_natCast], ?_⟩
  rw [List.getD_eq_getElem?_getD]
  cases h : R[j]? with
  | none => decide
  | some x => exact hR x (List.mem_of_getElem? h)
theorem first_val (r i : Nat) : ∃ z : Nat, (if 65 ≤ 33 + ((r : Int) + 11 * (0 + (i : Int))).fmod 94 ∧ 33 + ((r : Int) + 11 * (0 + (i : Int))).fmod 94 ≤ 90 then 33 + ((r : Int) + 11 * (0 + (i : Int))).fmod 94 + 32 else 33 + ((r : Int) + 11 * (0 + (i : Int))).fmod 94) = (z : Int) ∧ 33 ≤ z ∧ z < 127 := by
  rw [Int.fmod_eq_emod_of_nonneg _ (by decide)]
  refine ⟨_, (Int.toNat_of_nonneg (a := _) ?_).symm, ?_, ?_⟩ <;> split <;> omega
theorem second_val (c : Nat) (h1 : 33 ≤ c) (h2 : c < 127) : ∃ z : Nat, (if 65 ≤ 159 - (c : Int) ∧ 159 - (c : Int) ≤ 90 then 159 - (c : Int) + 32 else 159 - (c : Int)) = (z : Int) ∧ 33 ≤ z ∧ z < 127 := by
  refine ⟨_, (Int.toNat_of_nonneg (a := _) ?_).symm, ?_, ?_⟩ <;> split <;> omega
theorem fives_val {ys : List Value} {R : List Nat} {n : Nat} (hn : n ≤ 12) (h : IntsAre ys (List.map (fun k' : Int => (k'.fdiv 3).fmod 32) (List.take n (List.drop 1 (List.map Int.ofNat R))))) :
    ∃ fl : List Nat, fl.length ≤ 12 ∧ (∀ z ∈ fl, z < 32) ∧ IntsAre ys (fl.map Int.ofNat) := by
  refine ⟨((R.drop 1).take n).map fun k => k / 3 % 32, ?_, ?_, ?_⟩
  · rw [List.length_map, List.length_take]; omega
  · intro z hz
    obtain ⟨k, _, rfl⟩ := List.mem_map.mp hz
    exact Nat.mod_lt _ (by decide)
  · rw [← List.map_drop, ← List.map_take, List.map_map] at h
    rw [List.map_map]
    have e : ((fun k' : Int => (k'.fdiv 3).fmod 32) ∘ Int.ofNat) = (Int.ofNat ∘ fun k => k / 3 % 32) := by
      funext k
      show ((k : Int).fdiv ((3 : Nat) : Int)).fmod ((32 : Nat) : Int) = ((k / 3 % 32 : Nat) : Int)
      rw [fdiv_nat', fmod_nat]
    rw [← e]; exact h
theorem mask_val {R : List Nat} : ∃ mk : Nat, (((R.map Int.ofNat).getD (Int.toNat 0) 0).fdiv 12).fmod 64 = (mk : Int) ∧ mk < 64 := by
  refine ⟨R.getD 0 0 / 12 % 64, ?_, Nat.mod_lt _ (by decide)⟩
  rw [getD_cast, show (12 : Int) = ((12 : Nat) : Int) from rfl, show (64 : Int) = ((64 : Nat) : Int) from rfl, fdiv_nat', fmod_nat]
  rfl
theorem twos_val (i : Nat) (hi : i < 6) : ∃ q : Nat, ([1, 2, 4, 8, 16, 32] : List Int).getD (0 + (i : Int)).toNat 0 = (q : Int) ∧ 1 ≤ q := by
  obtain rfl | rfl | rfl | rfl | rfl | rfl : i = 0 ∨ i = 1 ∨ i = 2 ∨ i = 3 ∨ i = 4 ∨ i = 5 := by omega
  · exact ⟨1, rfl, by decide⟩
  · exact ⟨2, rfl, by decide⟩
  · exact ⟨4, rfl, by decide⟩
  · exact ⟨8, rfl, by decide⟩
  · exact ⟨16, rfl, by decide⟩
  · exact ⟨32, rfl, by decide⟩
theorem turn_val (r : Nat) : ∃ z : Nat, 1 + ((r : Int).fdiv 5).fmod 31 = (z : Int) ∧ z < 32 := by
  refine ⟨1 + r / 5 % 31, ?_, by omega⟩
  rw [show (5 : Int) = ((5 : Nat) : Int) from rfl, show (31 : Int) = ((31 : Nat) : Int) from rfl, fdiv_nat', fmod_nat]
  rfl
theorem AllLt_mem {d a : Addr} {o : Obj} : ∀ {l : List (Addr × Obj)}, AllLt d l → (a, o) ∈ l → @LT.lt Nat _ a d
  | [], _, h => nomatch h
  | _ :: _, x, h => by
    rcases List.mem_cons.mp h with h | h
    · subst h; exact x.1
    · exact AllLt_mem x.2 h
theorem Off1_mem {d a : Addr} {o : Obj} : ∀ {l : List (Addr × Obj)}, LCg.Off1 d l → (a, o) ∈ l → @Ne Nat a d
  | [], _, h => nomatch h
  | _ :: _, x, h => by
    rcases List.mem_cons.mp h with h | h
    · subst h; exact x.1
    · exact Off1_mem x.2 h
theorem AllNe_mem {d a : Addr} {o : Obj} : ∀ {l : List (Addr × Obj)}, AllNe d l → (a, o) ∈ l → @Ne Nat a d
  | [], _, h => nomatch h
  | _ :: _, x, h => by
    rcases List.mem_cons.mp h with h | h
    · subst h; exact x.1
    · exact AllNe_mem x.2 h
theorem end5 {h₀ : Heap} {L : Addr} {h : Heap} {y1 y2 y3 y4 y5 : Str} {v1 v2 v3 v4 v5 : Value} {m : Str → Option Value} (F : Fr h₀ L h m) (e1 : m y1 = some v1) (e2 : m y2 = some v2) (e3 : m y3 = some v3) (e4 : m y4 = some v4) (e5 : m y5 = some v5) :
    Fr h₀ L h (fun z => if z = y1 then some v1 else if z = y2 then some v2 else if z = y3 then some v3 else if z = y4 then some v4 else if z = y5 then some v5 else m z) := fr_eq F fun z => by rw [← un1 e5 z, ← un1 e4 z, ← un1 e3 z, ← un1 e2 z, ← un1 e1 z]

end Mine
namespace Mine
open PySem PySem.W PyProof.Rows PySem.Calls
section
variable {prog : Program} {w : World} {A : Around} {E : Value → Shared → Prop} {s : Shared} {env : Env} {h₀ : Heap} {x : Str} {body : List Stmt} {Q : Flow → Shared → Prop}
theorem iter_lstJ {ax : Addr} {lo : Obj} {vs : List Value} {n : Nat} {m₀ : Str → Option Value} {news : List (Addr × Obj)} (J : Nat → (Str → Option Value) → List (Addr × Obj) → Prop)
    (hh : A.handled = none) (F : Fr h₀ env.locals s.heap m₀) (N : News h₀ env.locals s.heap news) (hm : (ax, lo) ∈ news) (hc : lo.cls = .type "list") (hd : lo.data = .seq vs.toArray n) (h0 : J 0 m₀ news)
    (turn : ∀ i v m₁ nx I oI h tk, vs[i]? = some v → (ax, lo) ∈ nx → J i m₁ nx → (∀ p ∈ nx, p.1 ≠ I) → Fr h₀ env.locals h (fun y => if y = x then some v else m₁ y) → News h₀ env.locals h ((I, oI) :: nx) →
      wpAny (model prog w) A (execs body env) (UnrPost h₀ env.locals { s with heap := h, toks := tk } I oI (fun m' n' => (ax, lo) ∈ n' ∧ J (i + 1) m' n') Q) E { s with heap := h, toks := tk })
    (done : ∀ m₁ nx h tk, (ax, lo) ∈ nx → J vs.length m₁ nx → Fr h₀ env.locals h m₁ → News h₀ env.locals h nx → Q .next { s with heap := h, toks := tk }) :
    wpAny (model prog w) A (pyIter (.ref ax)) (fun it s₂ => LoopAtV prog w A h₀ env x body Q E it s₂) E s := by
  have hax := N _ hm
  have hl : s.heap.IsList ax vs.toArray := ⟨lo, hax.1, hc, n, hd⟩
  have hlt : ax < s.heap.objs.size := Heap.lt_size hax.1
  have hne : ax ≠ s.heap.objs.size := Nat.ne_of_lt hlt
  refine wpAny_pyIter_list hl ?_
  have W := Walks.list (prog := prog) (w := w) hh s.heap.objs.size ax hne vs.toArray
  have hnew := next_is_new F
  have hlen : vs.toArray.size = vs.length := by simp
  rw [hlen] at W
  let J' : Nat → (Str → Option Value) → List (Addr × Obj) → Prop := fun i m₁ news₁ => (ax, lo) ∈ news₁ ∧ J i m₁ news₁
  refine ⟨_, _, _, vs.length, _, _, m₀, news, J', rfl, W, ?_, ?_, ?_, ⟨⟨_, Heap.get?_push_size _ rfl, rfl, rfl⟩, hl.at fun o e => Heap.get?_push_of_some _ e⟩, F.push _, (fun p hp => ⟨Heap.get?_push_of_some _ (N p hp).1, (N p hp).2⟩), ⟨hm, h0⟩, ?_, ?_⟩
  · intro hmm
    rcases List.mem_cons.mp hmm with e | hmm
    · exact absurd F.ns.lt (e ▸ Nat.lt_irrefl _)
    · exact hax.2.1 (List.mem_singleton.mp hmm).symm
  · intro b hb
    rw [List.mem_singleton.mp hb]
    exact hnew
  · intro p hp hI
    exact absurd (Heap.lt_size (N p hp).1) ((List.mem_singleton.mp hI) ▸ Nat.lt_irrefl _)
  · rintro i v m₁ news₁ s₁ own ⟨hh', tk', rfl⟩ hin hP ⟨hmem₁, hJ⟩ hoff hown hget hall hst F₁ N₁
    obtain ⟨it, hit, hic, hid⟩ := hst.1
    have hmemI := hall s.heap.objs.size (List.mem_cons_self ..) hnew _ hit
    have hv : vs[i]? = some v := by simpa using hP
    have N₂ : News h₀ env.locals hh' ((s.heap.objs.size, it) :: news₁) := fun p hp => by
      rcases List.mem_cons.mp hp with rfl | hp
      · exact N₁ _ (List.mem_append_left _ hmemI)
      · exact N₁ _ (List.mem_append_right _ hp)
    refine wpAny_mono (turn i v m₁ news₁ s.heap.objs.size it hh' tk' hv hmem₁ hJ (fun p hp e => hoff p hp (by rw [e]; exact List.mem_singleton.mpr rfl)) F₁ N₂) (fun f s₂ p => ?_) fun _ _ e => e
    have fin : UnrEnd h₀ env.locals { s with heap := hh', toks := tk' } s.heap.objs.size it (fun m' n' => (ax, lo) ∈ n' ∧ J (i + 1) m' n') s₂ →
        LoopStepU h₀ env.locals [s.heap.objs.size] own (J' (i + 1)) { s with heap := hh', toks := tk' } .next s₂ := by
      rintro ⟨h', tk, m', news', e, F', N', ho, hmm, r⟩
      refine ⟨rfl, h', tk, m', news', e, F', fun p hp => ?_, fun p hp hI => ho p hp (List.mem_singleton.mp hI), hmm, r⟩
      rcases List.mem_append.mp hp with hp | hp
      · have h2 : hh'.get? p.1 = some p.2 := hget p hp
        rcases List.mem_cons.mp (hown p hp) with h1 | h1
        · have h3 : p = (s.heap.objs.size, it) := by
            rw [h1, hit] at h2
            exact Prod.ext h1 (Option.some.inj h2).symm
          rw [h3]; exact N' _ (List.mem_cons_self ..)
        · have h1' : p.1 = ax := List.mem_singleton.mp h1
          have h3 : p = (ax, lo) := by
            rw [h1', (N₁ _ (List.mem_append_right _ hmem₁)).1] at h2
            exact Prod.ext h1' (Option.some.inj h2).symm
          rw [h3]; exact N' _ (List.mem_cons_of_mem _ hmm)
      · exact N' _ (List.mem_cons_of_mem _ hp)
    cases f with
    | ret v => exact .ret p
    | brk => exact .brk p
    | next => exact .next (fin p)
    | cont => exact .cont (fin p)
  · rintro h' tk m' news' F' N' _ ⟨hmm, hJ⟩
    exact done m' news' h' tk hmm hJ F' N'
theorem iter_tupJ {ax : Addr} {lo : Obj} {vs : List Value} {n : Nat} {m₀ : Str → Option Value} {news : List (Addr × Obj)} (J : Nat → (Str → Option Value) → List (Addr × Obj) → Prop)
    (hh : A.handled = none) (F : Fr h₀ env.locals s.heap m₀) (N : News h₀ env.locals s.heap news) (hm : (ax, lo) ∈ news) (hc : lo.cls = .type "tuple") (hd : lo.data = .seq vs.toArray n) (h0 : J 0 m₀ news)
    (turn : ∀ i v m₁ nx I oI h tk, vs[i]? = some v → (ax, lo) ∈ nx → J i m₁ nx → (∀ p ∈ nx, p.1 ≠ I) → Fr h₀ env.locals h (fun y => if y = x then some v else m₁ y) → News h₀ env.locals h ((I, oI) :: nx) →
      wpAny (model prog w) A (execs body env) (UnrPost h₀ env.locals { s with heap := h, toks := tk } I oI (fun m' n' => (ax, lo) ∈ n' ∧ J (i + 1) m' n') Q) E { s with heap := h, toks := tk })
    (done : ∀ m₁ nx h tk, (ax, lo) ∈ nx → J vs.length m₁ nx → Fr h₀ env.locals h m₁ → News h₀ env.locals h nx → Q .next { s with heap := h, toks := tk }) :
    wpAny (model prog w) A (pyIter (.ref ax)) (fun it s₂ => LoopAtV prog w A h₀ env x body Q E it s₂) E s := by
  have hax := N _ hm
  have hl : s.heap.IsTuple ax vs.toArray := ⟨lo, hax.1, hc, n, hd⟩
  have hlt : ax < s.heap.objs.size := Heap.lt_size hax.1
  have hne : ax ≠ s.heap.objs.size := Nat.ne_of_lt hlt
  refine wpAny_pyIter_tuple hl ?_
  have W := Walks.tuple (prog := prog) (w := w) hh s.heap.objs.size ax hne vs.toArray
  have hnew := next_is_new F
  have hlen : vs.toArray.size = vs.length := by simp
  rw [hlen] at W
  let J' : Nat → (Str → Option Value) → List (Addr × Obj) → Prop := fun i m₁ news₁ => (ax, lo) ∈ news₁ ∧ J i m₁ news₁
  refine ⟨_, _, _, vs.length, _, _, m₀, news, J', rfl, W, ?_, ?_, ?_, ⟨⟨_, Heap.get?_push_size _ rfl, rfl, rfl⟩, hl.at fun o e => Heap.get?_push_of_some _ e⟩, F.push _, (fun p hp => ⟨Heap.get?_push_of_some _ (N p hp).1, (N p hp).2⟩), ⟨hm, h0⟩, ?_, ?_⟩
  · intro hmm
    rcases List.mem_cons.mp hmm with e | hmm
    · exact absurd F.ns.lt (e ▸ Nat.lt_irrefl _)
    · exact hax.2.1 (List.mem_singleton.mp hmm).symm
  · intro b hb
    rw [List.mem_singleton.mp hb]
    exact hnew
  · intro p hp hI
    exact absurd (Heap.lt_size (N p hp).1) ((List.mem_singleton.mp hI) ▸ Nat.lt_irrefl _)
  · rintro i v m₁ news₁ s₁ own ⟨hh', tk', rfl⟩ hin hP ⟨hmem₁, hJ⟩ hoff hown hget hall hst F₁ N₁
    obtain ⟨it, hit, hic, hid⟩ := hst.1
    have hmemI := hall s.heap.objs.size (List.mem_cons_self ..) hnew _ hit
    have hv : vs[i]? = some v := by simpa using hP
    have N₂ : News h₀ env.locals hh' ((s.heap.objs.size, it) :: news₁) := fun p hp => by
      rcases List.mem_cons.mp hp with rfl | hp
      · exact N₁ _ (List.mem_append_left _ hmemI)
      · exact N₁ _ (List.mem_append_right _ hp)
    refine wpAny_mono (turn i v m₁ news₁ s.heap.objs.size it hh' tk' hv hmem₁ hJ (fun p hp e => hoff p hp (by rw [e]; exact List.mem_singleton.mpr rfl)) F₁ N₂) (fun f s₂ p => ?_) fun _ _ e => e
    have fin : UnrEnd h₀ env.locals { s with heap := hh', toks := tk' } s.heap.objs.size it (fun m' n' => (ax, lo) ∈ n' ∧ J (i + 1) m' n') s₂ →
        LoopStepU h₀ env.locals [s.heap.objs.size] own (J' (i + 1)) { s with heap := hh', toks := tk' } .next s₂ := by
      rintro ⟨h', tk, m', news', e, F', N', ho, hmm, r⟩
      refine ⟨rfl, h', tk, m', news', e, F', fun p hp => ?_, fun p hp hI => ho p hp (List.mem_singleton.mp hI), hmm, r⟩
      rcases List.mem_append.mp hp with hp | hp
      · have h2 : hh'.get? p.1 = some p.2 := hget p hp
        rcases List.mem_cons.mp (hown p hp) with h1 | h1
        · have h3 : p = (s.heap.objs.size, it) := by
            rw [h1, hit] at h2
            exact Prod.ext h1 (Option.some.inj h2).symm
          rw [h3]; exact N' _ (List.mem_cons_self ..)
        · have h1' : p.1 = ax := List.mem_singleton.mp h1
          have h3 : p = (ax, lo) := by
            rw [h1', (N₁ _ (List.mem_append_right _ hmem₁)).1] at h2
            exact Prod.ext h1' (Option.some.inj h2).symm
          rw [h3]; exact N' _ (List.mem_cons_of_mem _ hmm)
      · exact N' _ (List.mem_cons_of_mem _ hp)
    cases f with
    | ret v => exact .ret p
    | brk => exact .brk p
    | next => exact .next (fin p)
    | cont => exact .cont (fin p)
  · rintro h' tk m' news' F' N' _ ⟨hmm, hJ⟩
    exact done m' news' h' tk hmm hJ F' N'
end
/-- the row of a front and its fives -/
def rowOf (co ds : List Nat) : List Nat := co.map (· >>> 5) ++ [0] ++ co.map (· &&& 31) ++ ds
/-- the tuple of a text and its six -/
def keptO (co : List Nat) (t : Tok) (S : Addr) : Obj := { cls := .type "tuple", data := .seq #[.str ⟨co.toArray⟩ t, .ref S] }
/-- between the law's two turns -/
def LawJ (L Dk D3 Ds Df D2 D1 Dt : Addr) (y3 ys y2 y1 : List Value) (csn : Nat) (c3o : Obj) (f1 fl : List Nat) (i : Nat) (m : Str → Option Value) (nx : List (Addr × Obj)) : Prop :=
  m (Str.ofString "kept") = some (.ref Dk) ∧ m (Str.ofString "same") = some (.ref Ds) ∧ m (Str.ofString "fives") = some (.ref Df) ∧
  ∃ (xs : List Value) (nk : Nat) (oh os : Obj) (ext : List (Addr × Obj)),
    nx = (Dk, W.listOf xs.toArray nk) :: (D3, LCg.lst y3) :: (Ds, W.listOf ys.toArray csn) :: (Df, LCg.lst ys) :: (D2, LCg.lst y2) :: (D1, LCg.lst y1) :: (L + 1 + 1 + 1 + 1 + 1, os) :: (L + 1 + 1 + 1 + 1, oh) :: (L + 1 + 1 + 1, c3o) ::
      (Dt, ({ cls := .type "tuple", data := .seq #[.ref D1, .ref D2] } : Obj)) :: ext ∧
    (∃ x, os.data = Data.cell x) ∧ (∃ x, oh.data = Data.cell x) ∧ xs.length = i ∧ (∀ p ∈ ext, p.1 ≠ Dk) ∧ (∀ p ∈ ext, p.1 ≠ L + 1 + 1 + 1 + 1 + 1) ∧ (∀ p ∈ ext, p.1 ≠ L + 1 + 1 + 1 + 1) ∧
    (0 < i → ∃ T S us nS t, xs[0]? = some (.ref T) ∧ (T, keptO f1 t S) ∈ ext ∧ (S, W.listOf (List.toArray us) nS) ∈ ext ∧ IntsAre us ((six (rowOf f1 fl)).map Int.ofNat))
theorem allNe_all {d : Addr} : ∀ {l : List (Addr × Obj)}, (∀ p ∈ l, p.1 ≠ d) → AllNe d l
  | [], _ => trivial
  | p :: _, h => ⟨h p (.head _), allNe_all fun q hq => h q (.tail _ hq)⟩
theorem AllNe_all {d : Addr} : ∀ {l : List (Addr × Obj)}, AllNe d l → ∀ p ∈ l, p.1 ≠ d
  | [], _, _, h => nomatch h
  | _ :: _, x, p, h => by
    rcases List.mem_cons.mp h with h | h
    · subst h; exact x.1
    · exact AllNe_all x.2 p h
theorem AllLt_all {d : Addr} : ∀ {l : List (Addr × Obj)}, AllLt d l → ∀ p ∈ l, p.1 ≠ d
  | [], _, _, h => nomatch h
  | _ :: _, x, p, h => by
    rcases List.mem_cons.mp h with h | h
    · subst h; exact Nat.ne_of_lt x.1
    · exact AllLt_all x.2 p h
section
variable {prog : Program} {w : World} {A : Around} {E : Value → Shared → Prop} {s : Shared} {h₀ : Heap} {L : Addr} {m : Str → Option Value} {env : Env}
/-- a block whose turns make a text each -/
theorem rest_txt {elt : Expr} {x : Str} {scope : Scope} {cl : List (Str × Addr)} {S : List (Addr × Obj) → Prop} {P : Nat → Value → Prop} {Fin : List Value → List (Addr × Obj) → Prop} {news : List (Addr × Obj)} (hS : S news) (zs : List Str)
    (turn : ∀ i z v I oI C oC D m₂ ys h tk (E' : Value → Shared → Prop), zs[i]? = some z → P i v → LCg.NsObj oC m₂ → m₂ x = some v → Fr h₀ L h m → News h₀ L h ((I, oI) :: (C, oC) :: (D, LCg.lst ys) :: news) →
      wpAny (model prog w) A (eval elt (compEnvC scope cl C env)) (EltEnd h₀ L m { s with heap := h, toks := tk } ((I, oI) :: (C, oC) :: (D, LCg.lst ys) :: news) (fun y => ∃ t, y = .str z t)) E' { s with heap := h, toks := tk })
    (fin : ∀ l : List (Str × Tok), l.map (·.1) = zs → Fin (strValues l) news) : LCg.CompRest prog w A h₀ L m env elt x scope cl s S P Fin zs.length 0 [] news := by
  have key : ∀ (j i : Nat) (l : List (Str × Tok)), i + j = zs.length → l.map (·.1) = zs.take i → LCg.CompRest prog w A h₀ L m env elt x scope cl s S P Fin j i (strValues l) news := by
    intro j
    induction j with
    | zero =>
      intro i l hi hy
      have e : i = zs.length := by omega
      subst e
      rw [List.take_length] at hy
      exact LCg.CompRest.zero (fin l hy)
    | succ j ih =>
      intro i l hi hy
      refine LCg.CompRest.succ ?_
      intro v I oI C oC D m₂ h tk E' hv hC hx F N off ne
      have hlt : i < zs.length := by omega
      refine wpAny_mono (turn i zs[i] v I oI C oC D m₂ (strValues l) h tk E' (List.getElem?_eq_getElem hlt) hv hC hx F N) (fun y s₂ hq => ?_) fun _ _ e => e
      obtain ⟨h', tk', e, F', N', t', hy'⟩ := hq
      refine ⟨h', tk', news, e, F', N', off, hS, ?_⟩
      rw [hy']
      have hsn : strValues l ++ [Value.str zs[i] t'] = strValues (l ++ [(zs[i], t')]) := by simp [strValues]
      show LCg.CompRest prog w A h₀ L m env elt x scope cl s S P Fin j (i + 1) (strValues l ++ [Value.str zs[i] t']) news
      rw [hsn]
      refine ih (i + 1) _ (by omega) ?_
      rw [List.take_add_one, List.getElem?_eq_getElem hlt, List.map_append, hy]
      rfl
  exact key zs.length 0 [] (by omega) (by rw [List.take_zero]; rfl)
theorem join_ones_eq : ∀ co : List Nat, Str.join (Str.ofString "") (co.map fun c => ⟨#[c]⟩) = ⟨co.toArray⟩
  | [] => rfl
  | [c] => rfl
  | a :: b :: r => by
    show (⟨#[a]⟩ : Str) ++ Str.ofString "" ++ Str.join (Str.ofString "") ((b :: r).map fun c => ⟨#[c]⟩) = _
    rw [join_ones_eq (b :: r)]
    refine congrArg Str.mk ?_
    show (#[a] ++ (Str.ofString "").cps) ++ (b :: r).toArray = (a :: b :: r).toArray
    rw [show (Str.ofString "").cps = #[] from by decide +kernel]
    simp
theorem fold_ones : ∀ (co : List Nat) (n : Nat), (co.map fun c => (⟨#[c]⟩ : Str)).foldl (fun a x => a + x.length + (Str.ofString "").length) n = n + co.length
  | [], n => rfl
  | c :: r, n => by
    rw [List.map_cons, List.foldl_cons, fold_ones r]
    have h1 : (Str.ofString "").length = 0 := by decide +kernel
    have h2 : (⟨#[c]⟩ : Str).length = 1 := rfl
    rw [h1, h2, List.length_cons]; omega
theorem join_text {D : Addr} {l : List (Str × Tok)} {co : List Nat} {t : Tok} {Q : Value → Shared → Prop} (hl : s.heap.IsList D (strValues l).toArray) (ht : l.map (·.1) = co.map fun c => ⟨#[c]⟩) (hc : co.length ≤ 1000)
    (hq : ∀ t' k, Q (.str ⟨co.toArray⟩ t') { s with toks := k }) : wpAny (model prog w) A (call (.builtin "str.join") [.str (Str.ofString "") t, .ref D]) Q E s := by
  refine SC.join hl ht ?_ fun t' k => ?_
  · unfold JoinOk Builtin.Str.tooLong
    rw [List.foldl_toArray', fold_ones, sizeLine_eq]
    · simp; omega
    · simp
  · have e : Txt.join (Str.ofString "") (co.map fun c => ⟨#[c]⟩) = ⟨co.toArray⟩ := by
      show Builtin.Str.glued (Str.ofString "") _ = _
      rw [StrLaws.glued_eq_join]; exact join_ones_eq co
    rw [e]; exact hq t' k
end
theorem head_hi (c : Nat) : (c : Int).fdiv 32 = ((c >>> 5 : Nat) : Int) := by
  rw [show (32 : Int) = ((32 : Nat) : Int) from rfl, fdiv_nat', Nat.shiftRight_eq_div_pow]
theorem head_lo (c : Nat) : (c : Int).fmod 32 = ((c &&& 31 : Nat) : Int) := by
  rw [show (32 : Int) = ((32 : Nat) : Int) from rfl, fmod_nat, show (31 : Nat) = 2 ^ 5 - 1 from rfl, Nat.and_two_pow_sub_one_eq_mod]
theorem row_lt {co ds : List Nat} (h1 : ∀ z ∈ co, z < 127) (h2 : ∀ z ∈ ds, z < 32) : ∀ z ∈ rowOf co ds, z < 32 := by
  intro z hz
  simp only [rowOf, List.mem_append, List.mem_map, List.mem_cons, List.not_mem_nil, or_false] at hz
  rcases hz with ((⟨c, hc, rfl⟩ | rfl) | ⟨c, hc, rfl⟩) | hz
  · have := h1 c hc
    rw [Nat.shiftRight_eq_div_pow]; omega
  · decide
  · rw [show (31 : Nat) = 2 ^ 5 - 1 from rfl, Nat.and_two_pow_sub_one_eq_mod]; exact Nat.mod_lt _ (by decide)
  · exact h2 z hz

end Mine
namespace Mine
open PySem PySem.W PyProof.Rows PySem.Calls
theorem AllNe_sub {d : Addr} {l l' : List (Addr × Obj)} (h : AllNe d l) (hs : ∀ p ∈ l', p ∈ l) : AllNe d l' := allNe_all fun p hp => AllNe_all h p (hs p hp)
/-- a turn's end that makes one object that stays -/
def ObjEnd (h₀ : Heap) (L : Addr) (m : Str → Option Value) (s : Shared) (led : List (Addr × Obj)) (G : Obj → Prop) (y : Value) (s₂ : Shared) : Prop :=
  ∃ D o h' tk, y = .ref D ∧ s₂ = { s with heap := h', toks := tk } ∧ Fr h₀ L h' m ∧ News h₀ L h' ((D, o) :: led) ∧ AllNe D led ∧ G o
theorem ObjEnd.intro {h₀ : Heap} {L : Addr} {m : Str → Option Value} {s : Shared} {led led' : List (Addr × Obj)} {G : Obj → Prop} {D : Addr} {o : Obj} {h' : Heap} {tk : Nat} (F : Fr h₀ L h' m) (N : News h₀ L h' led') (hm : (D, o) ∈ led') (hs : ∀ p ∈ led, p ∈ led') (hne : AllNe D led) (g : G o) :
    ObjEnd h₀ L m s led G (.ref D) { s with heap := h', toks := tk } := ⟨D, o, h', tk, rfl, rfl, F, fun p hp => by
      rcases List.mem_cons.mp hp with rfl | hp
      · exact N _ hm
      · exact N _ (hs p hp), hne, g⟩
section
variable {prog : Program} {w : World} {A : Around} {E : Value → Shared → Prop} {s : Shared} {h₀ : Heap} {L : Addr} {m : Str → Option Value} {env : Env}
theorem rest_objs {elt : Expr} {x : Str} {scope : Scope} {cl : List (Str × Addr)} {S : List (Addr × Obj) → Prop} {P : Nat → Value → Prop} {Fin : List Value → List (Addr × Obj) → Prop} {news : List (Addr × Obj)} (hS : ∀ l, S l) (n : Nat) (G : Nat → Obj → Prop)
    (turn : ∀ i v I oI C oC D m₂ ys h tk news' (E' : Value → Shared → Prop), i < n → P i v → LCg.NsObj oC m₂ → m₂ x = some v → Fr h₀ L h m → News h₀ L h ((I, oI) :: (C, oC) :: (D, LCg.lst ys) :: news') → (∀ p ∈ news, p ∈ news') →
      wpAny (model prog w) A (eval elt (compEnvC scope cl C env)) (ObjEnd h₀ L m { s with heap := h, toks := tk } ((I, oI) :: (C, oC) :: (D, LCg.lst ys) :: news') (G i)) E' { s with heap := h, toks := tk })
    (fin : ∀ ds : List (Addr × Obj), ds.length = n → (∀ i p, ds[i]? = some p → G i p.2) → (∀ p ∈ ds, AllNe p.1 news) → Fin (ds.map fun p => Value.ref p.1) (ds.reverse ++ news)) : LCg.CompRest prog w A h₀ L m env elt x scope cl s S P Fin n 0 [] news := by
  have key : ∀ (j i : Nat) (ds : List (Addr × Obj)), i + j = n → ds.length = i → (∀ i p, ds[i]? = some p → G i p.2) → (∀ p ∈ ds, AllNe p.1 news) → LCg.CompRest prog w A h₀ L m env elt x scope cl s S P Fin j i (ds.map fun p => Value.ref p.1) (ds.reverse ++ news) := by
    intro j
    induction j with
    | zero =>
      intro i ds hi hl hg hn
      exact LCg.CompRest.zero (fin ds (by omega) hg hn)
    | succ j ih =>
      intro i ds hi hl hg hn
      refine LCg.CompRest.succ ?_
      intro v I oI C oC D m₂ h tk E' hv hC hx F N off ne
      refine wpAny_mono (turn i v I oI C oC D m₂ _ h tk (ds.reverse ++ news) E' (by omega) hv hC hx F N (fun p hp => List.mem_append.mpr (.inr hp))) (fun y s₂ hq => ?_) fun _ _ e => e
      obtain ⟨D', o', h', tk', rfl, e, F', N', hne, hgo⟩ := hq
      have hall := AllNe_all hne
      refine ⟨h', tk', (D', o') :: (ds.reverse ++ news), e, F', fun p hp => N' p ?_, ⟨⟨Ne.symm (hall (I, oI) (.head _)), Ne.symm (hall (C, oC) (.tail _ (.head _))), Ne.symm (hall (D, _) (.tail _ (.tail _ (.head _))))⟩, off⟩, hS _, ?_⟩
      · simp only [List.mem_cons] at hp ⊢
        rcases hp with h | h | h | h | h
        · exact .inr (.inl h)
        · exact .inr (.inr (.inl h))
        · exact .inr (.inr (.inr (.inl h)))
        · exact .inl h
        · exact .inr (.inr (.inr (.inr h)))
      · have ih' := ih (i + 1) (ds ++ [(D', o')]) (by omega) (by simp [hl]) (fun k p hk => ?_) (fun p hp => ?_)
        · rw [List.map_append, List.reverse_append] at ih'
          exact ih'
        · by_cases hlt : k < ds.length
          · rw [List.getElem?_append_left hlt] at hk
            exact hg k p hk
          · rw [List.getElem?_append_right (by omega)] at hk
            have hk0 : k - ds.length = 0 := by
              cases hkk : k - ds.length with
              | zero => rfl
              | succ q => rw [hkk] at hk; simp at hk
            rw [hk0] at hk
            obtain rfl := Option.some.inj hk
            have : k = i := by omega
            rw [this]; exact hgo
        · rcases List.mem_append.mp hp with h | h
          · exact hn p h
          · rw [List.mem_singleton.mp h]
            exact AllNe_sub hne fun q hq => .tail _ (.tail _ (.tail _ (List.mem_append.mpr (.inr hq))))
  exact key n 0 [] (by omega) rfl (fun i p h => by simp at h) (fun p h => nomatch h)

/-- a tuple of the top's is walked -/
def TupSrc (prog : Program) (w : World) (A : Around) (h₀ : Heap) (L : Addr) (m : Str → Option Value) (env : Env) (elt : Expr) (x : Str) (scope : Scope) (cl : List (Str × Addr)) (y : Str) (Q : Flow → Shared → Prop) (xv : Value) (s₁ : Shared) : Prop :=
  ∃ (ax : Addr) (its : Array Value) (news : List (Addr × Obj)), xv = .ref ax ∧ A.handled = none ∧ IsTup h₀ ax its ∧ its.size ≤ sizeLine ∧ Fr h₀ L s₁.heap m ∧ News h₀ L s₁.heap news ∧
      ∀ g, LCg.CompRest prog w A h₀ L m env elt x scope cl { s₁ with heap := g } (fun _ => True) (fun i v => its[i]? = some v) (LCg.FinA h₀ L m { s₁ with heap := g } y Q) its.size 0 [] news
theorem Assign_ListComp_tup {elt iter : Expr} {x y : Str} {px py : Pos} {scope : Scope} {cl : List (Str × Addr)} {pos spos : Pos} {Q : Flow → Shared → Prop} (_F₀ : Fr h₀ L s.heap m) (hLe : env.locals = L)
    (hsw : swapsWith (.ListComp elt [⟨.Name x px, iter, [], 0⟩] scope pos) (some (.Name y py)) spos.line env = pure true)
    (hclos : closureFor scope env = pure cl) (hcell : ∀ z ∈ scope.names, z.2 ≠ .cell) (hkind : scope.kind = .function)
    (hnames : ∀ z ∈ scope.names, z.2 = .local → scope.names.lookup z.1 = some .local) (hx : scope.names.lookup x = some .local)
    (hy : env.kindOf y = some .local) (hp : (env.scope.kind == .class || (env.scope.kind == .module && env.locals != env.globals)) = false)
    (h : wpAny (model prog w) A (eval iter env) (TupSrc prog w A h₀ L m env elt x scope cl y Q) E s)
    (hs : ∀ x, foldedSetIterable iter env x = pure x) :
    wpAny (model prog w) A (exec (.Assign [.Name y py] (.ListComp elt [⟨.Name x px, iter, [], 0⟩] scope pos) spos) env) Q E s := by
  subst hLe
  rw [exec_Assign_Name_used _ _ _ _ hsw]
  refine wpAny_bind (wpAny_standAt (wpAny_bind ?_))
  show wpAny _ A (do let _ ← comprehension (.ListComp elt [⟨.Name x px, iter, [], 0⟩] scope pos) scope env _ (newList []) false (eval iter env) (some (assign (.Name y py) env))) _ _ s
  refine wpAny_bind (wpAny_mono (wpAny_comprehension_free (use := some (assign (.Name y py) env)) (Q := fun _ s' => Q .next s') rfl hs hclos hkind hnames
    (wpAny_mono h (fun xv s₁ h₁ => ?_) fun _ _ e => e)) (fun _ s' hq => wpAny_pure (wpAny_pure hq)) fun _ _ e => e)
  obtain ⟨ax, its, news, rfl, hh, ht, hsz, F, N, R⟩ := h₁
  have hl : s₁.heap.IsTuple ax its := Heap.IsTuple.at ht fun o e => F.keep ax o e
  have hlt : ax < s₁.heap.objs.size := by obtain ⟨_, e, _⟩ := hl; exact Heap.lt_size e
  refine wpAny_pyIter_tuple hl ?_
  have up : ∀ b o, s₁.heap.get? b = some o → (s₁.heap.push { cls := .type "tuple_iterator", data := .fields #[.ref ax, .int 0 0] }).get? b = some o := fun b o e => Heap.get?_push_of_some _ e
  refine LCg.block_U (S := fun _ => True) (Walks.tuple hh s₁.heap.objs.size ax (Nat.ne_of_lt hlt) its) hsz (fun i h st => by obtain ⟨o, e, _⟩ := st.1; exact ⟨o, e⟩)
    (fun i h h' o nw st e e' k _ _ => ⟨by obtain ⟨o', q, r⟩ := st.1; rw [e] at q; cases q; exact ⟨o, e', r⟩, Heap.IsTuple.at ht fun o e => k ax o e⟩) hcell hkind hx ⟨⟨_, Heap.get?_push_size _ rfl, rfl, rfl⟩, hl.at fun o e => up _ o e⟩ (fun b hb => ?_)
    (F.keeps up) (N.grown up) (Nat.ne_of_lt F.ns.lt) (next_is_new F) (fun p hp => Nat.ne_of_lt (Heap.lt_size (N p hp).1)) trivial (R _) ?_
  · show b < (s₁.heap.push _).objs.size
    rw [Heap.size_push]
    rcases List.mem_cons.mp hb with rfl | hb
    · exact Nat.lt_succ_self _
    · rw [List.mem_singleton.mp hb]; exact Nat.lt_succ_of_lt hlt
  · intro D C h' tk m' ys news' F' N' o1 hn hC₀ hD₀ hCL hDL hCD offC fin
    show wpAny _ A (assign (.Name y py) env (.ref D)) _ _ _
    refine wpAny_assign_Name (wpAny_storeName_local hy F'.ns (fun h₂ hn₂ hs₂ => ?_) hp)
    have hL₀ : h₀.get? env.locals = none := Heap.get?_none_of_le F'.above
    have F₂ : Fr h₀ env.locals h₂ (fun z => if z = y then some (.ref D) else m z) := ⟨hn₂, fun b o e => hs₂.extBut b o (fun q => by rw [q, hL₀] at e; cases e) (F'.keep b o e), F'.above⟩
    refine ⟨m', hn.sameBut hs₂ hCL, fun h'' hs'' => fin D h'' _ (F₂.change hs'' hCL hC₀) (fun p hp => ?_) o1⟩
    have z : h₂.get? p.1 = some p.2 := hs₂.extBut _ _ (N' p hp).2.1 (N' p hp).1
    refine ⟨hs''.extBut _ _ ?_ z, (N' p hp).2⟩
    rcases List.mem_cons.mp hp with rfl | hp
    · exact Ne.symm hCD
    · exact offC p hp
end

end Mine
namespace Mine
open PySem PySem.W PyProof.Rows PySem.Calls
section
variable {prog : Program} {w : World} {A : Around} {E : Value → Shared → Prop} {s : Shared} {env : Env} {h₀ : Heap} {x : Str} {body : List Stmt} {Q : Flow → Shared → Prop}
/-- a loop over a list whose turns leave the ledger and set no name but the loop's own -/
theorem iter_lstK {ax : Addr} {lo : Obj} {vs : List Value} {n : Nat} {m₀ : Str → Option Value} {news : List (Addr × Obj)}
    (hh : A.handled = none) (F : Fr h₀ env.locals s.heap m₀) (N : News h₀ env.locals s.heap news) (hm : (ax, lo) ∈ news) (hc : lo.cls = .type "list") (hd : lo.data = .seq vs.toArray n)
    (turn : ∀ (i : Nat) v I oI h tk, vs[i]? = some v → (∀ p ∈ news, p.1 ≠ I) → Fr h₀ env.locals h (fun y => if y = x then some v else m₀ y) → News h₀ env.locals h ((I, oI) :: news) →
      wpAny (model prog w) A (execs body env) (UnrPost h₀ env.locals { s with heap := h, toks := tk } I oI (fun m' n' => n' = news ∧ ∀ y, y ≠ x → m' y = m₀ y) Q) E { s with heap := h, toks := tk })
    (done : ∀ o h tk, Fr h₀ env.locals h (fun y => if y = x then o else m₀ y) → News h₀ env.locals h news → Q .next { s with heap := h, toks := tk }) :
    wpAny (model prog w) A (pyIter (.ref ax)) (fun it s₂ => LoopAtV prog w A h₀ env x body Q E it s₂) E s := by
  refine iter_lstJ (vs := vs) (n := n) (fun _ m nx => nx = news ∧ ∀ y, y ≠ x → m y = m₀ y) hh F N hm hc hd ⟨rfl, fun _ _ => rfl⟩ ?_ ?_
  · intro i v m₁ nx I oI h tk hv _ hJ hoff Fx Nx
    obtain ⟨rfl, hJ⟩ := hJ
    have e : (fun y => if y = x then some v else m₁ y) = (fun y => if y = x then some v else m₀ y) := by
      funext y
      by_cases hy : y = x
      · rw [if_pos hy, if_pos hy]
      · rw [if_neg hy, if_neg hy, hJ y hy]
    rw [e] at Fx
    refine wpAny_mono (turn i v I oI h tk hv hoff Fx Nx) (fun f s₂ p => ?_) fun _ _ e => e
    have up : UnrEnd h₀ env.locals { s with heap := h, toks := tk } I oI (fun m' n' => n' = nx ∧ ∀ y, y ≠ x → m' y = m₀ y) s₂ → UnrEnd h₀ env.locals { s with heap := h, toks := tk } I oI (fun m' n' => (ax, lo) ∈ n' ∧ n' = nx ∧ ∀ y, y ≠ x → m' y = m₀ y) s₂ := by
      rintro ⟨h', tk', m', n', e, F', N', ho, rfl, r⟩
      exact ⟨h', tk', m', _, e, F', N', ho, hm, rfl, r⟩
    cases f with
    | ret v => exact p
    | brk => exact p
    | next => exact up p
    | cont => exact up p
  · intro m₁ nx h tk _ hJ Fx Nx
    obtain ⟨rfl, hJ⟩ := hJ
    have e : m₁ = (fun y => if y = x then m₁ x else m₀ y) := by
      funext y
      by_cases hy : y = x
      · rw [if_pos hy, hy]
      · rw [if_neg hy, hJ y hy]
    rw [e] at Fx
    exact done _ h tk Fx Nx
end
theorem fits_split (row x : List Nat) : (rem (30, 30) x (rem (30, 30) row (0, 1)) == (0, 1) && (rem (27, 4) x (rem (27, 4) row (0, 1)) == (0, 1) && rem (24, 14) x (rem (24, 14) row (0, 1)) == (0, 1))) = fits (row ++ x) := by
  unfold fits quads
  simp only [List.all_cons, List.all_nil, Bool.and_true, rem_append]
theorem fits_told {co ds hn : List Nat} (hr : ∀ z ∈ rowOf co ds, z < 32) (hh : ∀ z ∈ hn, z < 32) :
    decide (poly (co.map (· >>> 5) ++ [0] ++ co.map (· &&& 31) ++ (ds ++ hn)) = 1) = fits (rowOf co ds ++ hn) := by
  rw [fits_iff _ (fun z hz => (List.mem_append.mp hz).elim (hr z) (hh z)), ← List.append_assoc]
  rfl
theorem getD_lt {l : List Nat} (h : ∀ z ∈ l, z < 32) (i : Nat) : l.getD i 0 < 32 := by
  rw [List.getD_eq_getElem?_getD]
  cases e : l[i]? with
  | none => decide
  | some x => exact h x (List.mem_of_getElem? e)
theorem xor_lt32 {a b : Nat} (ha : a < 32) (hb : b < 32) : a ^^^ b < 32 := Nat.xor_lt_two_pow (n := 5) ha hb
theorem hurt_val {a b : List Nat} (ha : ∀ z ∈ a, z < 32) (hb : ∀ z ∈ b, z < 32) (i j : Nat) :
    ∃ z : Nat, Builtin.bitXor ((a.map Int.ofNat).getD i 0) ((b.map Int.ofNat).getD j 0) = (z : Int) ∧ z < 32 :=
  ⟨a.getD i 0 ^^^ b.getD j 0, by rw [getD_cast, getD_cast, bxor_nat], xor_lt32 (getD_lt ha i) (getD_lt hb j)⟩

end Mine
namespace Mine
open PySem PySem.W PyProof.Rows PySem.Calls
/-- the walk, up to a loop -/
local macro_rules | `(tactic| walk_at "mine: stop") => `(tactic| first
  | (with_reducible show wpAny _ _ (exec (Stmt.For _ _ _ _ _) _) _ _ _)
  | (with_reducible show wpAny _ _ (pyIter _) _ _ _)
  | (with_reducible show InvPostN _ _ _ _ _ _ _ _ _)
  | (with_reducible show InvEndN _ _ _ _ _ _ _)
  | (with_reducible show InvPost _ _ _ _ _ _ _ _)
  | (with_reducible show InvEnd _ _ _ _ _ _)
  | (with_reducible show Back _ _ _ _)
  | (with_reducible show wpAny _ _ (call (Value.builtin "str.join") _) _ _ _)
  | (with_reducible show EltEnd _ _ _ _ _ _ _ _)
  | (with_reducible show ObjEnd _ _ _ _ _ _ _ _)
  | (with_reducible show TupSrc _ _ _ _ _ _ _ _ _ _ _ _ _ _ _)
  | (with_reducible show TextSrc _ _ _ _ _ _ _ _ _ _ _ _ _ _)
  | (with_reducible show LCg.CompSrc _ _ _ _ _ _ _ _ _ _ _ _ _ _)
  | (with_reducible show wpAny _ _ (eval (Expr.ListComp _ _ _ _) _) _ _ _))
local macro_rules | `(tactic| walk_at "mine: stop") => `(tactic| first
  | (with_reducible show UnrPost _ _ _ _ _ _ _ _ _)
  | (with_reducible show UnrEnd _ _ _ _ _ _ _))
local macro_rules | `(tactic| walk_at "getMethod ref") => `(tactic| (k_here; (with_reducible show wpAny _ _ (getMethod (Value.ref _) (PySem.Str.ofString "reverse") _) _ _ _); k_dflt (refine' listMethod_K ?N ?m PySem.F.slot_list_reverse PySem.F.type_list_reverse ?_; (case N => k_asm); (case m => k_mem))))
local macro_rules | `(tactic| walk_at "mine: up to a loop") => `(tactic| repeat' ((fail_if_success (walk_at "mine: stop")); first | (k_unfold; (try dsimp only)) | (k_end; wrow_close) | walk1 | (dsimp only; walk1) | (leave1; walk_say "STEP leave1"; try dsimp only) | fail "no step"))


/-- after a call: what stood stands -/
local macro_rules | `(tactic| walk_at "mine: back") => `(tactic| (intro t9 h9 tk9 hk9; (with_reducible rename Fr _ _ _ _ => kF9); (with_reducible rename News _ _ _ _ => kN9); (have F9 := Fr.keeps kF9 hk9); (have N9 := News.grown kN9 hk9); clear kF9 kN9 hk9; (try dsimp only)))
local macro_rules | `(tactic| walk_at "call ref") => `(tactic| (k_here; k_dflt (refine' times_call ?k1 ?k2 ?k3 ?k4 ?k5 ?k6 ?k7 ?k8 ?_; (case k1 => k_asm); (case k2 => k_asm); (case k3 => k_asm); (case k4 => k_asm); (case k5 => exact rfl); (case k6 => ktr_room); (case k7 => assumption); (case k8 => assumption); walk_at "mine: back")))
local macro_rules | `(tactic| walk_at "mine: list") => `(tactic| first | assumption | exact Heap.IsList.at (by assumption) (fun o e => Fr.keep (by k_asm) _ o e) | exact ⟨_, News.get (by k_asm) (by k_mem), rfl, _, rfl⟩)
local macro_rules | `(tactic| walk_at "mine: tup") => `(tactic| first | assumption | exact IsTup.keeps (by assumption) (Fr.keep (by k_asm)) | exact kun_topT (by k_asm) (by k_asm) (by k_is) | exact ⟨_, News.get (by k_asm) (by k_mem), rfl, _, rfl⟩)
local macro_rules | `(tactic| walk_at "mine: backL") => `(tactic| (intro D9 t9 u9 h9 tk9 hk9 hn9 ho9; (with_reducible rename Fr _ _ _ _ => kF9); (with_reducible rename News _ _ _ _ => kN9); (have F9 := Fr.keeps kF9 hk9); (have N9 := News.more F9 (News.grown kN9 hk9) ho9 (fun _ _ q => by cases q) (by cases hq : Heap.get? _ D9 with | none => rfl | some o => exact absurd (hn9.symm.trans (kF9.keep _ _ hq)) (by simp))); (have ne9 := allNe_of kN9 hn9); clear kF9 kN9 hk9 hn9 ho9; (try dsimp only)))
local macro_rules | `(tactic| walk_at "mine: rest") => `(tactic| ((case k1 => k_asm); (case k2 => k_asm); (case k3 => k_asm); (case k4 => k_asm); (case k5 => exact rfl); (case k6 => ktr_room); (case k7 => walk_at "mine: list"); (case j1 => walk_at "mine: tup"); (case j4 => walk_at "mine: list"); (case j5 => assumption); (case k8 => first | assumption | decide); (case k9 => first | assumption | decide); (case j2 => first | assumption | decide); (case j3 => first | assumption | decide); (case j6 => assumption); walk_at "mine: backL"))
local macro_rules | `(tactic| walk_at "call ref") => `(tactic| (k_here; k_dflt (first
  | (refine' rest_call (q := (30, 30)) ?k1 ?k2 ?k3 ?k4 ?k5 ?k6 ?k7 ?k8 ?k9 ?j1 ?j2 ?j3 ?j4 ?j5 ?j6 ?_; walk_at "mine: rest")
  | (refine' rest_call (q := (27, 4)) ?k1 ?k2 ?k3 ?k4 ?k5 ?k6 ?k7 ?k8 ?k9 ?j1 ?j2 ?j3 ?j4 ?j5 ?j6 ?_; walk_at "mine: rest")
  | (refine' rest_call (q := (24, 14)) ?k1 ?k2 ?k3 ?k4 ?k5 ?k6 ?k7 ?k8 ?k9 ?j1 ?j2 ?j3 ?j4 ?j5 ?j6 ?_; walk_at "mine: rest"))))
local macro_rules | `(tactic| walk_at "mine: units") => `(tactic| first | assumption | ((simp only [units_in1, units_deeper, Around.mark_units, units_caller]); (try dsimp only [ktrTop]); omega))
local macro_rules | `(tactic| walk_at "compareOp NotEq ref ref") => `(tactic| (k_here; k_dflt (refine' ne_intsK ?k1 ?k2 ?k3 ?k4 ?k5 ?_; (case k1 => walk_at "mine: list"); (case k2 => l_ints); (case k3 => walk_at "mine: list"); (case k4 => l_ints); (case k5 => walk_at "mine: units"))))
local macro_rules | `(tactic| walk_at "mine: backM") => `(tactic| (intro D9 us9 n9 h9 tk9 hk9 hn9 ho9 hi9; (with_reducible rename Fr _ _ _ _ => kF9); (with_reducible rename News _ _ _ _ => kN9); (have F9 := Fr.keeps kF9 hk9); (have N9 := News.more F9 (News.grown kN9 hk9) ho9 (fun _ _ q => by cases q) (by cases hq : Heap.get? _ D9 with | none => rfl | some o => exact absurd (hn9.symm.trans (kF9.keep _ _ hq)) (by simp))); (have ne9 := allNe_of kN9 hn9); clear kF9 kN9 hk9 hn9 ho9; (try dsimp only)))
local macro_rules | `(tactic| walk_at "call ref") => `(tactic| (k_here; k_dflt (refine' expand_call ?k1 ?k2 ?k3 ?k4 ?k5 ?k6 ?k7 ?k8 ?k9 ?_; (case k1 => k_asm); (case k2 => k_asm); (case k3 => k_asm); (case k4 => k_asm); (case k5 => exact rfl); (case k6 => ktr_room); (case k7 => walk_at "mine: units"); (case k8 => assumption); (case k9 => assumption); walk_at "mine: backM")))
local macro_rules | `(tactic| walk_at "mine: ints") => `(tactic| first | assumption | ((simp only [List.map_append, List.map_cons, List.map_nil] at *); first | assumption | l_ints))
/-- the walk, up to a name's store too -/
local macro_rules | `(tactic| walk_at "mine: up to a store") => `(tactic| repeat' ((fail_if_success (walk_at "mine: stop")); (fail_if_success (with_reducible show wpAny _ _ (storeName _ _ _) _ _ _)); first | (k_unfold; (try dsimp only)) | (k_end; wrow_close) | walk1 | (dsimp only; walk1) | (leave1; walk_say "STEP leave1"; try dsimp only) | fail "no step"))
/-- the walk, up to an item -/
local macro_rules | `(tactic| walk_at "mine: up to an item") => `(tactic| repeat' ((fail_if_success (walk_at "mine: stop")); (fail_if_success (with_reducible show wpAny _ _ (subscriptTail _ _ (Value.ref _) (Value.int _ _)) _ _ _)); first | (k_unfold; (try dsimp only)) | (k_end; wrow_close) | walk1 | (dsimp only; walk1) | (leave1; walk_say "STEP leave1"; try dsimp only) | fail "no step"))
local macro_rules | `(tactic| walk_at "call ref") => `(tactic| (k_here; k_dflt (refine' low_call ?k1 ?k2 ?k3 ?k4 ?k5 ?k6 ?_; (case k1 => k_asm); (case k2 => k_asm); (case k3 => k_asm); (case k4 => k_asm); (case k5 => exact rfl); (case k6 => ktr_room); walk_at "mine: back")))
local macro_rules | `(tactic| k_lt $h:ident) => `(tactic| (replace $h := allLt_of $h))
local macro_rules | `(tactic| k_ne) => `(tactic| (refine neN ?_; (try dsimp only); first
  | (refine' Nat.ne_of_lt (AllLt_mem ?kh ?km); (case kh => assumption); (case km => k_mem))
  | (refine' Nat.ne_of_gt (AllLt_mem ?kh ?km); (case kh => assumption); (case km => k_mem))
  | (refine' Off1_mem ?kh ?km; (case kh => assumption); (case km => k_mem))
  | (refine' Ne.symm (Off1_mem ?kh ?km); (case kh => assumption); (case km => k_mem))
  | (refine' AllNe_mem ?kh ?km; (case kh => assumption); (case km => k_mem))
  | (refine' Ne.symm (AllNe_mem ?kh ?km); (case kh => assumption); (case km => k_mem))
  | omega))
theorem all_cons {d : Addr} {p : Addr × Obj} {r : List (Addr × Obj)} (h : p.1 ≠ d) (t : ∀ q ∈ r, q.1 ≠ d) : ∀ q ∈ p :: r, q.1 ≠ d := fun q hq => by
  rcases List.mem_cons.mp hq with e | hq
  · rw [e]; exact h
  · exact t q hq
local macro_rules | `(tactic| k_all) => `(tactic| first | assumption | exact List.forall_mem_nil _ | (refine' all_cons ?kax ?kay; (case kax => k_ne); (case kay => k_all)))
local macro_rules | `(tactic| lcg_sub) => `(tactic| (intro p hp; (repeat first | exact hp | (refine List.mem_cons_of_mem _ ?_)); done))
/-- the walk, up to a giving of a name -/
local macro_rules | `(tactic| walk_at "mine: up to an assign") => `(tactic| repeat' ((fail_if_success (walk_at "mine: stop")); (fail_if_success (with_reducible show wpAny _ _ (exec (Stmt.Assign _ _ _) _) _ _ _)); first | (k_unfold; (try dsimp only)) | (k_end; wrow_close) | walk1 | (dsimp only; walk1) | (leave1; walk_say "STEP leave1"; try dsimp only) | fail "no step"))
def quadN (i : Nat) : Nat × Nat := if i = 0 then (30, 30) else if i = 1 then (27, 4) else (24, 14)
local macro_rules | `(tactic| walk_at "call ref") => `(tactic| (k_here; k_dflt (refine' create_call ?k1 ?k2 ?k3 ?k4 ?k5 ?k6 ?k7 ?k8 ?k9 ?j1 ?j2 ?j3 ?_; (case k1 => k_asm); (case k2 => k_asm); (case k3 => k_asm); (case k4 => k_asm); (case k5 => exact rfl); (case k6 => ktr_room); (case k7 => walk_at "mine: units"); (case k8 => assumption); (case k9 => assumption); (case j1 => refine Or.inl ?_; walk_at "mine: list"); (case j2 => assumption); (case j3 => assumption); walk_at "mine: backM")))
local macro_rules | `(tactic| walk_at "mine: up to a call") => `(tactic| repeat' ((fail_if_success (walk_at "mine: stop")); (fail_if_success (with_reducible show wpAny _ _ (call (Value.ref _) _) _ _ _)); first | (k_unfold; (try dsimp only)) | (k_end; wrow_close) | walk1 | (dsimp only; walk1) | (leave1; walk_say "STEP leave1"; try dsimp only) | fail "no step"))
local macro_rules | `(tactic| walk_at "mine: step") => `(tactic| ((fail_if_success (walk_at "mine: stop")); first | (k_unfold; (try dsimp only)) | (k_end; wrow_close) | walk1 | (dsimp only; walk1) | (leave1; walk_say "STEP leave1"; try dsimp only) | fail "no step"))
/-- the walk, up to a comparison -/
local macro_rules | `(tactic| walk_at "mine: up to a compare") => `(tactic| repeat' ((fail_if_success (with_reducible show wpAny _ _ (compareOp _ _ _) _ _ _)); (walk_at "mine: step")))
local macro_rules | `(tactic| walk_at "call builtin:isinstance") => `(tactic| (k_here; (with_reducible show wpAny _ _ (call _ [Value.ref _, Value.type "list"]) _ _ _); k_dflt (refine' PySem.IsiPair.list_list ?k1 ?k2 ?_; (case k1 => exact News.get (by k_asm) (by k_mem)); (case k2 => exact rfl))))
local macro_rules | `(tactic| walk_at "call builtin:isinstance") => `(tactic| (k_here; (with_reducible show wpAny _ _ (call _ [Value.int _ _, Value.type "bool"]) _ _ _); k_dflt (refine' PySem.IsiPair.int_bool ?_)))
local macro_rules | `(tactic| walk_at "call builtin:isinstance") => `(tactic| (k_here; (with_reducible show wpAny _ _ (call _ [Value.bool _, Value.type "bool"]) _ _ _); k_dflt (refine' PySem.IsiPair.bool_bool ?_)))
/-- the walk, up to a builtin's call -/
local macro_rules | `(tactic| walk_at "mine: up to a builtin") => `(tactic| repeat' ((fail_if_success (with_reducible show wpAny _ _ (call (Value.builtin _) _) _ _ _)); (fail_if_success (with_reducible show wpAny _ _ (compareOp _ _ _) _ _ _)); (walk_at "mine: step")))
theorem wp_gen {M : Model} {A : Around} {t : Sem Flow} {s : Shared} {Q : Flow → Shared → Prop} {E : Value → Shared → Prop} (P : (Flow → Shared → Prop) → Prop) (hp : P Q) (h : ∀ Q, P Q → wpAny M A t Q (fun _ _ => False) s) : wpAny M A t Q E s := wpAny_mono (h Q hp) (fun _ _ x => x) fun _ _ x => x.elim
set_option maxHeartbeats 40000000 in
theorem law_holds : PySem.Challenge.rw_fw0002_01.Holds := hd (by
  k_go0
  rename_i w s₀ s₁ mg mb G Y fa o pm doc ho hg KX X V GL T B TE TW w14 w13 M w12 w11 hcd zs hs hlay0 hL1 hr1 hl2 w9 w8 lv vs w5 hL ra w1 r0 hI hr hcond1 hcond K0 hD h₁ tk₁ F o5 o4 o3 o2 o1 d5 d4 d3 d2 d1 N0 X0
  refine wp_gen (fun Q => ∀ h' tk' m', Fr s₁.heap s₁.heap.objs.size h' m' → Q (.ret (.bool true)) { s₁ with heap := h', toks := tk' }) ?fin ?_
  case fin =>
    intro h' tk' m' F'
    wrow_close
  intro Q ret
  clear X0 hD hcond hr r0 w1 ra hl2 hr1 hL1 hlay0 hs hcd M TW TE B GL V X hg ho Y G
  generalize s₁.heap.objs.size = L at *
  replace d5 : o5.data = Data.cell none := d5
  replace d4 : o4.data = Data.cell none := d4
  replace d3 : o3.data = Data.cell none := d3
  replace d2 : o2.data = Data.cell none := d2
  replace d1 : o1.data = Data.cell none := d1
  replace K0 : Below callerA s₁.heap [] s₁.heap := K0
  obtain ⟨m0, F1⟩ : ∃ m0 : Str → Option Value, Fr s₁.heap L h₁ (fun z => if z = Str.ofString "script" then some (.ref lv) else m0 z) := ⟨_, end1 F rfl⟩
  have hzl : zs.length ≤ 63 := by omega
  clear F hcond1
  dsimp only
  walk_at "mine: up to a loop"
  -- row
  refine LCg.ListComp_U (F₀ := by k_asm) rfl (by decide) rfl (by decide) rfl ?_ (by intro _; rfl)
  walk_at "mine: up to a loop"
  rename_i Da wa ha Fa Na Ia Ca La la
  have hla := IntsAre.length Ia
  refine LCg.CompSrc.ledger (by rfl) (by k_asm) (by k_asm) (by k_mem) (by rw [sizeLine_eq, List.size_toArray]; omega) ?_
  intro g
  refine rest_any (Or.inr ⟨_, by k_mem, rfl, _, rfl⟩) _ (· < 9973) ?_ ?_
  · intro i v I oI C oC D m₂ ys h tk E' hi hP hC hx F' N'
    obtain ⟨z, t, rfl, hz⟩ := IntsAre.at Ia i v (by simpa using hP)
    walk_at "mine: up to a loop"
    exact EltEnd.intro (by k_asm) (by k_asm) (fun _ hp => hp) ⟨_, _, congrArg (fun x => Value.int x _) (mod_elt z).1, (mod_elt z).2⟩
  intro ys rn hrl hrg hy D h tk F' N' offA
  have hly := IntsAre.length hy
  simp only [List.length_map] at hly
  (try dsimp only)
  walk_at "mine: up to a store"
  rename_i Db hb lb Dr wr hr Fr1 Nr1 Ir lr
  obtain ⟨R, hR2, hRl, hRg, Ir'⟩ : ∃ R : List Nat, 2 ≤ R.length ∧ R.length ≤ 42 ∧ (∀ z ∈ R, z < 9973) ∧ IntsAre wr (R.map Int.ofNat) := by
    refine ⟨rn ++ [5, 3], by simp, ?_, fun z hz => ?_, by rw [List.map_append]; exact Ir⟩
    · rw [List.length_append, hrl, List.size_toArray]
      simp only [List.length_cons, List.length_nil]
      omega
    · rcases List.mem_append.mp hz with h | h
      · exact hrg z h
      · simp only [List.mem_cons, List.not_mem_nil, or_false] at h; omega
  replace Nr1 := News.sub Nr1 (news' := [(Dr, W.listOf wr.toArray 0), (L + 1 + 1 + 1 + 1 + 1, o5), (L + 1 + 1 + 1 + 1, o4), (L + 1 + 1 + 1, o3), (L + 1 + 1, o2), (L + 1, o1)]) (by lcg_sub)
  have hRm : (R.map Int.ofNat).length = R.length := List.length_map _
  clear Ir lb offA hly hy hrg hrl la hla La Ca Ia
  (try dsimp only)
  walk1
  walk_at "mine: up to a store"
  -- size
  obtain ⟨sz, hsz, hs1, hs2⟩ : ∃ sz : Nat, (1 + ((R.map Int.ofNat).getD (Int.toNat 0) 0).fmod 12) = (sz : Int) ∧ 1 ≤ sz ∧ sz ≤ 12 := by
    refine ⟨1 + R.getD 0 0 % 12, ?_, by omega, by omega⟩
    rw [getD_cast, show (12 : Int) = ((12 : Nat) : Int) from rfl, fmod_nat]
    rfl
  rw [hsz]
  (try dsimp only)
  walk1
  (try dsimp only)
  -- first
  walk_at "mine: up to a loop"
  refine LCg.CompSrc.range (n := sz) (by rfl) (by k_asm) (by k_asm) (by assumption) (small_one (by omega) (by omega) (by omega) (by omega)) (by first | exact rangeSize_nat _ _ | rfl) (by rw [sizeLine_eq]; omega) ?_
  intro g
  refine rest_any trivial _ (fun z => 33 ≤ z ∧ z < 127) ?_ ?_
  · intro i v I oI C oC D m₂ ys h tk E' hi hP hC hx F' N'
    obtain ⟨t, rfl⟩ := hP
    (try dsimp only)
    walk_at "mine: up to an item"
    rw [show (0 + (i : Int) + 1).fmod ((R.map Int.ofNat).length : Int) = (((i + 1) % R.length : Nat) : Int) from idx_row R i 1]
    have hj : (i + 1) % R.length < R.length := Nat.mod_lt _ (by omega)
    generalize (i + 1) % R.length = j at hj ⊢
    obtain ⟨r, hr, hr9⟩ := row_val hRg j
    refine item_list_ints (vs := wr) (ns := R.map Int.ofNat) ⟨_, News.get (by k_asm) (by k_mem), rfl, _, rfl⟩ Ir' (by omega) (by rw [List.length_map]; omega) (by omega) ?_
    intro t8
    rw [hr]
    (try dsimp only)
    walk_at "mine: up to a loop"
    obtain ⟨z, hz, h1, h2⟩ := first_val r i
    exact EltEnd.intro (by k_asm) (by k_asm) (fun _ hp => hp) ⟨z, _, congrArg (fun x => Value.int x _) hz, h1, h2⟩
  intro y1 f1 h1l h1g I1 D1 hh tk1 Fx Nx offA
  have hy1 := IntsAre.length I1
  simp only [List.length_map] at hy1
  (try dsimp only)
  -- second
  walk_at "mine: up to a loop"
  refine LCg.CompSrc.ledger (by rfl) (by k_asm) (by k_asm) (by k_mem) (by rw [sizeLine_eq, List.size_toArray]; omega) ?_
  intro g
  refine rest_any (Or.inr ⟨_, by k_mem, rfl, _, rfl⟩) _ (fun z => 33 ≤ z ∧ z < 127) ?_ ?_
  · intro i v I oI C oC D m₂ ys h tk E' hi hP hC hx F' N'
    obtain ⟨c, t, rfl, hc⟩ := ints_at I1 (by simpa using hP)
    obtain ⟨hc1, hc2⟩ := h1g c (List.mem_of_getElem? hc)
    (try dsimp only)
    walk_at "mine: up to a loop"
    obtain ⟨z, hz, h1, h2⟩ := second_val c hc1 hc2
    exact EltEnd.intro (by k_asm) (by k_asm) (fun _ hp => hp) ⟨z, _, congrArg (fun x => Value.int x _) hz, h1, h2⟩
  intro y2 f2 h2l h2g I2 D2 hh tk2 Fx Nx offB
  have hy2 := IntsAre.length I2
  simp only [List.length_map] at hy2
  (try dsimp only)
  replace Nx := News.sub Nx (news' := [(D2, LCg.lst y2), (D1, LCg.lst y1), (Dr, W.listOf wr.toArray 0), (L + 1 + 1 + 1 + 1 + 1, o5), (L + 1 + 1 + 1 + 1, o4), (L + 1 + 1 + 1, o3), (L + 1 + 1, o2), (L + 1, _)]) (by lcg_sub)
  -- fives
  walk_at "mine: up to a store"
  rename_i c1o c1d tkr tr1 hx1 hx2 tkx tr tu tv aR aK g1 hh1 Dq wq hq Iq Cq Lq lq k1 k2 k3 k4 k5 gq I3 Lf Df hf tkf odf Ds csn hs F5 N5 ls
  obtain ⟨fl, hfl, hfg, I4⟩ := fives_val (by omega) I3
  replace odf : LCg.Off1 Df [(Dq, W.listOf wq.toArray 0), (D2, LCg.lst y2), (D1, LCg.lst y1), (Dr, W.listOf wr.toArray 0), (L + 1 + 1 + 1 + 1 + 1, o5), (L + 1 + 1 + 1 + 1, o4), (L + 1 + 1 + 1, o3), (L + 1 + 1, o2), (L + 1, c1o)] := by simp only [LCg.Off1, and_true]; exact odf
  replace N5 := News.sub N5 (news' := [(Ds, W.listOf ys.toArray csn), (Df, LCg.lst ys), (D2, LCg.lst y2), (D1, LCg.lst y1), (Dr, W.listOf wr.toArray 0), (L + 1 + 1 + 1 + 1 + 1, o5), (L + 1 + 1 + 1 + 1, o4), (L + 1 + 1 + 1, o3), (L + 1 + 1, o2), (L + 1, c1o)]) (by lcg_sub)
  have hf1 : f1.length ≤ 12 := by omega
  have hf2 : f2.length ≤ 12 := by rw [h2l, List.size_toArray, hy1]; exact hf1
  clear I3 Lf Lq Cq lq Iq k1 k2 k3 k4 k5 aR aK tv hsz hs1 hs2
  walk1
  walk_at "mine: up to a store"
  obtain ⟨mk, hmk, hmk6⟩ := mask_val (R := R)
  rw [hmk]
  clear hmk
  (try dsimp only)
  walk1
  (try dsimp only)
  -- turn
  walk_at "mine: up to a loop"
  refine LCg.ListComp_U (F₀ := by k_asm) rfl (by decide) rfl (by decide) rfl ?_ (by intro _; rfl)
  walk_at "mine: up to a loop"
  (try dsimp only)
  refine LCg.CompSrc.range (n := 6) (by rfl) (by k_asm) (by k_asm) (by assumption) (by decide) (by decide) (by decide) ?_
  intro g
  refine rest_any trivial _ (· < 32) ?_ ?_
  · intro i v I oI C oC D m₂ ys h tk E' hi hP hC hx F' N'
    obtain ⟨t, rfl⟩ := hP
    (try dsimp only)
    walk_at "mine: up to an item"
    obtain ⟨q, hq, hq1⟩ := twos_val i hi
    have hq0 : (q : Int) ≠ 0 := by omega
    have hq2 : (0 : Int) < (q : Int) := by omega
    refine item_tuple_ints (vs := [_, _, _, _, _, _]) (ns := [1, 2, 4, 8, 16, 32]) (kun_topT (by k_asm) (by k_asm) (by k_is)) (by l_ints) (by omega) (by simp only [List.length_cons, List.length_nil]; omega) (by omega) ?_
    intro t8
    rw [hq]
    (try dsimp only)
    walk_at "mine: up to an item"
    · exfalso; omega
    · rw [show (0 + (i : Int) + 2).fmod ((R.map Int.ofNat).length : Int) = (((i + 2) % R.length : Nat) : Int) from idx_row R i 2]
      have hj : (i + 2) % R.length < R.length := Nat.mod_lt _ (by omega)
      generalize (i + 2) % R.length = j at hj ⊢
      obtain ⟨r, hr, hr9⟩ := row_val hRg j
      refine item_list_ints (vs := wr) (ns := R.map Int.ofNat) ⟨_, News.get (by k_asm) (by k_mem), rfl, _, rfl⟩ Ir' (by omega) (by rw [List.length_map]; omega) (by omega) ?_
      intro t9
      rw [hr]
      (try dsimp only)
      walk_at "mine: up to a loop"
      obtain ⟨z, hz, h1⟩ := turn_val r
      exact EltEnd.intro (by k_asm) (by k_asm) (fun _ hp => hp) ⟨z, _, congrArg (fun x => Value.int x _) hz, h1⟩
    · exact EltEnd.intro (by k_asm) (by k_asm) (fun _ hp => hp) ⟨0, _, rfl, by decide⟩
  intro y3 f3 h3l h3g I5 D3 hh3 tk3 F3 N3 offC
  have hy3 := IntsAre.length I5
  simp only [List.length_map] at hy3
  (try dsimp only)
  walk_at "mine: up to a loop"
  rename_i hA tkA tA hB c2o c2d tkB hC tkC t1C u1C v1C aC1 aC2 hD c3o c3d tkD Dk hE lk hF F6 N6
  obtain ⟨m6, F7⟩ : ∃ m6 : Str → Option Value, Fr s₁.heap L hF (fun z => if z = Str.ofString "kept" then some (.ref Dk) else if z = Str.ofString "same" then some (.ref Ds) else if z = Str.ofString "fives" then some (.ref Df) else if z = Str.ofString "second" then some (.ref D2) else if z = Str.ofString "first" then some (.ref D1) else m6 z) := ⟨_, end5 F6 rfl rfl rfl rfl rfl⟩
  replace N6 := News.sub N6 (news' := [(Dk, W.listOf #[] 0), (D3, LCg.lst y3), (Ds, W.listOf ys.toArray csn), (Df, LCg.lst ys), (D2, LCg.lst y2), (D1, LCg.lst y1), (L + 1 + 1 + 1 + 1 + 1, o5), (L + 1 + 1 + 1 + 1, o4), (L + 1 + 1 + 1, c3o), (L + 1 + 1, c2o), (L + 1, c1o)]) (by lcg_sub)
  clear F6 aC1 aC2 hmk6 Ir' hRm hRg hRl hR2 hL hI hzl hy1 hy2 h2l h1l
  have hys := IntsAre.length I4
  have hyl1 := IntsAre.length I1
  have hyl2 := IntsAre.length I2
  simp only [List.length_map] at hys hyl1 hyl2
  (try dsimp only)
  refine For_invV s₁.heap rfl rfl ?_
  walk_at "mine: up to a loop"
  rename_i Dt hG F8 N8 lt
  replace N8 := News.sub N8 (news' := [(Dk, W.listOf #[] 0), (D3, LCg.lst y3), (Ds, W.listOf ys.toArray csn), (Df, LCg.lst ys), (D2, LCg.lst y2), (D1, LCg.lst y1), (L + 1 + 1 + 1 + 1 + 1, o5), (L + 1 + 1 + 1 + 1, o4), (L + 1 + 1 + 1, c3o), (Dt, { cls := Value.type "tuple", data := Data.seq #[Value.ref D1, Value.ref D2] })]) (by lcg_sub)
  (try dsimp only)
  refine iter_tupJ (vs := [.ref D1, .ref D2]) (n := 0) (LawJ L Dk D3 Ds Df D2 D1 Dt y3 ys y2 y1 csn c3o f1 fl) rfl F8 N8 (by k_mem) rfl rfl ?h0 ?_ ?_
  case h0 => exact ⟨rfl, rfl, rfl, [], 0, o4, o5, [], rfl, ⟨_, d5⟩, ⟨_, d4⟩, rfl, (fun _ h => nomatch h), (fun _ h => nomatch h), (fun _ h => nomatch h), (fun h => absurd h (by decide))⟩
  · -- a turn
    intro i v m₁ nx I oI h tk hiv hmt hJ hoff Fx Nx
    obtain ⟨j1, j2, j3, xs, nk, oh, os, ext, rfl, ⟨xo, dos⟩, ⟨xh, doh⟩, hxl, he1, he2, he3, hlast⟩ := hJ
    have hoff' := allNe_all hoff
    obtain ⟨Dc, yc, fc, rfl, Ic, hcg, hcl, lck, lcc, lcd, hc0, Nx⟩ : ∃ (Dc : Addr) (yc : List Value) (fc : List Nat), v = .ref Dc ∧ IntsAre yc (fc.map Int.ofNat) ∧ (∀ z ∈ fc, 33 ≤ z ∧ z < 127) ∧ fc.length ≤ 12 ∧ AllNe Dk [(Dc, LCg.lst yc)] ∧ LCg.Off1 Dc [(L + 1 + 1 + 1 + 1 + 1, o5), (L + 1 + 1 + 1 + 1, o4)] ∧ AllNe Dt [(Dc, LCg.lst yc)] ∧ (i = 0 → fc = f1) ∧
        News s₁.heap L h ((Dc, LCg.lst yc) :: (I, oI) :: (Dk, W.listOf xs.toArray nk) :: (D3, LCg.lst y3) :: (Ds, W.listOf ys.toArray csn) :: (Df, LCg.lst ys) :: (D2, LCg.lst y2) :: (D1, LCg.lst y1) :: (L + 1 + 1 + 1 + 1 + 1, os) :: (L + 1 + 1 + 1 + 1, oh) :: (L + 1 + 1 + 1, c3o) ::
      (Dt, ({ cls := .type "tuple", data := .seq #[.ref D1, .ref D2] } : Obj)) :: ext) := by
      match i, hiv with
      | 0, hiv =>
        obtain rfl := Option.some.inj hiv
        refine ⟨D1, y1, f1, rfl, I1, h1g, hf1, ⟨Nat.ne_of_lt (AllLt_mem lk (by k_mem)), trivial⟩, ⟨Off1_mem offA (by k_mem), Off1_mem offA (by k_mem), trivial⟩, ⟨Nat.ne_of_lt (AllLt_mem lt (by k_mem)), trivial⟩, fun _ => rfl, fun p hp => ?_⟩
        rcases List.mem_cons.mp hp with rfl | hp
        · exact Nx _ (by k_mem)
        · exact Nx _ hp
      | 1, hiv =>
        obtain rfl := Option.some.inj hiv
        refine ⟨D2, y2, f2, rfl, I2, h2g, hf2, ⟨Nat.ne_of_lt (AllLt_mem lk (by k_mem)), trivial⟩, ⟨Off1_mem offB (by k_mem), Off1_mem offB (by k_mem), trivial⟩, ⟨Nat.ne_of_lt (AllLt_mem lt (by k_mem)), trivial⟩, fun h => absurd h (by decide), fun p hp => ?_⟩
        rcases List.mem_cons.mp hp with rfl | hp
        · exact Nx _ (by k_mem)
        · exact Nx _ hp
      | k + 2, hiv => simp at hiv
    replace Fx : Fr s₁.heap L h _ := pull3 Fx j1 j2 j3
    have hycl := IntsAre.length Ic
    simp only [List.length_map] at hycl
    (try dsimp only)
    -- text
    walk_at "mine: up to a loop"
    refine LCg.ListComp_U (F₀ := by k_asm) rfl (by decide) rfl (by decide) rfl ?_ (by intro _; rfl)
    walk_at "mine: up to a loop"
    refine LCg.CompSrc.ledger (by rfl) (by k_asm) (by k_asm) (by k_mem) (by rw [sizeLine_eq, List.size_toArray]; omega) ?_
    intro g
    rw [show yc.toArray.size = (fc.map (fun c => (⟨#[c]⟩ : Str))).length by simp [hycl]]
    refine rest_txt (Or.inr ⟨_, by k_mem, rfl, _, rfl⟩) _ ?_ ?_
    · intro i z v I oI C oC D m₂ ys h tk E' hz hP hC hx F' N'
      obtain ⟨c, t, rfl, hc⟩ := ints_at Ic (by simpa using hP)
      obtain ⟨hc1, hc2⟩ := hcg c (List.mem_of_getElem? hc)
      simp only [List.getElem?_map, hc, Option.map_some, Option.some.injEq] at hz
      subst hz
      (try dsimp only)
      walk_at "mine: up to a loop"
      exact EltEnd.intro (by k_asm) (by k_asm) (fun _ hp => hp) ⟨_, rfl⟩
    intro ltx hltx Dx hx1 tkx1 Fx1 Nx1 offX
    (try dsimp only)
    walk_at "mine: up to a loop"
    refine join_text (co := fc) ⟨_, News.get (by k_asm) (by k_mem), rfl, _, rfl⟩ hltx (by omega) ?_
    intro ttx ktx
    (try dsimp only)
    -- head
    walk_at "mine: up to a loop"
    refine LCg.ListComp_U (F₀ := by k_asm) rfl (by decide) rfl (by decide) rfl ?_ (by intro _; rfl)
    walk_at "mine: up to a loop"
    refine LCg.CompSrc.ledger (by rfl) (by k_asm) (by k_asm) (by k_mem) (by rw [sizeLine_eq, List.size_toArray]; omega) ?_
    intro g
    rw [show yc.toArray.size = ((fc.map (· >>> 5)).map Int.ofNat).length by simp [hycl]]
    refine rest_ints (Or.inr ⟨_, by k_mem, rfl, _, rfl⟩) _ ?_ ?_
    · intro i z v I oI C oC D m₂ ys h tk E' hz hP hC hx F' N'
      obtain ⟨c, t, rfl, hc⟩ := ints_at Ic (by simpa using hP)
      have ez := elt_z hz hc
      (try dsimp only)
      walk_at "mine: up to a loop"
      exact EltEnd.intro (by k_asm) (by k_asm) (fun _ hp => hp) ⟨_, congrArg (fun x => Value.int x _) (by rw [ez]; exact head_hi c)⟩
    intro yh1 Ih1 Dh1 hh1x tkh1 Fh1 Nh1 offH1
    have hyh1 := IntsAre.length Ih1
    simp only [List.length_map] at hyh1
    (try dsimp only)
    walk_at "mine: up to a loop"
    refine LCg.ListComp_U (F₀ := by k_asm) rfl (by decide) rfl (by decide) rfl ?_ (by intro _; rfl)
    walk_at "mine: up to a loop"
    refine LCg.CompSrc.ledger (by rfl) (by k_asm) (by k_asm) (by k_mem) (by rw [sizeLine_eq, List.size_toArray]; omega) ?_
    intro g
    rw [show yc.toArray.size = ((fc.map (· &&& 31)).map Int.ofNat).length by simp [hycl]]
    refine rest_ints (Or.inr ⟨_, by k_mem, rfl, _, rfl⟩) _ ?_ ?_
    · intro i z v I oI C oC D m₂ ys h tk E' hz hP hC hx F' N'
      obtain ⟨c, t, rfl, hc⟩ := ints_at Ic (by simpa using hP)
      have ez := elt_z hz hc
      (try dsimp only)
      walk_at "mine: up to a loop"
      exact EltEnd.intro (by k_asm) (by k_asm) (fun _ hp => hp) ⟨_, congrArg (fun x => Value.int x _) (by rw [ez]; exact head_lo c)⟩
    intro yh2 Ih2 Dh2 hh2x tkh2 Fh2 Nh2 offH2
    have hyh2 := IntsAre.length Ih2
    simp only [List.length_map] at hyh2
    (try dsimp only)
    walk_at "mine: up to a store"
    rename_i Dh wh hhd Fh Nh Ih lh
    have Ih' : IntsAre wh ((rowOf fc fl).map Int.ofNat) := by
      unfold rowOf
      rw [List.map_append, List.map_append, List.map_append]
      exact Ih
    have hrow : ∀ z ∈ rowOf fc fl, z < 32 := row_lt (fun z hz => (hcg z hz).2) hfg
    replace Nh := News.sub Nh (news' := (Dh, W.listOf wh.toArray 0) :: (Dc, LCg.lst yc) :: (I, oI) :: (Dk, W.listOf xs.toArray nk) :: (D3, LCg.lst y3) :: (Ds, W.listOf ys.toArray csn) :: (Df, LCg.lst ys) :: (D2, LCg.lst y2) :: (D1, LCg.lst y1) :: (L + 1 + 1 + 1 + 1 + 1, os) :: (L + 1 + 1 + 1 + 1, oh) :: (L + 1 + 1 + 1, c3o) :: (Dt, ({ cls := .type "tuple", data := .seq #[.ref D1, .ref D2] } : Obj)) :: ext) (by lcg_sub)
    clear Ih offH1 offH2 offX hyh1 hyh2 Ih1 Ih2 hltx
    walk1
    (try dsimp only)
    rename_i hhe ohe Fhe Nhe dhe
    have hc128 : ∀ c ∈ fc, c < 128 := fun c hc => by have := hcg c hc; omega
    have hcl9 : fc.length < 1000 := by omega
    have hfl9 : fl.length < 1000 := by omega
    -- rests
    walk_at "mine: up to an assign"
    refine Assign_ListComp_tup (L := L) (by k_asm) rfl rfl rfl (by decide) rfl (by decide) rfl rfl rfl ?_ (by intro _; rfl)
    walk_at "mine: up to a loop"
    refine ⟨44, _, _, rfl, rfl, ⟨_, KX _ _ (by k_is), rfl, _, rfl⟩, by rw [sizeLine_eq]; decide, by k_asm, by k_asm, ?_⟩
    intro g
    refine rest_objs (fun _ => trivial) 3 (fun i o => ∃ t1 t2, o = W.listOf #[.int ((rem (quadN i) (rowOf fc fl) (0, 1)).1 : Int) t1, .int ((rem (quadN i) (rowOf fc fl) (0, 1)).2 : Int) t2] 0) ?_ ?_
    · intro i v I oI C oC D m₂ ys h tk news' E' hi hP hC hx F' N' hsub
      have N2 : News s₁.heap L h ((I, oI) :: (C, oC) :: (D, LCg.lst ys) :: (Dh, W.listOf wh.toArray 0) :: (L + 1 + 1 + 1 + 1, ohe) :: news') := by
        intro p hp
        simp only [List.mem_cons] at hp
        rcases hp with hp | hp | hp | hp | hp | hp
        · exact N' p (hp ▸ .head _)
        · exact N' p (hp ▸ .tail _ (.head _))
        · exact N' p (hp ▸ .tail _ (.tail _ (.head _)))
        · exact N' p (.tail _ (.tail _ (.tail _ (hsub _ (hp ▸ by k_mem)))))
        · exact N' p (.tail _ (.tail _ (.tail _ (hsub _ (hp ▸ by k_mem)))))
        · exact N' p (.tail _ (.tail _ (.tail _ hp)))
      clear N' hsub
      match i, hi, hP with
      | 0, _, hP =>
        obtain rfl : v = .ref 41 := (Option.some.inj hP).symm
        (try dsimp only)
        walk_at "mine: up to a call"
        refine' rest_call (p := (0, 1)) (q := (30, 30)) (ns := rowOf fc fl) ?k1 ?k2 ?k3 ?k4 ?k5 ?k6 ?k7 ?k8 ?k9 ?j1 ?j2 ?j3 ?j4 ?j5 ?j6 ?_
        walk_at "mine: rest"
        walk_at "mine: up to a loop"
        exact ObjEnd.intro (by k_asm) (by k_asm) (by k_mem) (by lcg_sub) (AllNe_sub (by assumption) (by lcg_sub)) ⟨_, _, rfl⟩
      | 1, _, hP =>
        obtain rfl : v = .ref 42 := (Option.some.inj hP).symm
        (try dsimp only)
        walk_at "mine: up to a call"
        refine' rest_call (p := (0, 1)) (q := (27, 4)) (ns := rowOf fc fl) ?k1 ?k2 ?k3 ?k4 ?k5 ?k6 ?k7 ?k8 ?k9 ?j1 ?j2 ?j3 ?j4 ?j5 ?j6 ?_
        walk_at "mine: rest"
        walk_at "mine: up to a loop"
        exact ObjEnd.intro (by k_asm) (by k_asm) (by k_mem) (by lcg_sub) (AllNe_sub (by assumption) (by lcg_sub)) ⟨_, _, rfl⟩
      | 2, _, hP =>
        obtain rfl : v = .ref 43 := (Option.some.inj hP).symm
        (try dsimp only)
        walk_at "mine: up to a call"
        refine' rest_call (p := (0, 1)) (q := (24, 14)) (ns := rowOf fc fl) ?k1 ?k2 ?k3 ?k4 ?k5 ?k6 ?k7 ?k8 ?k9 ?j1 ?j2 ?j3 ?j4 ?j5 ?j6 ?_
        walk_at "mine: rest"
        walk_at "mine: up to a loop"
        exact ObjEnd.intro (by k_asm) (by k_asm) (by k_mem) (by lcg_sub) (AllNe_sub (by assumption) (by lcg_sub)) ⟨_, _, rfl⟩
      | k + 3, hi, _ => exact absurd hi (by omega)
    intro ds hds hG hN Dr hRx tkR FR NR offR
    (try dsimp only)
    obtain ⟨p0, p1, p2, rfl⟩ : ∃ a b c, ds = [a, b, c] := by
      rcases ds with _ | ⟨a, _ | ⟨b, _ | ⟨c, _ | ⟨d, r⟩⟩⟩⟩ <;> simp at hds
      exact ⟨a, b, c, rfl⟩
    obtain ⟨R0, oR0⟩ := p0
    obtain ⟨R1, oR1⟩ := p1
    obtain ⟨R2, oR2⟩ := p2
    obtain ⟨ta0, tb0, e0⟩ := hG 0 _ rfl
    obtain ⟨ta1, tb1, e1⟩ := hG 1 _ rfl
    obtain ⟨ta2, tb2, e2⟩ := hG 2 _ rfl
    replace e0 : oR0 = W.listOf #[.int ((rem (30, 30) (rowOf fc fl) (0, 1)).1 : Int) ta0, .int ((rem (30, 30) (rowOf fc fl) (0, 1)).2 : Int) tb0] 0 := e0
    replace e1 : oR1 = W.listOf #[.int ((rem (27, 4) (rowOf fc fl) (0, 1)).1 : Int) ta1, .int ((rem (27, 4) (rowOf fc fl) (0, 1)).2 : Int) tb1] 0 := e1
    replace e2 : oR2 = W.listOf #[.int ((rem (24, 14) (rowOf fc fl) (0, 1)).1 : Int) ta2, .int ((rem (24, 14) (rowOf fc fl) (0, 1)).2 : Int) tb2] 0 := e2
    have nR0 := hN (R0, oR0) (.head _)
    have nR1 := hN (R1, oR1) (.tail _ (.head _))
    have nR2 := hN (R2, oR2) (.tail _ (.tail _ (.head _)))
    dsimp only at nR0 nR1 nR2
    replace NR : News s₁.heap L hRx ((Dr, LCg.lst [.ref R0, .ref R1, .ref R2]) :: (R2, oR2) :: (R1, oR1) :: (R0, oR0) :: (Dh, W.listOf wh.toArray 0) :: (Dc, LCg.lst yc) :: (I, oI) :: (Dk, W.listOf xs.toArray nk) :: (D3, LCg.lst y3) :: (Ds, W.listOf ys.toArray csn) :: (Df, LCg.lst ys) :: (D2, LCg.lst y2) :: (D1, LCg.lst y1) :: (L + 1 + 1 + 1 + 1 + 1, os) :: (L + 1 + 1 + 1 + 1, ohe) :: (L + 1 + 1 + 1, c3o) :: (Dt, ({ cls := .type "tuple", data := .seq #[.ref D1, .ref D2] } : Obj)) :: ext) := NR
    replace offR : LCg.Off1 Dr ((R2, oR2) :: (R1, oR1) :: (R0, oR0) :: (Dh, W.listOf wh.toArray 0) :: (Dc, LCg.lst yc) :: (I, oI) :: (Dk, W.listOf xs.toArray nk) :: (D3, LCg.lst y3) :: (Ds, W.listOf ys.toArray csn) :: (Df, LCg.lst ys) :: (D2, LCg.lst y2) :: (D1, LCg.lst y1) :: (L + 1 + 1 + 1 + 1 + 1, os) :: (L + 1 + 1 + 1 + 1, ohe) :: (L + 1 + 1 + 1, c3o) :: (Dt, ({ cls := .type "tuple", data := .seq #[.ref D1, .ref D2] } : Obj)) :: ext) := offR
    clear hG hN hds
    -- six
    walk_at "mine: up to a call"
    refine' create_call (co := fc) (ds := fl) ?k1 ?k2 ?k3 ?k4 ?k5 ?k6 ?k7 ?k8 ?k9 ?j1 ?j2 ?j3 ?_
    case k1 => k_asm
    case k2 => k_asm
    case k3 => k_asm
    case k4 => k_asm
    case k5 => exact rfl
    case k6 => ktr_room
    case k7 => decide
    case k8 => exact hc128
    case k9 => exact hcl9
    case j1 => exact .inl ⟨_, News.get (by k_asm) (by k_mem), rfl, _, rfl⟩
    case j2 => exact I4
    case j3 => exact hfl9
    walk_at "mine: backM"
    walk_at "mine: up to a store"
    rename_i S usS nS hS tkS IS FS NS neS
    replace IS : IntsAre usS ((six (rowOf fc fl)).map Int.ofNat) := IS
    have hlS : usS.length = 6 := by rw [IntsAre.length IS, List.length_map]; rfl
    walk1
    (try dsimp only)
    rename_i hs6 os6 F6 N6 d6
    walk_at "mine: up to a builtin"
    refine PySem.IsiPair.list_list (News.get (by k_asm) (by k_mem)) rfl ?_
    walk_at "mine: up to a builtin"
    refine len_ints_fit (vs := usS) (ns := (six (rowOf fc fl)).map Int.ofNat) ⟨_, News.get (by k_asm) (by k_mem), rfl, _, rfl⟩ IS (by rw [List.length_map, six_len]; decide) ?_
    rw [show (((((six (rowOf fc fl)).map Int.ofNat).length : Nat)) : Int) = 6 by rw [List.length_map]; rfl]
    (try dsimp only)
    walk_at "mine: up to a loop"
    refine For_invV s₁.heap rfl rfl ?_
    walk_at "mine: up to a loop"
    refine iter_lstK (vs := usS) (n := nS) rfl F6 N6 (by k_mem) rfl rfl ?_ ?_
    · intro i6 v6 I6 oI6 h tk hv6 hne6 Fv Nv
      obtain ⟨z6, t6, rfl, hz6⟩ := ints_at IS hv6
      have hz32 : z6 < 32 := six_lt _ z6 (List.mem_of_getElem? hz6)
      replace Fv : Fr s₁.heap L h _ := Fv
      replace Nv : News s₁.heap L h _ := Nv
      (try dsimp only)
      walk_at "mine: up to a builtin"
      refine PySem.IsiPair.int_bool ?_
      (try dsimp only)
      walk_at "mine: up to a compare"
      iterate 6 (walk_at "mine: step")
      rw [show decide ((z6 : Int) < 32) = true from decide_eq_true (by omega)]
      walk_at "mine: up to a loop"
      exact UnrEnd.intro Fv Nv _ (fun _ hp => hp) hne6 ⟨rfl, fun y hy => if_neg hy⟩
    clear F6 N6
    intro ov h6 tk6 F6 N6
    replace F6 : Fr s₁.heap L h6 _ := F6
    replace N6 : News s₁.heap L h6 _ := N6
    (try dsimp only)
    walk_at "mine: up to a call"
    refine' fits_call (p0 := rem (30, 30) (rowOf fc fl) (0, 1)) (p1 := rem (27, 4) (rowOf fc fl) (0, 1)) (p2 := rem (24, 14) (rowOf fc fl) (0, 1)) (a0 := ta0) (b0 := tb0) (a1 := ta1) (b1 := tb1) (a2 := ta2) (b2 := tb2) (l0 := R0) (l1 := R1) (l2 := R2) (vs := usS) (ns := six (rowOf fc fl)) ?k1 ?k2 ?k3 ?k4 ?k5 ?k6 ?k7 ?hr ?h0 ?h01 ?h02 ?h1 ?h11 ?h12 ?h2 ?h21 ?h22 ?hl ?hi ?hn ?_
    case k1 => k_asm
    case k2 => k_asm
    case k3 => k_asm
    case k4 => k_asm
    case k5 => exact rfl
    case k6 => ktr_room
    case k7 => decide
    case hr => exact ⟨_, News.get (by k_asm) (by k_mem), rfl, _, rfl⟩
    case h0 => exact ⟨_, News.get (a := R0) (o := oR0) (by k_asm) (by k_mem), by rw [e0], _, by rw [e0]⟩
    case h01 => exact (rem_lt _ _ _ (by decide) (by decide) hrow).1
    case h02 => exact (rem_lt _ _ _ (by decide) (by decide) hrow).2
    case h1 => exact ⟨_, News.get (a := R1) (o := oR1) (by k_asm) (by k_mem), by rw [e1], _, by rw [e1]⟩
    case h11 => exact (rem_lt _ _ _ (by decide) (by decide) hrow).1
    case h12 => exact (rem_lt _ _ _ (by decide) (by decide) hrow).2
    case h2 => exact ⟨_, News.get (a := R2) (o := oR2) (by k_asm) (by k_mem), by rw [e2], _, by rw [e2]⟩
    case h21 => exact (rem_lt _ _ _ (by decide) (by decide) hrow).1
    case h22 => exact (rem_lt _ _ _ (by decide) (by decide) hrow).2
    case hl => exact ⟨_, News.get (by k_asm) (by k_mem), rfl, _, rfl⟩
    case hi => exact IS
    case hn => exact six_lt _
    rw [fits_split, fits_six _ hrow]
    intro h7 tk7 hk7
    have F7 := Fr.keeps F6 hk7
    have N7 := News.grown N6 hk7
    clear hk7 F6 N6
    (try dsimp only)
    walk_at "mine: up to a loop"
    refine LCg.CompSrc.range (n := 6) (by rfl) (by k_asm) (by k_asm) (by assumption) (by decide) (by decide) (by decide) ?_
    intro g
    refine rest_any trivial _ (· < 32) ?_ ?_
    · intro i v I oI C oC D m₂ ys h tk E' hi hP hC hx F' N'
      obtain ⟨t, rfl⟩ := hP
      (try dsimp only)
      walk_at "mine: up to an item"
      refine item_list_ints (vs := usS) (ns := (six (rowOf fc fl)).map Int.ofNat) ⟨_, News.get (by k_asm) (by k_mem), rfl, _, rfl⟩ IS (by omega) (by rw [List.length_map, six_len]; omega) (by omega) ?_
      intro t8
      (try dsimp only)
      walk_at "mine: up to an item"
      refine item_list_ints (vs := y3) (ns := f3.map Int.ofNat) ⟨_, News.get (by k_asm) (by k_mem), rfl, _, rfl⟩ I5 (by omega) (by rw [List.length_map]; omega) (by omega) ?_
      intro t9
      (try dsimp only)
      walk_at "mine: up to a loop"
      obtain ⟨z, hz, h1⟩ := hurt_val (six_lt (rowOf fc fl)) h3g (0 + (i : Int)).toNat (0 + (i : Int)).toNat
      exact EltEnd.intro (by k_asm) (by k_asm) (fun _ hp => hp) ⟨z, _, congrArg (fun x => Value.int x _) hz, h1⟩
    intro yh hn hnl hng Ihn Dn hhn tkn Fn Nn offn
    (try dsimp only)
    walk_at "mine: up to a call"
    rename_i Dw ww hww Fw Nw Iw lw
    replace Iw : IntsAre ww ((fl ++ hn).map Int.ofNat) := by rw [List.map_append]; exact Iw
    refine' verify_call (co := fc) (ds := fl ++ hn) (vs := ww) ?k1 ?k2 ?k3 ?k4 ?k5 ?k6 ?k7 ?hc ?hlen ?hl ?hi ?hdl ?_
    case k1 => k_asm
    case k2 => k_asm
    case k3 => k_asm
    case k4 => k_asm
    case k5 => exact rfl
    case k6 => ktr_room
    case k7 => decide
    case hc => exact hc128
    case hlen => exact hcl9
    case hl => exact ⟨_, News.get (by k_asm) (by k_mem), rfl, _, rfl⟩
    case hi => exact Iw
    case hdl => rw [List.length_append]; omega
    rw [fits_told hrow hng]
    intro h8 tk8 hk8
    have F8 := Fr.keeps Fw hk8
    have N8 := News.grown Nw hk8
    clear hk8 Fw Nw
    (try dsimp only)
    walk_at "mine: up to a builtin"
    refine PySem.IsiPair.bool_bool ?_
    (try dsimp only)
    walk_at "mine: up to a call"
    rename_i hwt Fw Nw
    refine' fits_call (p0 := rem (30, 30) (rowOf fc fl) (0, 1)) (p1 := rem (27, 4) (rowOf fc fl) (0, 1)) (p2 := rem (24, 14) (rowOf fc fl) (0, 1)) (a0 := ta0) (b0 := tb0) (a1 := ta1) (b1 := tb1) (a2 := ta2) (b2 := tb2) (l0 := R0) (l1 := R1) (l2 := R2) (vs := yh) (ns := hn) ?k1 ?k2 ?k3 ?k4 ?k5 ?k6 ?k7 ?hr ?h0 ?h01 ?h02 ?h1 ?h11 ?h12 ?h2 ?h21 ?h22 ?hl ?hi ?hn ?_
    case k1 => k_asm
    case k2 => k_asm
    case k3 => k_asm
    case k4 => k_asm
    case k5 => exact rfl
    case k6 => ktr_room
    case k7 => decide
    case hr => exact ⟨_, News.get (by k_asm) (by k_mem), rfl, _, rfl⟩
    case h0 => exact ⟨_, News.get (a := R0) (o := oR0) (by k_asm) (by k_mem), by rw [e0], _, by rw [e0]⟩
    case h01 => exact (rem_lt _ _ _ (by decide) (by decide) hrow).1
    case h02 => exact (rem_lt _ _ _ (by decide) (by decide) hrow).2
    case h1 => exact ⟨_, News.get (a := R1) (o := oR1) (by k_asm) (by k_mem), by rw [e1], _, by rw [e1]⟩
    case h11 => exact (rem_lt _ _ _ (by decide) (by decide) hrow).1
    case h12 => exact (rem_lt _ _ _ (by decide) (by decide) hrow).2
    case h2 => exact ⟨_, News.get (a := R2) (o := oR2) (by k_asm) (by k_mem), by rw [e2], _, by rw [e2]⟩
    case h21 => exact (rem_lt _ _ _ (by decide) (by decide) hrow).1
    case h22 => exact (rem_lt _ _ _ (by decide) (by decide) hrow).2
    case hl => exact ⟨_, News.get (by k_asm) (by k_mem), rfl, _, rfl⟩
    case hi => exact Ihn
    case hn => exact hng
    rw [fits_split]
    intro h9 tk9 hk9
    have F9 := Fr.keeps Fw hk9
    have N9 := News.grown Nw hk9
    clear hk9 Fw Nw
    generalize fits (rowOf fc fl ++ hn) = bt at *
    (try dsimp only)
    iterate 2 (walk_at "mine: step")
    rw [if_neg (by cases bt <;> decide)]
    (try dsimp only)
    walk_at "mine: up to a builtin"
    rename_i Sp cp hsp lsp Tp htp Ftp Ntp ltp
    have hSext : ∀ p ∈ ext, p.1 ≠ S := fun p hp => AllNe_all neS p (by repeat (first | exact hp | refine List.mem_cons_of_mem _ ?_))
    have hIext : ∀ p ∈ ext, p.1 ≠ I := fun p hp => hoff p (by repeat (first | exact hp | refine List.mem_cons_of_mem _ ?_))
    replace Ntp : News s₁.heap L htp ((Dk, W.listOf xs.toArray nk) :: (S, W.listOf usS.toArray nS) :: (I, oI) :: (Tp, keptO fc ttx Sp) :: (Sp, W.listOf usS.toArray cp) :: (D3, LCg.lst y3) :: (Ds, W.listOf ys.toArray csn) :: (Df, LCg.lst ys) :: (D2, LCg.lst y2) :: (D1, LCg.lst y1) :: (L + 1 + 1 + 1 + 1 + 1, os6) :: (L + 1 + 1 + 1 + 1, ohe) :: (L + 1 + 1 + 1, c3o) :: (Dt, ({ cls := .type "tuple", data := .seq #[.ref D1, .ref D2] } : Obj)) :: ext) := by
      refine News.sub Ntp ?_
      intro p hp
      simp only [List.mem_cons] at hp
      rcases hp with rfl | rfl | rfl | rfl | rfl | rfl | rfl | rfl | rfl | rfl | rfl | rfl | rfl | rfl | hp
      all_goals first | k_mem | skip
      repeat (first | exact hp | refine List.mem_cons_of_mem _ ?_)
    have hapK : ∀ p ∈ (S, W.listOf usS.toArray nS) :: (I, oI) :: (Tp, keptO fc ttx Sp) :: (Sp, W.listOf usS.toArray cp) :: (D3, LCg.lst y3) :: (Ds, W.listOf ys.toArray csn) :: (Df, LCg.lst ys) :: (D2, LCg.lst y2) :: (D1, LCg.lst y1) :: (L + 1 + 1 + 1 + 1 + 1, os6) :: (L + 1 + 1 + 1 + 1, ohe) :: (L + 1 + 1 + 1, c3o) :: (Dt, ({ cls := .type "tuple", data := .seq #[.ref D1, .ref D2] } : Obj)) :: ext, p.1 ≠ Dk := by k_all
    have hi2 : i < 2 := (List.getElem?_eq_some_iff.mp hiv).1
    refine append_head Ftp Ntp hapK ?_ (by rw [sizeLine_eq, List.size_toArray, hxl]; omega)
    clear hapK Ntp Ftp
    intro hap Fap Nap
    rw [List.push_toArray] at Nap
    (try dsimp only)
    walk_at "mine: up to a builtin"
    replace Nap : News s₁.heap L hap ((S, W.listOf usS.toArray nS) :: (I, oI) :: (Dk, W.listOf (xs ++ [Value.ref Tp]).toArray (nk + 1)) :: (D3, LCg.lst y3) :: (Ds, W.listOf ys.toArray csn) :: (Df, LCg.lst ys) :: (D2, LCg.lst y2) :: (D1, LCg.lst y1) :: (L + 1 + 1 + 1 + 1 + 1, os6) :: (L + 1 + 1 + 1 + 1, ohe) :: (L + 1 + 1 + 1, c3o) :: (Dt, ({ cls := .type "tuple", data := .seq #[.ref D1, .ref D2] } : Obj)) :: (Tp, keptO fc ttx Sp) :: (Sp, W.listOf usS.toArray cp) :: ext) := by
      refine News.sub Nap ?_
      intro p hp
      simp only [List.mem_cons] at hp
      rcases hp with rfl | rfl | rfl | rfl | rfl | rfl | rfl | rfl | rfl | rfl | rfl | rfl | rfl | rfl | hp
      all_goals first | k_mem | skip
      repeat (first | exact hp | refine List.mem_cons_of_mem _ ?_)
    have hapS : ∀ p ∈ (I, oI) :: (Dk, W.listOf (xs ++ [Value.ref Tp]).toArray (nk + 1)) :: (D3, LCg.lst y3) :: (Ds, W.listOf ys.toArray csn) :: (Df, LCg.lst ys) :: (D2, LCg.lst y2) :: (D1, LCg.lst y1) :: (L + 1 + 1 + 1 + 1 + 1, os6) :: (L + 1 + 1 + 1 + 1, ohe) :: (L + 1 + 1 + 1, c3o) :: (Dt, ({ cls := .type "tuple", data := .seq #[.ref D1, .ref D2] } : Obj)) :: (Tp, keptO fc ttx Sp) :: (Sp, W.listOf usS.toArray cp) :: ext, p.1 ≠ S := by k_all
    refine reverse_head Fap Nap hapS ?_ (by rw [sizeLine_eq, List.size_toArray, hlS]; omega)
    clear hapS Nap Fap
    intro hrv Frv Nrv
    (try dsimp only)
    walk_at "mine: up to a loop"
    have hoffI : ∀ p ∈ (Dk, W.listOf (xs ++ [Value.ref Tp]).toArray (nk + 1)) :: (D3, LCg.lst y3) :: (Ds, W.listOf ys.toArray csn) :: (Df, LCg.lst ys) :: (D2, LCg.lst y2) :: (D1, LCg.lst y1) :: (L + 1 + 1 + 1 + 1 + 1, os6) :: (L + 1 + 1 + 1 + 1, ohe) :: (L + 1 + 1 + 1, c3o) :: (Dt, ({ cls := .type "tuple", data := .seq #[.ref D1, .ref D2] } : Obj)) :: (Tp, keptO fc ttx Sp) :: (Sp, W.listOf usS.toArray cp) :: ext, p.1 ≠ I := by k_all
    have hx1 : ∀ p ∈ (Tp, keptO fc ttx Sp) :: (Sp, W.listOf usS.toArray cp) :: ext, p.1 ≠ Dk := by k_all
    have hx2 : ∀ p ∈ (Tp, keptO fc ttx Sp) :: (Sp, W.listOf usS.toArray cp) :: ext, p.1 ≠ L + 1 + 1 + 1 + 1 + 1 := by k_all
    have hx3 : ∀ p ∈ (Tp, keptO fc ttx Sp) :: (Sp, W.listOf usS.toArray cp) :: ext, p.1 ≠ L + 1 + 1 + 1 + 1 := by k_all
    refine UnrEnd.intro Frv Nrv ((Dk, W.listOf (xs ++ [Value.ref Tp]).toArray (nk + 1)) :: (D3, LCg.lst y3) :: (Ds, W.listOf ys.toArray csn) :: (Df, LCg.lst ys) :: (D2, LCg.lst y2) :: (D1, LCg.lst y1) :: (L + 1 + 1 + 1 + 1 + 1, os6) :: (L + 1 + 1 + 1 + 1, ohe) :: (L + 1 + 1 + 1, c3o) :: (Dt, ({ cls := .type "tuple", data := .seq #[.ref D1, .ref D2] } : Obj)) :: (Tp, keptO fc ttx Sp) :: (Sp, W.listOf usS.toArray cp) :: ext) (fun _ hp => .tail _ hp) hoffI ⟨by k_mem, rfl, rfl, rfl, xs ++ [Value.ref Tp], nk + 1, ohe, os6, (Tp, keptO fc ttx Sp) :: (Sp, W.listOf usS.toArray cp) :: ext, rfl, ⟨_, d6⟩, ⟨_, dhe⟩, by rw [List.length_append, hxl]; rfl, hx1, hx2, hx3, ?_⟩
    intro _
    by_cases hi0 : i = 0
    · subst hi0
      obtain rfl := hc0 rfl
      obtain rfl := List.length_eq_zero_iff.mp hxl
      exact ⟨Tp, Sp, usS, cp, ttx, rfl, .head _, .tail _ (.head _), IS⟩
    · obtain ⟨T1, S1, us1, nS1, t1, a1, a2, a3, a4⟩ := hlast (by omega)
      refine ⟨T1, S1, us1, nS1, t1, ?_, .tail _ (.tail _ a2), .tail _ (.tail _ a3), a4⟩
      rw [List.getElem?_append_left (by omega)]
      exact a1
  intro m₁ nx h tk hmt hJ Fx Nx
  obtain ⟨j1, j2, j3, xs, nk, oh, os, ext, rfl, ⟨xo, dos⟩, ⟨xh, doh⟩, hxl, he1, he2, he3, hlast⟩ := hJ
  obtain ⟨T1, S1, us1, nS1, t1, a1, a2, a3, IS1⟩ := hlast (Nat.zero_lt_succ _)
  obtain ⟨x0, x1, rfl⟩ : ∃ a b, xs = [a, b] := by
    rcases xs with _ | ⟨a, _ | ⟨b, _ | ⟨c, r⟩⟩⟩ <;> simp at hxl
    exact ⟨a, b, rfl⟩
  obtain rfl : x0 = .ref T1 := Option.some.inj a1
  replace Fx : Fr s₁.heap L h _ := end3 Fx j1 j2 j3
  replace Nx : News s₁.heap L h ((Dk, W.listOf #[Value.ref T1, x1] nk) :: (Ds, W.listOf ys.toArray csn) :: (Df, LCg.lst ys) :: (T1, ({ cls := .type "tuple", data := .seq #[.str ⟨f1.toArray⟩ t1, .ref S1] } : Obj)) :: (S1, W.listOf us1.toArray nS1) :: []) := by
    intro p hp
    simp only [List.mem_cons, List.not_mem_nil, or_false] at hp
    rcases hp with rfl | rfl | rfl | rfl | rfl
    · exact Nx _ (by k_mem)
    · exact Nx _ (by k_mem)
    · exact Nx _ (by k_mem)
    · exact Nx _ (by repeat (first | exact a2 | refine List.mem_cons_of_mem _ ?_))
    · exact Nx _ (by repeat (first | exact a3 | refine List.mem_cons_of_mem _ ?_))
  clear hlast a1 a2 a3 hmt hxl he1 he2 he3
  (try dsimp only)
  walk_at "mine: up to a compare"
  refine ne_intsK (vs := ys) (ns := fl.map Int.ofNat) (us := ys) (ms := fl.map Int.ofNat) ⟨_, News.get (by k_asm) (by k_mem), rfl, _, rfl⟩ I4 ⟨_, News.get (by k_asm) (by k_mem), rfl, _, rfl⟩ I4 (by simp only [units_deeper, units_caller]; decide) ?_
  rw [show (!decide (fl.map Int.ofNat = fl.map Int.ofNat)) = false by rw [decide_eq_true rfl]; rfl]
  (try dsimp only)
  walk_at "mine: up to an item"
  walk_at "mine: up to a call"
  rename_i Dz hz Fz Nz kz
  clear kz
  refine' create_call (co := f1) (ds := fl) (vs := ys) ?k1 ?k2 ?k3 ?k4 ?k5 ?k6 ?k7 ?k8 ?k9 ?j1 ?j2 ?j3 ?_
  case k1 => k_asm
  case k2 => k_asm
  case k3 => k_asm
  case k4 => k_asm
  case k5 => exact rfl
  case k6 => ktr_room
  case k7 => decide
  case k8 => exact fun c hc => by have := h1g c hc; omega
  case k9 => omega
  case j1 => exact .inr ⟨_, News.get (by k_asm) (by k_mem), rfl, _, rfl⟩
  case j2 => exact I4
  case j3 => omega
  walk_at "mine: backM"
  walk_at "mine: up to a compare"
  rename_i Dv us9 n9 h9 tk9 I9 F9 N9 ne9
  replace I9 : IntsAre us9 ((six (rowOf f1 fl)).map Int.ofNat) := I9
  refine eq_intsK (vs := us9) (ns := (six (rowOf f1 fl)).map Int.ofNat) (us := us1) (ms := (six (rowOf f1 fl)).map Int.ofNat) ⟨_, News.get (by k_asm) (by k_mem), rfl, _, rfl⟩ I9 ⟨_, News.get (by k_asm) (by k_mem), rfl, _, rfl⟩ IS1 (by simp only [units_deeper, units_caller]; decide) ?_
  rw [decide_eq_true rfl]
  exact ret _ _ _ F9)

end Mine
open PySem PySem.W PyProof.Rows
theorem PySem.Challenge.cw_fw0002_01_holds : PySem.Challenge.rw_fw0002_01.Holds := by
  exact Mine.law_holds
