import PyProof.Rows.All
import Wide.All
import OpenK.AllK
import Wide.FinOn
import PySem.Challenge.RW_hi0005_01
open PySem PySem.W PyProof.Rows PySem.Spec PySem.Calls
set_option Elab.async false
set_option compiler.extract_closed false
set_option maxRecDepth 100000
set_option maxHeartbeats 8000000
namespace Mine
open_top hd for PySem.Challenge.rw_hi0005_01
theorem quiet : True := by
  w_top off
  exact trivial
end Mine
section
namespace Mine
def Hold (P : Prop) : Prop := P
theorem hold {P : Prop} (h : Hold P) : P := h
theorem Hold.out {P : Prop} (h : Hold P) : P := h
theorem unhold {P : Prop} (h : P) : Hold P := h
theorem allLt_get {d : Addr} {l : List (Addr × Obj)} (h : AllLt d l) (p : Addr × Obj) (hp : p ∈ l) : p.1 < d := by
  induction l with
  | nil => cases hp
  | cons x r ih =>
    rcases List.mem_cons.mp hp with e | e
    · rw [e]; exact h.1
    · exact ih h.2 e
theorem allLt_ne {b d : Addr} {l : List (Addr × Obj)} (h : AllLt b l) (hb : @LE.le Nat _ b d) : ∀ p ∈ l, p.1 ≠ d := fun p hp => Nat.ne_of_lt (Nat.lt_of_lt_of_le (allLt_get h p hp) hb)
theorem app_ne {d : Addr} {a b : List (Addr × Obj)} (ha : ∀ p ∈ a, p.1 ≠ d) (hb : ∀ p ∈ b, p.1 ≠ d) : ∀ p ∈ a ++ b, p.1 ≠ d := fun p hp => (List.mem_append.mp hp).elim (ha p) (hb p)
theorem allLt_mk {d : Addr} {l : List (Addr × Obj)} (h : ∀ p ∈ l, p.1 < d) : AllLt d l := allLt_of h
theorem allLt_right {d : Addr} {a b : List (Addr × Obj)} (h : AllLt d (a ++ b)) : AllLt d b := allLt_of fun p hp => allLt_get h p (List.mem_append_right _ hp)
theorem allLt_left {d : Addr} {a b : List (Addr × Obj)} (h : AllLt d (a ++ b)) : AllLt d a := allLt_of fun p hp => allLt_get h p (List.mem_append_left _ hp)
theorem news_lt {h₀ h : Heap} {L : Addr} {news : List (Addr × Obj)} (N : News h₀ L h news) : ∀ q ∈ news, q.1 < h.objs.size := fun q hq => Heap.lt_size (N q hq).1
theorem allLt_up {d : Addr} {l : List (Addr × Obj)} (h : AllLt d l) : AllLt (d + 1) l := allLt_of fun p hp => Nat.lt_succ_of_lt (allLt_get h p hp)
theorem nl {d : Addr} {a b : List (Addr × Obj)} (h : AllLt d (a ++ b)) : ∀ p ∈ a, p.1 ≠ d := allLt_ne (allLt_left h) (Nat.le_refl _)
theorem nr {d : Addr} {a b : List (Addr × Obj)} (h : AllLt d (a ++ b)) : ∀ p ∈ b, p.1 ≠ d := allLt_ne (allLt_right h) (Nat.le_refl _)
theorem nn {d : Addr} {l : List (Addr × Obj)} (h : AllLt d l) : ∀ p ∈ l, p.1 ≠ d := allLt_ne h (Nat.le_refl _)
theorem ns1 {a : Nat} : a + 1 ≠ a := Nat.ne_of_gt (Nat.lt_succ_self _)
theorem ns2 {a : Nat} : a + 1 + 1 ≠ a := Nat.ne_of_gt (Nat.lt_succ_of_lt (Nat.lt_succ_self _))
theorem nq1 {a : Nat} : a ≠ a + 1 := Nat.ne_of_lt (Nat.lt_succ_self _)
theorem nq2 {a : Nat} : a ≠ a + 1 + 1 := Nat.ne_of_lt (Nat.lt_succ_of_lt (Nat.lt_succ_self _))
theorem allLt_tr {d f : Addr} {l : List (Addr × Obj)} (h : AllLt d l) (q : @LT.lt Nat _ d f) : AllLt f l := allLt_of fun p hp => Nat.lt_trans (allLt_get h p hp) q

end Mine
end
local macro_rules | `(tactic| k_enter) => `(tactic| first
  | (refine' code_def ?k1 ?k2 ?k3 ?k4 ?k5 ?kA ?kF ?kK ?k6 ?k7 ?k8 ?k9 ?kB ?_ ?c2 ?c3 ?c4 ?c5; (case kA => exact rfl); (case kF => exact rfl); (case kK => first | exact rfl | assumption); (case k1 => k_asm); (case k2 => k_asm); (case k3 => k_asm); (case k4 => k_asm); (case k5 => k_asm); (case k6 => k_is); (case k7 => k_is); (case k8 => first | k_room | ktr_room); (case k9 => first | exact BindsTo.of_eq rfl | exact binds_K (by k_in) rfl (by k_is) rfl rfl rfl | exact kp_binds (by k_in) (fun _ => rfl) | fail "k_enter: no rule for these arguments"); (case c5 => decide); (case kB => exact locs rfl); (case c2 => exact rfl); (case c3 => exact rfl); (case c4 => exact rfl); k_whole; intro g' L' h' FG' F' N' B' X' T'; (try dsimp only); (try k_lift B'); (try k_fold))
  | (refine' code_defC ?k1 ?k2 ?k3 ?k4 ?k5 ?kA ?kF ?kK ?k6 ?k7 ?k8 ?k9 ?kB ?kD ?_ ?c2 ?c3 ?c4; (case kA => exact rfl); (case kF => exact rfl); (case kK => first | exact rfl | assumption); (case k1 => k_asm); (case k2 => k_asm); (case k3 => k_asm); (case k4 => k_asm); (case k5 => k_asm); (case k6 => k_is); (case k7 => k_is); (case k8 => first | k_room | ktr_room); (case k9 => first | exact BindsTo.of_eq rfl | exact binds_K (by k_in) rfl (by k_is) rfl rfl rfl | exact kp_binds (by k_in) (fun _ => rfl) | fail "k_enter: no rule for these arguments"); (case kB => exact rfl); (case kD => decide +kernel); (case c2 => exact rfl); (case c3 => exact rfl); (case c4 => exact rfl); k_whole; intro g' L' h' tk' cells' FG' F' N' Y' B' X' T' l1; (try k_lt l1); (try have l2 := Mine.allLt_up l1); (try have l3 := Mine.allLt_up l2); (try have l4 := Mine.allLt_up l3); (try have l5 := Mine.allLt_up l4); k_cells Y'; (try simp only [List.cons_append, List.nil_append] at N'); (try dsimp only); (try k_lift B'); (try k_fold)))
local macro_rules | `(tactic| k_room) => `(tactic| ktr_room)
local macro_rules | `(tactic| kn_enter) => `(tactic| (refine' code_nest ?k1 ?k2 ?k3 ?k4 ?k5 ?kA ?kF ?kK ?k6 ?k7 ?k8 ?k9 ?kB ?_ ?c2 ?c3 ?c4 ?c5; (case kA => exact rfl); (case kF => exact rfl); (case kK => first | exact rfl | assumption); (case k1 => k_asm); (case k2 => k_asm); (case k3 => k_asm); (case k4 => k_asm); (case k5 => k_asm); (case k6 => k_mem); (case k7 => exact codeRec_news (by k_asm) (by k_mem) (by assumption) (by assumption)); (case k8 => first | k_room | ktr_room); (case k9 => exact BindsTo.of_eq rfl); (case c5 => decide); (case kB => exact locs rfl); (case c2 => exact rfl); (case c3 => exact rfl); (case c4 => exact rfl); k_whole; intro g' L' h' FG' F' N' B' X' T'; (try dsimp only); (try k_lift B'); (try k_fold)))
local macro_rules | `(tactic| walk_at "find upd") => `(tactic| first | (refine' UpdF.head ?a; (case a => k_all)) | (refine' UpdF.tail ?a ?b; (case b => walk_at "find upd"); (case a => k_ne)))
local macro_rules | `(tactic| walk_at "tail") => `(tactic| first | with_reducible assumption | (refine List.mem_cons_of_mem _ ?_; walk_at "tail"))
local macro_rules | `(tactic| walk_at "mem") => `(tactic| first | exact List.Mem.head _ | (refine List.Mem.tail _ ?_; walk_at "mem"))
local macro_rules | `(tactic| walk_at "sub") => `(tactic| first | exact List.forall_mem_nil _ | (refine List.forall_mem_cons.mpr (And.intro ?_ ?_); (focus (walk_at "mem")); walk_at "sub") | (intro p9 hp9; walk_at "tail"))
local macro_rules | `(tactic| walk_at "lt of") => `(tactic| (rename AllLt _ _ => hA9; first | exact hA9.1 | exact hA9.2.1 | exact hA9.2.2.1 | exact hA9.2.2.2.1 | exact hA9.2.2.2.2.1 | exact hA9.2.2.2.2.2.1 | exact hA9.2.2.2.2.2.2.1 | exact hA9.2.2.2.2.2.2.2.1 | exact hA9.2.2.2.2.2.2.2.2.1 | exact hA9.2.2.2.2.2.2.2.2.2.1 | exact hA9.2.2.2.2.2.2.2.2.2.2.1 | exact hA9.2.2.2.2.2.2.2.2.2.2.2.1 | (clear hA9; walk_at "lt of")))
local macro_rules | `(tactic| walk_at "all of") => `(tactic| (rename AllLt _ _ => hA9; first | exact hA9 | exact hA9.2 | exact hA9.2.2 | exact hA9.2.2.2 | exact hA9.2.2.2.2 | exact hA9.2.2.2.2.2 | exact hA9.2.2.2.2.2.2 | exact hA9.2.2.2.2.2.2.2 | exact hA9.2.2.2.2.2.2.2.2 | exact hA9.2.2.2.2.2.2.2.2.2 | exact hA9.2.2.2.2.2.2.2.2.2.2 | exact hA9.2.2.2.2.2.2.2.2.2.2.2 | (clear hA9; walk_at "all of")))
local macro_rules | `(tactic| walk_at "tail ne") => `(tactic| (rename AllLt _ _ => hA9; first | exact Mine.nl hA9 | exact Mine.nr hA9 | exact Mine.nn hA9 | exact Mine.nl hA9.2 | exact Mine.nr hA9.2 | exact Mine.nn hA9.2 | exact Mine.nl hA9.2.2 | exact Mine.nr hA9.2.2 | exact Mine.nn hA9.2.2 | exact Mine.nl hA9.2.2.2 | exact Mine.nr hA9.2.2.2 | exact Mine.nn hA9.2.2.2 | exact Mine.nl hA9.2.2.2.2 | exact Mine.nr hA9.2.2.2.2 | exact Mine.nn hA9.2.2.2.2 | exact Mine.nl hA9.2.2.2.2.2 | exact Mine.nr hA9.2.2.2.2.2 | exact Mine.nn hA9.2.2.2.2.2 | exact Mine.nl hA9.2.2.2.2.2.2 | exact Mine.nr hA9.2.2.2.2.2.2 | exact Mine.nn hA9.2.2.2.2.2.2 | exact Mine.nl hA9.2.2.2.2.2.2.2 | exact Mine.nr hA9.2.2.2.2.2.2.2 | exact Mine.nn hA9.2.2.2.2.2.2.2 | exact Mine.nl hA9.2.2.2.2.2.2.2.2 | exact Mine.nr hA9.2.2.2.2.2.2.2.2 | exact Mine.nn hA9.2.2.2.2.2.2.2.2 | (clear hA9; walk_at "tail ne")))
local macro_rules | `(tactic| k_lt $h:ident) => `(tactic| (replace $h := allLt_of $h))
local macro_rules | `(tactic| k_ne) => `(tactic| (refine neN ?_; (try dsimp only); first | exact Nat.ne_of_lt (by walk_at "lt of") | exact Nat.ne_of_gt (by walk_at "lt of") | exact Mine.ns1 | exact Mine.nq1 | exact Mine.ns2 | exact Mine.nq2 | exact Nat.ne_of_lt (by with_reducible assumption) | exact Nat.ne_of_gt (by with_reducible assumption) | omega))
local macro_rules | `(tactic| k_all) => `(tactic| first | with_reducible assumption | exact List.forall_mem_nil _ | (refine List.forall_mem_cons.mpr (And.intro ?_ ?_); (focus k_ne); k_all) | walk_at "tail ne" | (refine Mine.app_ne ?_ ?_; (focus k_all); k_all))
local macro_rules | `(tactic| k_lt2 $h:ident) => `(tactic| (rename AllLt _ _ => hA9; have hB9 := Mine.allLt_tr hA9 $h))
section
namespace Mine
section
variable {p : Program} {loose : List Str} {mean : ExcName → Option Value} {mg mb : Str → Option Value} {w : World}
  {dp un : Nat} {gd : Option (List Code)} {cn : Str} {cs : Scope} {a : Addr} {ccd : Value} {cl : List (Str × Addr)} {outer : List Env} {A₀ : Around} {base h₀ : Heap} {L : Addr} {m : Str → Option Value} {s : Shared} {Q E : Value → Shared → Prop} {news : List (Addr × Obj)}
theorem intBits_lt {x : Int} {k : Nat} (h0 : 0 ≤ x) (h : x < 2 ^ k) : Builtin.Int.intBits x ≤ k := by
  unfold Builtin.Int.intBits
  obtain ⟨n, rfl⟩ := Int.eq_ofNat_of_zero_le h0
  by_cases hn : n = 0
  · subst hn; simp
  · have h1 : ((n : Int) == 0) = false := by simp; omega
    rw [h1]
    have h2 : n < 2 ^ k := by exact_mod_cast h
    have h3 := (Nat.log2_lt hn).mpr h2
    show n.log2 + 1 ≤ k
    omega
theorem div2n1n_c {x y z : Int} {tx ty tz : Tok}
  (B : Below A₀ base outer h₀) (F : Fr h₀ L s.heap m) (X : (Mine.hd.heap_39 w.params).In h₀) (T : Top p loose mean mg mb h₀) (hk : cs.kind = .function) (N : News h₀ L s.heap news)
  (hdp : dp + 1 < recursionLimit) (hun : un + 8 < cLine) (hx : 0 ≤ x) (hxb : x < 1099511627776) (hy : 0 < y) (hyb : y < 1048576) (hz : 0 ≤ z)
  (hret : ∀ r tq tr h' tk', (∀ q ∈ news, q.1 < r) → Fr h₀ L h' m → News h₀ L h' ((r, { cls := .type "tuple", data := .seq #[.int (Int.fdiv x y) tq, .int (Int.fmod x y) tr] }) :: news) → Q (.ref r) { s with heap := h', toks := tk' }) :
  wpAny (model PySem.Challenge.rw_hi0005_01.row.prog w) (ktrTop dp un gd cn cs L a ccd cl outer) (call (.ref 21) [.int x tx, .int y ty, .int z tz]) Q E s := by
  revert X; k_fill; intro X
  have hb : (Builtin.Int.intBits x : Int) - z ≤ 4000 := by
    have := intBits_lt (k := 40) hx (by simpa using hxb)
    omega
  k_steps
  exact hret _ _ _ _ _ (news_lt (by assumption)) (by assumption) (by assumption)
end

end Mine
end
section
namespace Mine
def digs (n : Nat) : Nat → Int → List Int
  | 0, _ => []
  | c + 1, x => x % 2 ^ n :: digs n c (x / 2 ^ n)
def fillD (n : Nat) (ds : List Int) (lo cnt : Nat) (x : Int) : List Int := ds.take lo ++ digs n cnt x ++ ds.drop (lo + cnt)
theorem digs_len (n : Nat) : ∀ (c : Nat) (x : Int), (digs n c x).length = c
  | 0, _ => rfl
  | c + 1, x => by show (digs n c _).length + 1 = c + 1; rw [digs_len n c]
theorem two_pos (n : Nat) : (0 : Int) < 2 ^ n := by exact_mod_cast Nat.two_pow_pos n
theorem mod_mul_div (x a b : Int) (ha : 0 < a) (hb : 0 < b) : (x % (a * b)) / a = (x / a) % b := by
  have h1 : x % (a * b) = x - a * b * (x / (a * b)) := by have := Int.mul_ediv_add_emod x (a * b); omega
  have h2 : x / (a * b) = x / a / b := by rw [Int.ediv_ediv_of_nonneg (by omega)]
  rw [h1, h2]
  have h3 : x - a * b * (x / a / b) = x + a * (-(b * (x / a / b))) := by
    rw [Int.mul_neg, Int.mul_assoc]; omega
  rw [h3, Int.add_mul_ediv_left _ _ (by omega)]
  have := Int.mul_ediv_add_emod (x / a) b
  omega
theorem digs_add (n : Nat) : ∀ (c d : Nat) (x : Int), digs n (c + d) x = digs n c (x % 2 ^ (n * c)) ++ digs n d (x / 2 ^ (n * c))
  | 0, d, x => by
    rw [Nat.zero_add, Nat.mul_zero, Int.pow_zero, Int.ediv_one]; rfl
  | c + 1, d, x => by
    have e : c + 1 + d = (c + d) + 1 := by omega
    rw [e]
    show x % 2 ^ n :: digs n (c + d) (x / 2 ^ n) = (x % 2 ^ (n * (c + 1))) % 2 ^ n :: digs n c ((x % 2 ^ (n * (c + 1))) / 2 ^ n) ++ digs n d (x / 2 ^ (n * (c + 1)))
    have p : (2 : Int) ^ (n * (c + 1)) = 2 ^ n * 2 ^ (n * c) := by rw [Nat.mul_succ, Nat.add_comm, Int.pow_add]
    rw [digs_add n c d, p, mod_mul_div _ _ _ (two_pos _) (two_pos _), Int.emod_emod_of_dvd _ (Int.dvd_mul_right _ _), ← Int.ediv_ediv_of_nonneg (Int.le_of_lt (two_pos n))]
    rfl
theorem fillD_len {n : Nat} {ds : List Int} {lo cnt : Nat} {x : Int} (h : lo + cnt ≤ ds.length) : (fillD n ds lo cnt x).length = ds.length := by
  unfold fillD
  rw [List.length_append, List.length_append, digs_len, List.length_take, List.length_drop]
  omega
theorem fillD_two {n : Nat} {ds : List Int} {lo c d : Nat} {x : Int} (h : lo + c + d ≤ ds.length) : fillD n (fillD n ds lo c (x % 2 ^ (n * c))) (lo + c) d (x / 2 ^ (n * c)) = fillD n ds lo (c + d) x := by
  unfold fillD
  rw [digs_add]
  have h1 : (ds.take lo ++ digs n c (x % 2 ^ (n * c))).length = lo + c := by rw [List.length_append, digs_len, List.length_take]; omega
  have h2 : (ds.take lo ++ digs n c (x % 2 ^ (n * c)) ++ ds.drop (lo + c)).take (lo + c) = ds.take lo ++ digs n c (x % 2 ^ (n * c)) := by
    rw [List.take_append_of_le_length (by omega), List.take_of_length_le (by omega)]
  have h3 : (ds.take lo ++ digs n c (x % 2 ^ (n * c)) ++ ds.drop (lo + c)).drop (lo + c + d) = ds.drop (lo + (c + d)) := by
    rw [List.drop_append, List.drop_of_length_le (by omega), h1, List.drop_drop, List.nil_append]
    congr 1; omega
  rw [h2, h3]
  simp [List.append_assoc]
theorem fillD_one {n : Nat} {ds : List Int} {lo : Nat} {x : Int} (h : lo < ds.length) (h0 : 0 ≤ x) (h1 : x < 2 ^ n) : fillD n ds lo 1 x = ds.set lo x := by
  unfold fillD digs digs
  rw [Int.emod_eq_of_lt h0 h1, List.set_eq_take_append_cons_drop, if_pos h]
  simp
theorem nat_and_shift (a s : Nat) : a &&& ((a >>> s) <<< s) = (a >>> s) <<< s := by
  apply Nat.eq_of_testBit_eq
  intro i
  rw [Nat.testBit_and, Nat.testBit_shiftLeft, Nat.testBit_shiftRight]
  by_cases h : s ≤ i
  · have : s + (i - s) = i := by omega
    simp [h, this]
  · simp [h]
theorem bitAnd_ofNat (a b : Nat) : Builtin.bitAnd (a : Int) (b : Int) = ((a &&& b : Nat) : Int) := by
  unfold Builtin.bitAnd
  rw [decide_eq_true (Int.natCast_nonneg a), decide_eq_true (Int.natCast_nonneg b)]
  rfl
theorem bitXor_shift {x : Int} (h0 : 0 ≤ x) (s : Nat) : Builtin.bitXor x (x.fdiv (2 ^ s) * 2 ^ s) = x % 2 ^ s := by
  obtain ⟨a, rfl⟩ := Int.eq_ofNat_of_zero_le h0
  have e1 : ((a : Int).fdiv (2 ^ s) * 2 ^ s) = (((a >>> s) <<< s : Nat) : Int) := by
    rw [Int.fdiv_eq_ediv_of_nonneg _ (Int.le_of_lt (two_pos s)), Nat.shiftLeft_eq, Nat.shiftRight_eq_div_pow]
    push_cast
    rfl
  rw [bitXor_and, e1, bitAnd_ofNat, nat_and_shift, ← e1, Int.fdiv_eq_ediv_of_nonneg _ (Int.le_of_lt (two_pos s))]
  have := Int.ediv_mul_add_emod (a : Int) (2 ^ s)
  omega
theorem fdiv_two (x : Int) : x.fdiv (2 ^ Int.toNat 1) = x / 2 := by
  show x.fdiv 2 = x / 2
  exact Int.fdiv_eq_ediv_of_nonneg _ (by decide)
theorem mul_ok {a b : Int} (ha : a.natAbs < 1099511627776) (hb : b.natAbs < 1099511627776) : IntMulOk a b :=
  mulOk_of_bits (m := 40) (n := 40) (intBits_le_iff.mpr ha) (intBits_le_iff.mpr hb) (by decide)
abbrev Mt (lo hi : Int) : Int := (lo + hi).fdiv (2 ^ Int.toNat 1)
abbrev Sh (lo hi z : Int) : Int := (Mt lo hi - lo) * z
abbrev Ut (x lo hi z : Int) : Int := x.fdiv (2 ^ (Sh lo hi z).toNat)
abbrev Wt (x lo hi z : Int) : Int := Builtin.bitXor x (Ut x lo hi z * 2 ^ (Sh lo hi z).toNat)
theorem step_facts {x lo hi z : Int} (h0 : 0 ≤ lo) (h1 : lo < hi) (h2 : hi ≤ 20) (z0 : 0 < z) (z1 : z ≤ 20) (x0 : 0 ≤ x) (x1 : x < 1048576) (x2 : x < 2 ^ (z.toNat * (hi - lo).toNat)) :
    Mt lo hi = (lo + hi) / 2 ∧ 0 ≤ Sh lo hi z ∧ Sh lo hi z ≤ 400 ∧ 0 ≤ Ut x lo hi z ∧ Ut x lo hi z < 1048576 ∧ 0 ≤ Wt x lo hi z ∧ Wt x lo hi z < 1048576 ∧
    Wt x lo hi z < 2 ^ (z.toNat * (Mt lo hi - lo).toNat) ∧ Ut x lo hi z < 2 ^ (z.toNat * (hi - Mt lo hi).toNat) ∧ Wt x lo hi z = x % 2 ^ (z.toNat * (Mt lo hi - lo).toNat) ∧ Ut x lo hi z = x / 2 ^ (z.toNat * (Mt lo hi - lo).toNat) := by
  have e1 : Mt lo hi = (lo + hi) / 2 := fdiv_two _
  generalize hM : Mt lo hi = M at *
  have hc : 0 ≤ M - lo ∧ M - lo ≤ 20 := by omega
  have eS : Sh lo hi z = (M - lo) * z := by unfold Sh; rw [hM]
  have s0 : 0 ≤ (M - lo) * z := Int.mul_nonneg hc.1 (by omega)
  have s1 : (M - lo) * z ≤ 400 := by
    have : (M - lo) * z ≤ 20 * 20 := Int.mul_le_mul hc.2 z1 (by omega) (by omega)
    omega
  have eSn : (Sh lo hi z).toNat = z.toNat * (M - lo).toNat := by
    rw [eS]
    have : (((M - lo) * z).toNat : Int) = ((z.toNat * (M - lo).toNat : Nat) : Int) := by
      rw [Int.toNat_of_nonneg s0, Int.natCast_mul, Int.toNat_of_nonneg (by omega), Int.toNat_of_nonneg hc.1, Int.mul_comm]
    exact_mod_cast this
  have eU : Ut x lo hi z = x / 2 ^ (z.toNat * (M - lo).toNat) := by
    unfold Ut; rw [eSn, Int.fdiv_eq_ediv_of_nonneg _ (Int.le_of_lt (two_pos _))]
  have eW : Wt x lo hi z = x % 2 ^ (z.toNat * (M - lo).toNat) := by
    unfold Wt Ut; rw [bitXor_shift x0, eSn]
  have pc := two_pos (z.toNat * (M - lo).toNat)
  have es : z.toNat * (hi - lo).toNat = z.toNat * (M - lo).toNat + z.toNat * (hi - M).toNat := by
    rw [← Nat.mul_add]; congr 1; omega
  rw [es, Int.pow_add] at x2
  rw [eS, eU, eW]
  generalize (2 : Int) ^ (z.toNat * (M - lo).toNat) = A at *
  generalize (2 : Int) ^ (z.toNat * (hi - M).toNat) = B at *
  have m0 := Int.emod_nonneg x (Int.ne_of_gt pc)
  have m1 := Int.emod_lt_of_pos x pc
  have d0 := Int.ediv_nonneg x0 (Int.le_of_lt pc)
  have d1 : x / A ≤ x := Int.ediv_le_self _ x0
  have d2 : x / A < B := Int.ediv_lt_of_lt_mul pc (by rw [Int.mul_comm]; exact x2)
  have m2 : x % A ≤ x := by
    have := Int.ediv_mul_add_emod x A
    have : 0 ≤ x / A * A := Int.mul_nonneg d0 (Int.le_of_lt pc)
    omega
  exact ⟨e1, s0, s1, d0, by omega, m0, by omega, m1, d2, rfl, rfl⟩
theorem half_a {lo hi M : Int} (lt : lo < hi) (ne : lo + 1 ≠ hi) (e : M = (lo + hi) / 2) : (M - lo).toNat < (hi - lo).toNat ∧ (hi - M).toNat < (hi - lo).toNat := by
  subst e
  have h0 : 0 < hi - lo := by clear ne; omega
  exact ⟨(Int.toNat_lt_toNat h0).mpr (by clear h0 ne; omega), (Int.toNat_lt_toNat h0).mpr (by clear h0; omega)⟩
theorem room_n {dp a b R : Nat} (q : dp + b + 1 < R) (k : a < b) : dp + 1 + a + 1 < R := by omega
theorem unit_n {un a b R : Nat} (q : un + 8 * b + 8 < R) (k : a < b) : un + 3 + 8 * a + 8 < R := by omega
theorem room_a {lo hi M : Int} {dp R : Nat} (lt : lo < hi) (ne : lo + 1 ≠ hi) (e : M = (lo + hi) / 2) (q : dp + (hi - lo).toNat + 1 < R) : dp + 1 + (M - lo).toNat + 1 < R := room_n q (half_a lt ne e).1
theorem room_b {lo hi M : Int} {dp R : Nat} (lt : lo < hi) (ne : lo + 1 ≠ hi) (e : M = (lo + hi) / 2) (q : dp + (hi - lo).toNat + 1 < R) : dp + 1 + (hi - M).toNat + 1 < R := room_n q (half_a lt ne e).2
theorem unit_a {lo hi M : Int} {un R : Nat} (lt : lo < hi) (ne : lo + 1 ≠ hi) (e : M = (lo + hi) / 2) (q : un + 8 * (hi - lo).toNat + 8 < R) : un + 3 + 8 * (M - lo).toNat + 8 < R := unit_n q (half_a lt ne e).1
theorem unit_b {lo hi M : Int} {un R : Nat} (lt : lo < hi) (ne : lo + 1 ≠ hi) (e : M = (lo + hi) / 2) (q : un + 8 * (hi - lo).toNat + 8 < R) : un + 3 + 8 * (hi - M).toNat + 8 < R := unit_n q (half_a lt ne e).2

end Mine
end
section
namespace Mine
theorem lt_intBits {x : Int} (h0 : 0 ≤ x) : x < 2 ^ Builtin.Int.intBits x := by
  unfold Builtin.Int.intBits
  obtain ⟨n, rfl⟩ := Int.eq_ofNat_of_zero_le h0
  by_cases hn : n = 0
  · subst hn; simp
  · have h1 : ((n : Int) == 0) = false := by simp; omega
    rw [h1]
    have h3 : n < 2 ^ (n.log2 + 1) := Nat.lt_log2_self
    show (n : Int) < 2 ^ (n.log2 + 1)
    exact_mod_cast h3
theorem nd_facts {x z : Int} (h0 : 0 ≤ x) (hx : x < 1048576) (hz : 0 < z) : 0 ≤ ((Builtin.Int.intBits x : Int) + z - 1).fdiv z ∧ ((Builtin.Int.intBits x : Int) + z - 1).fdiv z ≤ 20 ∧ (x = 0 → ((Builtin.Int.intBits x : Int) + z - 1).fdiv z = 0) ∧
    (x ≠ 0 → 0 < ((Builtin.Int.intBits x : Int) + z - 1).fdiv z) ∧ x < 2 ^ (z.toNat * (((Builtin.Int.intBits x : Int) + z - 1).fdiv z).toNat) := by
  have hb := intBits_lt (k := 20) h0 (by simpa using hx)
  have hl := lt_intBits h0
  have h00 : x = 0 → Builtin.Int.intBits x = 0 := fun h => by subst h; rfl
  have h01 : x ≠ 0 → 0 < Builtin.Int.intBits x := fun h => by
    unfold Builtin.Int.intBits
    have h1 : (x == 0) = false := by simpa using h
    rw [h1]; exact Nat.succ_pos _
  generalize Builtin.Int.intBits x = b at *
  obtain ⟨e1, e2, e3, _⟩ := fdiv_fmod_facts ((b : Int) + z - 1) z
  obtain ⟨e4, e5⟩ := e3 hz
  generalize ((b : Int) + z - 1).fmod z = r at *
  generalize ((b : Int) + z - 1).fdiv z = c at *
  have c0 : 0 ≤ c := by
    apply Int.not_lt.mp
    intro h
    have : c * z ≤ (-1) * z := Int.mul_le_mul_of_nonneg_right (by omega) (by omega)
    omega
  refine ⟨c0, ?_, ?_, ?_, ?_⟩
  · apply Int.not_lt.mp
    intro h
    have : 21 * z ≤ c * z := Int.mul_le_mul_of_nonneg_right (by omega) (by omega)
    omega
  · intro hx0
    have := h00 hx0
    apply Int.le_antisymm _ c0
    apply Int.not_lt.mp
    intro h
    have : 1 * z ≤ c * z := Int.mul_le_mul_of_nonneg_right (by omega) (by omega)
    omega
  · intro hx0
    have := h01 hx0
    apply Int.not_le.mp
    intro h
    have : c = 0 := by omega
    subst this
    omega
  · refine Int.lt_of_lt_of_le hl ?_
    have : b ≤ z.toNat * c.toNat := by
      have h1 : ((z.toNat * c.toNat : Nat) : Int) = z * c := by rw [Int.natCast_mul, Int.toNat_of_nonneg (by omega), Int.toNat_of_nonneg c0]
      omega
    exact_mod_cast Nat.pow_le_pow_right (by omega) this
theorem flat_rep {α : Type} (v : α) : ∀ n : Nat, (List.replicate n [v]).flatten = List.replicate n v
  | 0 => rfl
  | n + 1 => by rw [List.replicate_succ, List.flatten_cons, flat_rep v n]; rfl
theorem mul1 {w : World} {prog : Program} {A : Around} {E : Value → Shared → Prop} {s : Shared} {h₀ : Heap} {L : Addr} {m : Str → Option Value} {news : List (Addr × Obj)} {l : Addr} {d x : Int} {t u : Tok} {Q : Value → Shared → Prop}
    (F : Fr h₀ L s.heap m) (N : News h₀ L s.heap news) (hl : s.heap.IsList l #[.int d t]) (h0 : 0 ≤ x) (h1 : x ≤ 1000)
    (h : ∀ D h' vs, Fr h₀ L h' m → News h₀ L h' ((D, W.listOf vs.toArray 0) :: news) → (∀ p ∈ news, p.1 < D) → IntsAre vs (List.replicate x.toNat d) → Q (.ref D) { s with heap := h' }) : wpAny (model prog w) A (binaryOp .Mult (.ref l) (.int x u)) Q E s := by
  refine KM.mul F N (vs := [.int d t]) hl (.cons d t .nil) (by omega) (by omega) (by simp only [List.length_cons, List.length_nil]; omega) ?_
  intro D h' F' N' l1 i1 _ _ _ _ _
  rw [flat_rep, flat_rep] at i1
  rw [flat_rep] at N'
  exact h D h' _ F' N' l1 i1
local macro_rules | `(tactic| walk_at "binaryOp Mult ref int") => `(tactic| (k_here; (with_reducible show wpAny _ _ (binaryOp Operator.Mult (Value.ref _) (Value.int _ _)) _ _ _); k_dflt (refine' Mine.mul1 ?F ?N ?l ?lo ?hi ?_; (case F => k_asm); (case N => k_asm); (case l => is_list); (case lo => omega); (case hi => omega); k_whole); intro D' h' vs' F' N' l1 i1; (try k_lt l1)))
local macro_rules | `(tactic| walk_at "call builtin:len") => `(tactic| (k_here; (with_reducible show wpAny _ _ (call (Value.builtin _) [Value.ref _]) _ _ _); (with_unfolding_all refine' len_ints_fit ?k1 ?k2 ?k3 ?_; (case k1 => is_list); (case k2 => with_reducible assumption); (case k3 => (simp only [List.length_replicate, List.length_append, List.length_cons, List.length_nil]; omega)); k_whole)))
section
variable {p : Program} {loose : List Str} {mean : ExcName → Option Value} {mg mb : Str → Option Value} {w : World}
  {dp un : Nat} {gd : Option (List Code)} {cn : Str} {cs : Scope} {a : Addr} {ccd : Value} {cl : List (Str × Addr)} {outer : List Env} {A₀ : Around} {base h₀ : Heap} {L : Addr} {m : Str → Option Value} {s : Shared} {Q E : Value → Shared → Prop} {news : List (Addr × Obj)}

def FillC (p : Program) (loose : List Str) (mean : ExcName → Option Value) (mg mb : Str → Option Value) (w : World) (f : Addr) (g : Obj → List (Addr × Obj)) (z : Int) (N : Nat) : Prop :=
  ∀ (dp un : Nat) (gd : Option (List Code)) (cn : Str) (cs : Scope) (a : Addr) (ccd : Value) (cl : List (Str × Addr)) (outer : List Env) (A₀ : Around) (base h₀ : Heap) (L : Addr) (m : Str → Option Value) (s : Shared) (Q E : Value → Shared → Prop)
    (x lo hi : Int) (tx tl th : Tok) (vs : List Value) (ds : List Int) (k : Nat),
    Below A₀ base outer h₀ → Fr h₀ L s.heap m → (Mine.hd.heap_39 w.params).In h₀ → Top p loose mean mg mb h₀ → cs.kind = .function →
    News h₀ L s.heap (g (W.listOf vs.toArray k)) → IntsAre vs ds → 0 ≤ lo → lo < hi → hi ≤ ds.length → hi - lo ≤ N → ds.length ≤ 20 → 0 ≤ x → x < 1048576 → x < 2 ^ (z.toNat * (hi - lo).toNat) →
    dp + (hi - lo).toNat + 1 < recursionLimit → un + 8 * (hi - lo).toNat + 8 < cLine →
    (∀ vs' k' h' tk', IntsAre vs' (fillD z.toNat ds lo.toNat (hi - lo).toNat x) → (fillD z.toNat ds lo.toNat (hi - lo).toNat x).length = ds.length → Fr h₀ L h' m → News h₀ L h' (g (W.listOf vs'.toArray k')) → Q .none { s with heap := h', toks := tk' }) →
    wpAny (model PySem.Challenge.rw_hi0005_01.row.prog w) (ktrTop dp un gd cn cs L a ccd cl outer) (call (.ref f) [.int x tx, .int lo tl, .int hi th]) Q E s
structure DigZ (z : Int) : Prop where
theorem fill_use {l f : Addr} {g : Obj → List (Addr × Obj)} {vs : List Value} {ds : List Int} {k : Nat} {x hi z : Int} {tx tl th : Tok} {news₀ : List (Addr × Obj)}
    (mz : DigZ z) (hz : 0 < z ∧ z ≤ 20) (U : UpdF l (W.listOf vs.toArray k) news₀ g) (key : 0 < z ∧ z ≤ 20 → ∀ N, FillC p loose mean mg mb w f g z N)
    (B : Below A₀ base outer h₀) (F : Fr h₀ L s.heap m) (X : (Mine.hd.heap_39 w.params).In h₀) (T : Top p loose mean mg mb h₀) (hk : cs.kind = .function) (N : News h₀ L s.heap news₀) (hi9 : IntsAre vs ds)
    (h1 : 0 < hi) (h2 : hi = ds.length) (h3 : ds.length ≤ 20) (h4 : 0 ≤ x) (h5 : x < 1048576) (h6 : x < 2 ^ (z.toNat * ds.length)) (hd : dp + 30 < recursionLimit) (hu : un + 300 < cLine)
    (h : ∀ vs' k' h' tk', IntsAre vs' (digs z.toNat hi.toNat x) → Fr h₀ L h' m → News h₀ L h' (g (W.listOf vs'.toArray k')) → Q .none { s with heap := h', toks := tk' }) :
    wpAny (model PySem.Challenge.rw_hi0005_01.row.prog w) (ktrTop dp un gd cn cs L a ccd cl outer) (call (.ref f) [.int x tx, .int 0 tl, .int hi th]) Q E s := by
  obtain ⟨pre, post, rfl, hg, _, _⟩ := U.split
  refine key hz hi.toNat dp un gd cn cs a ccd cl outer A₀ base h₀ L m s Q E x 0 hi tx tl th vs ds k B F X T hk (hg _ ▸ N) hi9 (by omega) h1 (by omega) (by omega) h3 h4 h5 (by rw [show (hi - 0).toNat = ds.length by omega]; exact h6) (by omega) (by omega) ?_
  intro vs' k' h' tk' i' _ F' N'
  refine h vs' k' h' tk' ?_ F' N'
  have e : fillD z.toNat ds (Int.toNat 0) (hi - 0).toNat x = digs z.toNat hi.toNat x := by
    unfold fillD
    rw [Int.sub_zero]
    have : ds.length ≤ hi.toNat := by omega
    simp [this]
  rw [← e]; exact i'
end
local macro_rules | `(tactic| walk_at "binaryOp Mult int int") => `(tactic| (k_here; refine mul_int ?_ (Mine.mul_ok (by omega) (by omega))))
local macro_rules | `(tactic| walk_at "binaryOp RShift int int") => `(tactic| (k_here; refine rshift_int (by omega) ?_))
local macro_rules | `(tactic| walk_at "binaryOp LShift int int") => `(tactic| (k_here; refine lshift_int_small (by omega) (by omega) (by omega) ?_))
local macro_rules | `(tactic| walk_at "clear all") => `(tactic| ((repeat (rename Fr _ _ _ _ => z9; clear z9)); (repeat (rename News _ _ _ _ => z9; clear z9)); (repeat (rename Below _ _ _ _ => z9; clear z9)); (repeat (rename Top _ _ _ _ _ _ => z9; clear z9)); (repeat (rename Frag.In _ _ => z9; clear z9))))
theorem fill_end1 {vs : List Value} {ds : List Int} {lo hi x z : Int} (h : IntsAre vs (ds.set lo.toNat x)) (q0 : 0 ≤ lo) (q : lo + 1 = hi) (q1 : hi ≤ ds.length) (x0 : 0 ≤ x) (x1 : x < 2 ^ (z.toNat * (hi - lo).toNat)) :
    IntsAre vs (fillD z.toNat ds lo.toNat (hi - lo).toNat x) ∧ (fillD z.toNat ds lo.toNat (hi - lo).toNat x).length = ds.length := by
  have e : (hi - lo).toNat = 1 := by omega
  rw [e] at x1 ⊢
  rw [Nat.mul_one] at x1
  rw [fillD_one (by omega) x0 x1]
  exact ⟨h, List.length_set ..⟩
theorem fill_end2 {vs : List Value} {ds : List Int} {lo hi M x W U z : Int} (h : IntsAre vs (fillD z.toNat (fillD z.toNat ds lo.toNat (M - lo).toNat W) M.toNat (hi - M).toNat U)) (q0 : 0 ≤ lo) (q : lo ≤ M) (q' : M ≤ hi) (q1 : hi ≤ ds.length)
    (eW : W = x % 2 ^ (z.toNat * (M - lo).toNat)) (eU : U = x / 2 ^ (z.toNat * (M - lo).toNat)) :
    IntsAre vs (fillD z.toNat ds lo.toNat (hi - lo).toNat x) ∧ (fillD z.toNat ds lo.toNat (hi - lo).toNat x).length = ds.length := by
  have e1 : M.toNat = lo.toNat + (M - lo).toNat := by omega
  have e2 : (hi - lo).toNat = (M - lo).toNat + (hi - M).toNat := by omega
  refine ⟨?_, fillD_len (by omega)⟩
  rw [e2, ← fillD_two (by omega), ← eW, ← eU, ← e1]
  exact h
local macro_rules | `(tactic| walk_at "call ref") => `(tactic| (k_here; (with_reducible show wpAny _ _ (call (Value.ref _) [Value.int _ _, Value.int _ _, Value.int _ _]) _ _ _); refine Mine.hold ?_))
local macro_rules | `(tactic| walk_at "call ref") => `(tactic| (
  k_here
  (with_reducible show wpAny _ _ (call (Value.ref _) [Value.int _ _, Value.int _ _, Value.int _ _]) _ _ _)
  (rename FillC _ _ _ _ _ _ _ _ _ _ => ih9)
  k_dflt (refine' ih9 _ _ _ _ _ _ _ _ _ _ _ _ _ _ _ _ _ _ _ _ _ _ _ _ _ _ ?B ?F ?X ?T ?hk ?N ?i ?q1 ?q2 ?q3 ?q4 ?q5 ?q6 ?q7 ?q8 ?q9 ?q10 ?_)
  (case B => k_asm); (case F => k_asm); (case X => k_asm); (case T => k_asm); (case hk => first | exact rfl | assumption); (case N => k_asm); (case i => with_reducible assumption); (case q1 => omega); (case q2 => omega); (case q3 => omega); (case q4 => omega); (case q5 => omega); (case q6 => omega); (case q7 => omega); (case q8 => with_reducible assumption); (case q9 => first | exact Mine.room_a (by with_reducible assumption) (by with_reducible assumption) (by with_reducible assumption) (by with_reducible assumption) | exact Mine.room_b (by with_reducible assumption) (by with_reducible assumption) (by with_reducible assumption) (by with_reducible assumption) | omega | ktr_room); (case q10 => first | exact Mine.unit_a (by with_reducible assumption) (by with_reducible assumption) (by with_reducible assumption) (by with_reducible assumption) | exact Mine.unit_b (by with_reducible assumption) (by with_reducible assumption) (by with_reducible assumption) (by with_reducible assumption) | omega | ktr_units)
  intro vs9 k9 h9 tk9 i9 hl9 F9 N9
  (try dsimp only at N9)))
local macro_rules | `(tactic| walk_at "fill step") => `(tactic| (
  walk_at "clear all"
  intro hz9 N9
  obtain ⟨hz8, hz7⟩ := hz9
  induction N9 with
  | zero => (unfold FillC; intros; exfalso; omega)
  | succ N9 ih9 =>
    unfold FillC
    intro dp un gd cn cs a ccd cl outer A₀ base h₀ L m s Q E x lo hi tx tl th vs ds k B F X T hk N hi9 q1 q2 q3 q4 q5 q6 q7 q8 q9 q10 hret
    dsimp only at N
    obtain ⟨s1, s2, s3, s4, s5, s6, s7, s8, s9, s10, s11⟩ := step_facts q1 q2 (by omega) (by with_reducible assumption) (by with_reducible assumption) q6 q7 q8
    dsimp only [Mt, Sh, Ut, Wt] at s1 s2 s3 s4 s5 s6 s7 s8 s9 s10 s11
    refine wpAny_call ?_
    k_dflt kn_enter
    k_steps
    · obtain ⟨j1, j2⟩ := fill_end1 (z := _) (by with_reducible assumption) q1 (by with_reducible assumption) q3 q6 q8
      exact hret _ _ _ _ j1 j2 (by with_reducible assumption) (by with_reducible assumption)
    · obtain ⟨j1, j2⟩ := fill_end2 (by with_reducible assumption) q1 (by omega) (by omega) q3 s10 s11
      exact hret _ _ _ _ j1 j2 (by with_reducible assumption) (by with_reducible assumption)))
local macro_rules | `(tactic| walk_at "fill call") => `(tactic| (
  refine unhold ?_
  k_dflt (refine' fill_use ?mz ?hz ?U ?key ?B ?F ?X ?T ?hk ?N ?i ?q1 ?q2 ?q3 ?q4 ?q5 ?q6 ?q7 ?q8 ?_)
  (case N => k_asm); (case mz => with_reducible assumption); (case hz => (constructor <;> omega)); (case B => k_asm); (case F => k_asm); (case X => k_asm); (case T => k_asm); (case hk => exact rfl); (case i => with_reducible assumption); (case U => walk_at "find upd"); (case q1 => (simp only [List.length_replicate]; omega)); (case q2 => omega); (case q3 => (simp only [List.length_replicate]; omega)); (case q4 => omega); (case q5 => omega); (case q6 => (simp only [List.length_replicate]; with_reducible assumption)); (case q7 => first | omega | ktr_room); (case q8 => first | omega | ktr_units)
  (case key => walk_at "fill step")
  intro vs9 k9 h9 tk9 i9 F9 N9
  (try dsimp only at N9)))
section
variable {p : Program} {loose : List Str} {mean : ExcName → Option Value} {mg mb : Str → Option Value} {w : World}
  {dp un : Nat} {gd : Option (List Code)} {cn : Str} {cs : Scope} {a : Addr} {ccd : Value} {cl : List (Str × Addr)} {outer : List Env} {A₀ : Around} {base h₀ : Heap} {L : Addr} {m : Str → Option Value} {s : Shared} {Q E : Value → Shared → Prop} {news : List (Addr × Obj)}
set_option linter.unusedVariables false
def ndig (x z : Int) : Nat := (((Builtin.Int.intBits x : Int) + z - 1).fdiv z).toNat
abbrev Q30 : PySem.Str := (PySem.Str.ofString "_int2digits" ++ PySem.Str.ofString ".<locals>.") ++ PySem.Str.ofString "inner"
theorem zero_digs {vs : List Value} {x z : Int} (h : ((Builtin.Int.intBits x : Int) + z - 1).fdiv z = 0) (h0 : x = 0) (i : IntsAre vs (List.replicate (((Builtin.Int.intBits x : Int) + z - 1).fdiv z).toNat 0)) : IntsAre vs (digs z.toNat (ndig x z) x) := by
  unfold ndig
  rw [h] at i ⊢
  exact i
theorem news_sub {h₀ h : Heap} {L : Addr} {l l' : List (Addr × Obj)} (N : News h₀ L h l) (hs : ∀ p ∈ l', p ∈ l) : News h₀ L h l' := fun p hp => N p (hs p hp)
theorem int2digits_no {x z : Int} {tx tz : Tok}
  (B : Below A₀ base outer h₀) (F : Fr h₀ L s.heap m) (X : (Mine.hd.heap_39 w.params).In h₀) (T : Top p loose mean mg mb h₀) (hk : cs.kind = .function) (C1 : CodeHd base 34 30)
  (N : News h₀ L s.heap ((30, tabObj #[]) :: news)) (hnw : ∀ q ∈ news, q.1 ≠ 30)
  (hdp : dp + 50 < recursionLimit) (hun : un + 400 < cLine) (hx : 0 ≤ x) (hxb : x < 1048576) (hz : 0 < z) (hzb : z ≤ 20)
  (hret : ∀ r vs k c oc cv t h' tk', oc.data = .fields cv → cv[1]? = some (.str Q30 t) → (∀ q ∈ news, q.1 < c) → 30 < c → IntsAre vs (digs z.toNat (ndig x z) x) → (∀ q ∈ news, q.1 < r) → Fr h₀ L h' m →
    News h₀ L h' ((r, W.listOf vs.toArray k) :: (30, tabObj #[rawInt ((32 : Nat) : Int), rawInt ((4 : Nat) : Int), .ref c]) :: (c, oc) :: news) → Q (.ref r) { s with heap := h', toks := tk' }) :
  wpAny (model PySem.Challenge.rw_hi0005_01.row.prog w) (ktrTop dp un gd cn cs L a ccd cl outer) (call (.ref 35) [.int x tx, .int z tz]) Q E s := by
  revert X; k_fill; intro X
  obtain ⟨f1, f2, f3, f4, f5⟩ := nd_facts (z := z) hx hxb hz
  have mz : DigZ z := ⟨⟩
  k_steps
  · walk_at "fill call"
    k_steps
    (rename News _ _ _ _ => N8)
    (try dsimp only at N8)
    rw [Array.empty_append] at N8
    (rename IntsAre _ _ => i8)
    simp only [List.length_replicate, Int.toNat_natCast] at i8
    refine' hret _ _ _ _ _ _ _ _ _ ?h1 ?h2 ?h7 ?h8 ?h3 ?h4 ?h5 (news_sub N8 ?h6)
    case h1 => with_reducible assumption
    case h2 => assumption
    case h3 => exact i8
    case h4 => exact allLt_get (by walk_at "all of")
    case h5 => with_reducible assumption
    case h6 => walk_at "sub"
    case h7 => exact allLt_get (by walk_at "all of")
    case h8 => walk_at "lt of"
  · (rename News _ _ _ _ => N8)
    (try dsimp only at N8)
    rw [Array.empty_append] at N8
    have i8 := zero_digs (z := z) (f3 (by with_reducible assumption)) (by with_reducible assumption) (by with_reducible assumption)
    refine' hret _ _ _ _ _ _ _ _ _ ?h1 ?h2 ?h7 ?h8 ?h3 ?h4 ?h5 (news_sub N8 ?h6)
    case h1 => with_reducible assumption
    case h2 => assumption
    case h3 => exact i8
    case h4 => exact allLt_get (by walk_at "all of")
    case h5 => with_reducible assumption
    case h6 => walk_at "sub"
    case h7 => exact allLt_get (by walk_at "all of")
    case h8 => walk_at "lt of"
theorem int2digits_yes {x z : Int} {tx tz : Tok} {c : Addr} {oc : Obj} {cv : Array Value} {t : Tok} (hoc : oc.data = .fields cv) (hcv : cv[1]? = some (.str Q30 t))
  (B : Below A₀ base outer h₀) (F : Fr h₀ L s.heap m) (X : (Mine.hd.heap_39 w.params).In h₀) (T : Top p loose mean mg mb h₀) (hk : cs.kind = .function) (C1 : CodeHd base 34 30)
  (N : News h₀ L s.heap ((30, tabObj #[rawInt ((32 : Nat) : Int), rawInt ((4 : Nat) : Int), .ref c]) :: (c, oc) :: news)) (hnw : ∀ q ∈ news, q.1 ≠ 30)
  (hdp : dp + 50 < recursionLimit) (hun : un + 400 < cLine) (hx : 0 ≤ x) (hxb : x < 1048576) (hz : 0 < z) (hzb : z ≤ 20)
  (hret : ∀ r vs k h' tk', IntsAre vs (digs z.toNat (ndig x z) x) → (∀ q ∈ news, q.1 < r) → Fr h₀ L h' m →
    News h₀ L h' ((r, W.listOf vs.toArray k) :: (30, tabObj #[rawInt ((32 : Nat) : Int), rawInt ((4 : Nat) : Int), .ref c]) :: (c, oc) :: news) → Q (.ref r) { s with heap := h', toks := tk' }) :
  wpAny (model PySem.Challenge.rw_hi0005_01.row.prog w) (ktrTop dp un gd cn cs L a ccd cl outer) (call (.ref 35) [.int x tx, .int z tz]) Q E s := by
  revert X; k_fill; intro X
  obtain ⟨f1, f2, f3, f4, f5⟩ := nd_facts (z := z) hx hxb hz
  have mz : DigZ z := ⟨⟩
  k_steps
  · walk_at "fill call"
    k_steps
    (rename News _ _ _ _ => N8)
    (try dsimp only at N8)
    (rename IntsAre _ _ => i8)
    simp only [List.length_replicate, Int.toNat_natCast] at i8
    refine' hret _ _ _ _ _ ?h3 ?h4 ?h5 (news_sub N8 ?h6)
    case h3 => exact i8
    case h4 => exact allLt_get (by walk_at "all of")
    case h5 => with_reducible assumption
    case h6 => walk_at "sub"
  · (rename News _ _ _ _ => N8)
    (try dsimp only at N8)
    have i8 := zero_digs (z := z) (f3 (by with_reducible assumption)) (by with_reducible assumption) (by with_reducible assumption)
    refine' hret _ _ _ _ _ ?h3 ?h4 ?h5 (news_sub N8 ?h6)
    case h3 => exact i8
    case h4 => exact allLt_get (by walk_at "all of")
    case h5 => with_reducible assumption
    case h6 => walk_at "sub"
end

end Mine
end
section
namespace Mine
def undig (z : Nat) : List Int → Int
  | [] => 0
  | d :: r => d + 2 ^ z * undig z r
theorem undig_append (z : Nat) : ∀ a b : List Int, undig z (a ++ b) = undig z a + 2 ^ (z * a.length) * undig z b
  | [], b => by simp [undig]
  | d :: r, b => by
    show d + 2 ^ z * undig z (r ++ b) = d + 2 ^ z * undig z r + 2 ^ (z * (r.length + 1)) * undig z b
    rw [undig_append z r b, Nat.mul_succ, Nat.add_comm (z * r.length) z, Int.pow_add, Int.mul_add, Int.mul_assoc]
    omega
theorem undig_bound (z : Nat) : ∀ l : List Int, (∀ d ∈ l, 0 ≤ d ∧ d < 2 ^ z) → 0 ≤ undig z l ∧ undig z l < 2 ^ (z * l.length)
  | [], _ => by simp [undig]
  | d :: r, h => by
    obtain ⟨h0, h1⟩ := h d (.head _)
    obtain ⟨i0, i1⟩ := undig_bound z r fun x hx => h x (.tail _ hx)
    show 0 ≤ d + 2 ^ z * undig z r ∧ d + 2 ^ z * undig z r < 2 ^ (z * (r.length + 1))
    rw [Nat.mul_succ, Nat.add_comm (z * r.length) z, Int.pow_add]
    have hp := two_pos z
    generalize (2 : Int) ^ z = A at *
    generalize (2 : Int) ^ (z * r.length) = B at *
    generalize undig z r = u at *
    have e1 : 0 ≤ A * u := Int.mul_nonneg (Int.le_of_lt hp) i0
    have e2 : A * (u + 1) ≤ A * B := Int.mul_le_mul_of_nonneg_left (by omega) (Int.le_of_lt hp)
    rw [Int.mul_add, Int.mul_one] at e2
    omega
def sub (ds : List Int) (lo hi : Int) : List Int := (ds.drop lo.toNat).take (hi - lo).toNat
theorem sub_mem {ds : List Int} {lo hi d : Int} (h : d ∈ sub ds lo hi) : d ∈ ds := List.mem_of_mem_drop (List.mem_of_mem_take h)
theorem sub_len {ds : List Int} {lo hi : Int} (h0 : 0 ≤ lo) (h1 : lo ≤ hi) (h2 : hi ≤ ds.length) : (sub ds lo hi).length = (hi - lo).toNat := by
  unfold sub; rw [List.length_take, List.length_drop]; omega
theorem sub_two {ds : List Int} {lo M hi : Int} (h0 : 0 ≤ lo) (h1 : lo ≤ M) (h2 : M ≤ hi) : sub ds lo hi = sub ds lo M ++ sub ds M hi := by
  unfold sub
  have e : (hi - lo).toNat = (M - lo).toNat + (hi - M).toNat := by omega
  rw [e, List.take_add, List.drop_drop]
  congr 3
  omega
theorem sub_one {ds : List Int} {lo hi : Int} (h0 : 0 ≤ lo) (h1 : lo + 1 = hi) (h2 : hi ≤ ds.length) : sub ds lo hi = [ds.getD lo.toNat 0] := by
  unfold sub
  have e : (hi - lo).toNat = 1 := by omega
  have l : lo.toNat < ds.length := by omega
  rw [e, List.drop_eq_getElem_cons l, List.take_succ_cons, List.take_zero, List.getD_eq_getElem?_getD, List.getElem?_eq_getElem l]
  rfl
theorem sub_all {ds : List Int} {hi : Int} (h : hi = ds.length) : sub ds 0 hi = ds := by
  unfold sub; subst h; simp
theorem und_one {z : Nat} {ds : List Int} {lo hi : Int} (h0 : 0 ≤ lo) (h1 : lo + 1 = hi) (h2 : hi ≤ ds.length) : ds.getD lo.toNat 0 = undig z (sub ds lo hi) := by
  rw [sub_one h0 h1 h2]; simp [undig]
theorem und_facts {ds : List Int} {lo hi z : Int} (h0 : 0 ≤ lo) (h1 : lo < hi) (h2 : hi ≤ ds.length) (h3 : ds.length ≤ 20) (z0 : 0 < z) (z1 : z ≤ 20) (hd : ∀ d ∈ ds, 0 ≤ d ∧ d < 2 ^ z.toNat) :
    Mt lo hi = (lo + hi) / 2 ∧ 0 ≤ Sh lo hi z ∧ Sh lo hi z ≤ 400 ∧ Builtin.Int.intBits (undig z.toNat (sub ds (Mt lo hi) hi)) ≤ 400 ∧
    undig z.toNat (sub ds (Mt lo hi) hi) * 2 ^ (Sh lo hi z).toNat + undig z.toNat (sub ds lo (Mt lo hi)) = undig z.toNat (sub ds lo hi) := by
  have e1 : Mt lo hi = (lo + hi) / 2 := fdiv_two _
  generalize hM : Mt lo hi = M at *
  have hc : 0 ≤ M - lo ∧ M - lo ≤ 20 := by omega
  have eS : Sh lo hi z = (M - lo) * z := by unfold Sh; rw [hM]
  have s0 : 0 ≤ (M - lo) * z := Int.mul_nonneg hc.1 (by omega)
  have s1 : (M - lo) * z ≤ 400 := by
    have : (M - lo) * z ≤ 20 * 20 := Int.mul_le_mul hc.2 z1 (by omega) (by omega)
    omega
  have eSn : (Sh lo hi z).toNat = z.toNat * (M - lo).toNat := by
    rw [eS]
    have : (((M - lo) * z).toNat : Int) = ((z.toNat * (M - lo).toNat : Nat) : Int) := by
      rw [Int.toNat_of_nonneg s0, Int.natCast_mul, Int.toNat_of_nonneg (by omega), Int.toNat_of_nonneg hc.1, Int.mul_comm]
    exact_mod_cast this
  obtain ⟨b0, b1⟩ := undig_bound z.toNat (sub ds M hi) fun d h => hd d (sub_mem h)
  refine ⟨e1, by omega, by omega, ?_, ?_⟩
  · rw [sub_len (by omega) (by omega) h2] at b1
    have q : z.toNat * (hi - M).toNat ≤ 400 := Nat.mul_le_mul (show z.toNat ≤ 20 by omega) (show (hi - M).toNat ≤ 20 by omega)
    exact Nat.le_trans (intBits_lt b0 b1) q
  · rw [eSn, sub_two (ds := ds) (lo := lo) (M := M) (hi := hi) h0 (by omega) (by omega), undig_append, sub_len h0 (by omega) (by omega), Int.mul_comm]
    omega
theorem und_digs (n : Nat) : ∀ (c : Nat) (x : Int), 0 ≤ x → x < 2 ^ (n * c) → undig n (digs n c x) = x
  | 0, x, h0, h1 => by
    rw [Nat.mul_zero, Int.pow_zero] at h1
    show (0 : Int) = x
    omega
  | c + 1, x, h0, h1 => by
    show x % 2 ^ n + 2 ^ n * undig n (digs n c (x / 2 ^ n)) = x
    rw [Nat.mul_succ, Nat.add_comm (n * c) n, Int.pow_add] at h1
    have hp := two_pos n
    rw [und_digs n c (x / 2 ^ n) (Int.ediv_nonneg h0 (Int.le_of_lt hp)) (Int.ediv_lt_of_lt_mul hp (by rw [Int.mul_comm]; exact h1))]
    have := Int.mul_ediv_add_emod x (2 ^ n)
    omega
theorem digs_bound (n : Nat) : ∀ (c : Nat) (x d : Int), d ∈ digs n c x → 0 ≤ d ∧ d < 2 ^ n
  | 0, _, _, h => nomatch h
  | c + 1, x, d, h => by
    rcases List.mem_cons.mp h with e | e
    · subst e; exact ⟨Int.emod_nonneg _ (Int.ne_of_gt (two_pos n)), Int.emod_lt_of_pos _ (two_pos n)⟩
    · exact digs_bound n c _ d e

end Mine
end
section
namespace Mine
section
variable {p : Program} {loose : List Str} {mean : ExcName → Option Value} {mg mb : Str → Option Value} {w : World}
  {dp un : Nat} {gd : Option (List Code)} {cn : Str} {cs : Scope} {a : Addr} {ccd : Value} {cl : List (Str × Addr)} {outer : List Env} {A₀ : Around} {base h₀ : Heap} {L : Addr} {m : Str → Option Value} {s : Shared} {Q E : Value → Shared → Prop} {news : List (Addr × Obj)}

def UndC (p : Program) (loose : List Str) (mean : ExcName → Option Value) (mg mb : Str → Option Value) (w : World) (f : Addr) (led : List (Addr × Obj)) (z : Int) (ds : List Int) (N : Nat) : Prop :=
  ∀ (dp un : Nat) (gd : Option (List Code)) (cn : Str) (cs : Scope) (a : Addr) (ccd : Value) (cl : List (Str × Addr)) (outer : List Env) (A₀ : Around) (base h₀ : Heap) (L : Addr) (m : Str → Option Value) (s : Shared) (Q E : Value → Shared → Prop)
    (lo hi : Int) (tl th : Tok),
    Below A₀ base outer h₀ → Fr h₀ L s.heap m → (Mine.hd.heap_39 w.params).In h₀ → Top p loose mean mg mb h₀ → cs.kind = .function →
    News h₀ L s.heap led → 0 ≤ lo → lo < hi → hi ≤ ds.length → hi - lo ≤ N →
    dp + (hi - lo).toNat + 1 < recursionLimit → un + 8 * (hi - lo).toNat + 8 < cLine →
    (∀ t h' tk', Fr h₀ L h' m → News h₀ L h' led → Q (.int (undig z.toNat (sub ds lo hi)) t) { s with heap := h', toks := tk' }) →
    wpAny (model PySem.Challenge.rw_hi0005_01.row.prog w) (ktrTop dp un gd cn cs L a ccd cl outer) (call (.ref f) [.int lo tl, .int hi th]) Q E s
theorem und_ret {h' : Heap} {tk' : Nat} {t : Tok} {v v' : Int} {led : List (Addr × Obj)} {Q : Value → Shared → Prop} {s : Shared} (hret : ∀ t h' tk', Fr h₀ L h' m → News h₀ L h' led → Q (.int v' t) { s with heap := h', toks := tk' }) (e : v = v') (F : Fr h₀ L h' m) (N : News h₀ L h' led) :
    Q (.int v t) { s with heap := h', toks := tk' } := by subst e; exact hret _ _ _ F N
abbrev Q37 : PySem.Str := (PySem.Str.ofString "_digits2int" ++ PySem.Str.ofString ".<locals>.") ++ PySem.Str.ofString "inner"
structure UndZ (z : Int) (ds : List Int) : Prop where
theorem und_use {f : Addr} {led : List (Addr × Obj)} {ds : List Int} {hi z : Int} {tl th : Tok}
    (_mz : UndZ z ds) (hz : 0 < z ∧ z ≤ 20 ∧ ds.length ≤ 20 ∧ ∀ d ∈ ds, 0 ≤ d ∧ d < 2 ^ z.toNat) (key : 0 < z ∧ z ≤ 20 ∧ ds.length ≤ 20 ∧ (∀ d ∈ ds, 0 ≤ d ∧ d < 2 ^ z.toNat) → ∀ N, UndC p loose mean mg mb w f led z ds N)
    (B : Below A₀ base outer h₀) (F : Fr h₀ L s.heap m) (X : (Mine.hd.heap_39 w.params).In h₀) (T : Top p loose mean mg mb h₀) (hk : cs.kind = .function) (N : News h₀ L s.heap led)
    (h1 : 0 < hi) (h2 : hi = ds.length) (hd : dp + 30 < recursionLimit) (hu : un + 300 < cLine)
    (h : ∀ t h' tk', Fr h₀ L h' m → News h₀ L h' led → Q (.int (undig z.toNat ds) t) { s with heap := h', toks := tk' }) :
    wpAny (model PySem.Challenge.rw_hi0005_01.row.prog w) (ktrTop dp un gd cn cs L a ccd cl outer) (call (.ref f) [.int 0 tl, .int hi th]) Q E s := by
  refine key hz hi.toNat dp un gd cn cs a ccd cl outer A₀ base h₀ L m s Q E 0 hi tl th B F X T hk N (by omega) h1 (by omega) (by omega) (by omega) (by omega) ?_
  intro t h' tk' F' N'
  have := h t h' tk' F' N'
  rw [sub_all h2]
  exact this
end
local macro_rules | `(tactic| walk_at "binaryOp Mult int int") => `(tactic| (k_here; refine mul_int ?_ (Mine.mul_ok (by omega) (by omega))))
local macro_rules | `(tactic| walk_at "binaryOp RShift int int") => `(tactic| (k_here; refine rshift_int (by omega) ?_))
local macro_rules | `(tactic| walk_at "binaryOp LShift int int") => `(tactic| (k_here; refine lshift_int (by omega) (by omega) ?_))
local macro_rules | `(tactic| walk_at "clear all") => `(tactic| ((repeat (rename Fr _ _ _ _ => z9; clear z9)); (repeat (rename News _ _ _ _ => z9; clear z9)); (repeat (rename Below _ _ _ _ => z9; clear z9)); (repeat (rename Top _ _ _ _ _ _ => z9; clear z9)); (repeat (rename Frag.In _ _ => z9; clear z9))))
local macro_rules | `(tactic| walk_at "call ref") => `(tactic| (k_here; (with_reducible show wpAny _ _ (call (Value.ref _) [Value.int _ _, Value.int _ _]) _ _ _); refine Mine.hold ?_))
local macro_rules | `(tactic| walk_at "call ref") => `(tactic| (
  k_here
  (with_reducible show wpAny _ _ (call (Value.ref _) [Value.int _ _, Value.int _ _]) _ _ _)
  (rename UndC _ _ _ _ _ _ _ _ _ _ _ => ih9)
  k_dflt (refine' ih9 _ _ _ _ _ _ _ _ _ _ _ _ _ _ _ _ _ _ _ _ _ ?B ?F ?X ?T ?hk ?N ?q1 ?q2 ?q3 ?q4 ?q5 ?q6 ?_)
  (case B => k_asm); (case F => k_asm); (case X => k_asm); (case T => k_asm); (case hk => first | exact rfl | assumption); (case N => k_asm); (case q1 => omega); (case q2 => omega); (case q3 => omega); (case q4 => omega); (case q5 => first | exact Mine.room_a (by with_reducible assumption) (by with_reducible assumption) (by with_reducible assumption) (by with_reducible assumption) | exact Mine.room_b (by with_reducible assumption) (by with_reducible assumption) (by with_reducible assumption) (by with_reducible assumption) | omega | ktr_room); (case q6 => first | exact Mine.unit_a (by with_reducible assumption) (by with_reducible assumption) (by with_reducible assumption) (by with_reducible assumption) | exact Mine.unit_b (by with_reducible assumption) (by with_reducible assumption) (by with_reducible assumption) (by with_reducible assumption) | omega | ktr_units)
  intro t9 h9 tk9 F9 N9))
local macro_rules | `(tactic| walk_at "und step") => `(tactic| (
  walk_at "clear all"
  intro hz9 N9
  obtain ⟨hz8, hz7, hz6, hz5⟩ := hz9
  induction N9 with
  | zero => (unfold UndC; intros; exfalso; omega)
  | succ N9 ih9 =>
    unfold UndC
    intro dp un gd cn cs a ccd cl outer A₀ base h₀ L m s Q E lo hi tl th B F X T hk N q1 q2 q3 q4 q9 q10 hret
    obtain ⟨s1, s2, s3, s4, s5⟩ := und_facts q1 q2 q3 hz6 hz8 hz7 hz5
    dsimp only [Mt, Sh] at s1 s2 s3 s4 s5
    refine wpAny_call ?_
    k_dflt kn_enter
    k_steps
    · exact und_ret hret (und_one q1 (by with_reducible assumption) q3) (by with_reducible assumption) (by with_reducible assumption)
    · exact und_ret hret s5 (by with_reducible assumption) (by with_reducible assumption)))
local macro_rules | `(tactic| walk_at "und call") => `(tactic| (
  refine unhold ?_
  k_dflt (refine' und_use ?mz ?hz ?key ?B ?F ?X ?T ?hk ?N ?q1 ?q2 ?q7 ?q8 ?_)
  (case N => k_asm); (case mz => with_reducible assumption); (case hz => with_reducible assumption); (case B => k_asm); (case F => k_asm); (case X => k_asm); (case T => k_asm); (case hk => exact rfl); (case q1 => omega); (case q2 => omega); (case q7 => first | omega | ktr_room); (case q8 => first | omega | ktr_units)
  (case key => walk_at "und step")
  intro t9 h9 tk9 F9 N9))
section
variable {p : Program} {loose : List Str} {mean : ExcName → Option Value} {mg mb : Str → Option Value} {w : World}
  {dp un : Nat} {gd : Option (List Code)} {cn : Str} {cs : Scope} {a : Addr} {ccd : Value} {cl : List (Str × Addr)} {outer : List Env} {A₀ : Around} {base h₀ : Heap} {L : Addr} {m : Str → Option Value} {s : Shared} {Q E : Value → Shared → Prop} {news : List (Addr × Obj)}
set_option linter.unusedVariables false
theorem digits2int_no {l : Addr} {vs : List Value} {k : Nat} {ds : List Int} {z : Int} {tz : Tok}
  (B : Below A₀ base outer h₀) (F : Fr h₀ L s.heap m) (X : (Mine.hd.heap_39 w.params).In h₀) (T : Top p loose mean mg mb h₀) (hk : cs.kind = .function) (C1 : CodeHd base 41 37)
  (N : News h₀ L s.heap ((l, W.listOf vs.toArray k) :: (37, tabObj #[]) :: news))
  (hnw : ∀ q ∈ news, q.1 ≠ 37) (hl37 : l ≠ 37) (hi9 : IntsAre vs ds)
  (hdp : dp + 50 < recursionLimit) (hun : un + 400 < cLine) (hz : 0 < z ∧ z ≤ 20 ∧ ds.length ≤ 20 ∧ ∀ d ∈ ds, 0 ≤ d ∧ d < 2 ^ z.toNat)
  (hret : ∀ c oc cv, oc.data = .fields cv → (∃ t, cv[1]? = some (.str Q37 t)) → (∀ q ∈ news, q.1 < c) → l < c → 37 < c → ∀ t h' tk', Fr h₀ L h' m →
    News h₀ L h' ((l, W.listOf vs.toArray k) :: (37, tabObj #[rawInt ((47 : Nat) : Int), rawInt ((4 : Nat) : Int), .ref c]) :: (c, oc) :: news) → Q (.int (undig z.toNat ds) t) { s with heap := h', toks := tk' }) :
  wpAny (model PySem.Challenge.rw_hi0005_01.row.prog w) (ktrTop dp un gd cn cs L a ccd cl outer) (call (.ref 42) [.ref l, .int z tz]) Q E s := by
  revert X; k_fill; intro X
  have mz : UndZ z ds := ⟨⟩
  obtain ⟨hz1, hz2, hz3, hz4⟩ := id hz
  k_steps
  · walk_at "und call"
    k_steps
    (rename News _ _ _ _ => N8)
    (try dsimp only at N8)
    rw [Array.empty_append] at N8
    refine' und_ret (hret _ _ _ ?h1 ?h2 ?h7 ?h8 ?h9) ?h3 ?h5 (news_sub N8 ?h6)
    case h1 => with_reducible assumption
    case h2 => exact ⟨_, by assumption⟩
    case h3 => rfl
    case h5 => with_reducible assumption
    case h6 => walk_at "sub"
    case h7 => exact allLt_get (by walk_at "all of")
    case h8 => walk_at "lt of"
    case h9 => walk_at "lt of"
  · (rename News _ _ _ _ => N8)
    (try dsimp only at N8)
    rw [Array.empty_append] at N8
    refine' und_ret (hret _ _ _ ?h1 ?h2 ?h7 ?h8 ?h9) ?h3 ?h5 (news_sub N8 ?h6)
    case h1 => with_reducible assumption
    case h2 => exact ⟨_, by assumption⟩
    case h3 => (have e9 : ds = [] := List.eq_nil_of_length_eq_zero (by omega)); rw [e9]; rfl
    case h5 => with_reducible assumption
    case h6 => walk_at "sub"
    case h7 => exact allLt_get (by walk_at "all of")
    case h8 => walk_at "lt of"
    case h9 => walk_at "lt of"
theorem digits2int_yes {l : Addr} {vs : List Value} {k : Nat} {ds : List Int} {z : Int} {tz : Tok} {c : Addr} {oc : Obj} {cv : Array Value} {t : Tok} (hoc : oc.data = .fields cv) (hcv : cv[1]? = some (.str Q37 t))
  (B : Below A₀ base outer h₀) (F : Fr h₀ L s.heap m) (X : (Mine.hd.heap_39 w.params).In h₀) (T : Top p loose mean mg mb h₀) (hk : cs.kind = .function) (C1 : CodeHd base 41 37)
  (N : News h₀ L s.heap ((l, W.listOf vs.toArray k) :: (37, tabObj #[rawInt ((47 : Nat) : Int), rawInt ((4 : Nat) : Int), .ref c]) :: (c, oc) :: news))
  (hnw : ∀ q ∈ news, q.1 ≠ 37) (hl37 : l ≠ 37) (hi9 : IntsAre vs ds)
  (hdp : dp + 50 < recursionLimit) (hun : un + 400 < cLine) (hz : 0 < z ∧ z ≤ 20 ∧ ds.length ≤ 20 ∧ ∀ d ∈ ds, 0 ≤ d ∧ d < 2 ^ z.toNat)
  (hret : ∀ t h' tk', Fr h₀ L h' m →
    News h₀ L h' ((l, W.listOf vs.toArray k) :: (37, tabObj #[rawInt ((47 : Nat) : Int), rawInt ((4 : Nat) : Int), .ref c]) :: (c, oc) :: news) → Q (.int (undig z.toNat ds) t) { s with heap := h', toks := tk' }) :
  wpAny (model PySem.Challenge.rw_hi0005_01.row.prog w) (ktrTop dp un gd cn cs L a ccd cl outer) (call (.ref 42) [.ref l, .int z tz]) Q E s := by
  revert X; k_fill; intro X
  have mz : UndZ z ds := ⟨⟩
  obtain ⟨hz1, hz2, hz3, hz4⟩ := id hz
  k_steps
  · walk_at "und call"
    k_steps
    (rename News _ _ _ _ => N8)
    (try dsimp only at N8)
    refine' und_ret hret ?h3 ?h5 (news_sub N8 ?h6)
    case h3 => rfl
    case h5 => with_reducible assumption
    case h6 => walk_at "sub"
  · (rename News _ _ _ _ => N8)
    (try dsimp only at N8)
    refine' und_ret hret ?h3 ?h5 (news_sub N8 ?h6)
    case h3 => (have e9 : ds = [] := List.eq_nil_of_length_eq_zero (by omega)); rw [e9]; rfl
    case h5 => with_reducible assumption
    case h6 => walk_at "sub"
end

end Mine
end
section
namespace Mine
inductive T30 : List (Addr × Obj) → Prop
  | no : T30 [(30, tabObj #[])]
  | yes {c : Addr} {oc : Obj} {cv : Array Value} {t : Tok} : oc.data = .fields cv → cv[1]? = some (.str Q30 t) → 37 < c → T30 [(30, tabObj #[rawInt ((32 : Nat) : Int), rawInt ((4 : Nat) : Int), .ref c]), (c, oc)]
inductive T37 : List (Addr × Obj) → Prop
  | no : T37 [(37, tabObj #[])]
  | yes {c : Addr} {oc : Obj} {cv : Array Value} {t : Tok} : oc.data = .fields cv → cv[1]? = some (.str Q37 t) → 37 < c → T37 [(37, tabObj #[rawInt ((47 : Nat) : Int), rawInt ((4 : Nat) : Int), .ref c]), (c, oc)]
inductive TBs : List (Addr × Obj) → Prop
  | mk {a b : List (Addr × Obj)} : T30 a → T37 b → (∀ q ∈ b, q.1 ≠ 30 ∧ ∀ p ∈ a, p.1 ≠ q.1) → TBs (a ++ b)
theorem fr_know {h₀ h : Heap} {L : Addr} {m : Str → Option Value} {x : Str} {v : Value} (F : Fr h₀ L h m) (e : m x = some v) : Fr h₀ L h (fun y => if y = x then some v else m y) := by
  have q : (fun y => if y = x then some v else m y) = m := by
    funext y
    by_cases hy : y = x
    · subst hy; rw [if_pos rfl, e]
    · rw [if_neg hy]
  rw [q]; exact F
abbrev Apart (tl l : List (Addr × Obj)) : Prop := ∀ q ∈ l, ∀ p ∈ tl, p.1 ≠ q.1
section
variable {p : Program} {loose : List Str} {mean : ExcName → Option Value} {mg mb : Str → Option Value} {w : World}
  {dp un : Nat} {gd : Option (List Code)} {cn : Str} {cs : Scope} {a : Addr} {ccd : Value} {cl : List (Str × Addr)} {outer : List Env} {A₀ : Around} {base h₀ : Heap} {L : Addr} {m : Str → Option Value} {s : Shared} {Q E : Value → Shared → Prop} {news tl : List (Addr × Obj)}
theorem int2digits_c {x z : Int} {tx tz : Tok} (es : List (Addr × Obj))
  (B : Below A₀ base outer h₀) (F : Fr h₀ L s.heap m) (X : (Mine.hd.heap_39 w.params).In h₀) (T : Top p loose mean mg mb h₀) (hk : cs.kind = .function) (C1 : CodeHd base 34 30)
  (N : News h₀ L s.heap (es ++ (tl ++ news))) (hT : TBs tl) (hA : Apart tl (es ++ news))
  (hdp : dp + 50 < recursionLimit) (hun : un + 400 < cLine) (hx : 0 ≤ x) (hxb : x < 1048576) (hz : 0 < z) (hzb : z ≤ 20)
  (hret : ∀ r vs k tl' h' tk', TBs tl' → Apart tl' (es ++ news) → (∀ q ∈ tl', q.1 ≠ r) → IntsAre vs (digs z.toNat (ndig x z) x) → (∀ q ∈ es, q.1 < r) → (∀ q ∈ news, q.1 < r) → Fr h₀ L h' m →
    News h₀ L h' ((r, W.listOf vs.toArray k) :: (es ++ (tl' ++ news))) → Q (.ref r) { s with heap := h', toks := tk' }) :
  wpAny (model PySem.Challenge.rw_hi0005_01.row.prog w) (ktrTop dp un gd cn cs L a ccd cl outer) (call (.ref 35) [.int x tx, .int z tz]) Q E s := by
  cases hT with
  | @mk a₁ b ha hb hab =>
    have hA1 : ∀ q ∈ es ++ news, ∀ p ∈ a₁, p.1 ≠ q.1 := fun q hq p hp => hA q hq p (List.mem_append_left _ hp)
    have hA2 : ∀ q ∈ es ++ news, ∀ p ∈ b, p.1 ≠ q.1 := fun q hq p hp => hA q hq p (List.mem_append_right _ hp)
    have hlt : ∀ (r : Addr), (∀ q ∈ b ++ (es ++ news), q.1 < r) → (∀ q ∈ es, q.1 < r) ∧ (∀ q ∈ news, q.1 < r) ∧ ∀ q ∈ b, q.1 < r := fun r h =>
      ⟨fun q hq => h q (List.mem_append_right _ (List.mem_append_left _ hq)), fun q hq => h q (List.mem_append_right _ (List.mem_append_right _ hq)), fun q hq => h q (List.mem_append_left _ hq)⟩
    cases ha with
    | no =>
      refine int2digits_no (news := b ++ (es ++ news)) B F X T hk C1 (news_sub N ?_) ?_ hdp hun hx hxb hz hzb ?_
      · intro q hq; simp only [List.mem_cons, List.mem_append, List.not_mem_nil, or_false] at hq ⊢; rcases hq with h | h | h | h <;> simp [h]
      · intro q hq
        rcases List.mem_append.mp hq with h | h
        · exact (hab q h).1
        · exact Ne.symm (hA1 q h _ (.head _))
      · intro r vs k c oc cv t h' tk' hoc hcv hc h30 i hr F' N'
        have h37 : 37 < c := by
          cases hb with
          | no => exact hc (37, _) (.head _)
          | yes => exact hc (37, _) (.head _)
        obtain ⟨r1, r2, r3⟩ := hlt r hr
        obtain ⟨c1, c2, c3⟩ := hlt c hc
        have hrc : ∀ q ∈ [((30 : Addr), tabObj #[rawInt ((32 : Nat) : Int), rawInt ((4 : Nat) : Int), .ref c]), (c, oc)], q.1 ≠ r := by
          have n1 := N' _ (List.mem_cons_self ..)
          intro q hq e
          have n2 := N' q (by rcases List.mem_cons.mp hq with h | h; subst h; exact .tail _ (.head _); rcases List.mem_singleton.mp h with h; subst h; exact .tail _ (.tail _ (.head _)))
          rw [e] at n2
          have e2 := Option.some.inj (n2.1.symm.trans n1.1)
          rcases List.mem_cons.mp hq with h | h
          · subst h; cases e2
          · rcases List.mem_singleton.mp h with h; subst h
            have : oc = W.listOf vs.toArray k := e2
            rw [this] at hoc; cases hoc
        refine hret r vs k _ h' tk' (.mk (.yes hoc hcv h37) hb ?_) ?_ ?_ i r1 r2 F' (news_sub N' ?_)
        · intro q hq
          refine ⟨(hab q hq).1, ?_⟩
          intro p hp
          rcases List.mem_cons.mp hp with h | h
          · subst h; exact Ne.symm (hab q hq).1
          · rcases List.mem_singleton.mp h with h; subst h
            exact Ne.symm (Nat.ne_of_lt (c3 q hq))
        · intro q hq p hp
          rcases List.mem_append.mp hp with h | h
          · rcases List.mem_cons.mp h with h | h
            · subst h; exact hA1 q hq (30, tabObj #[]) (.head _)
            · rcases List.mem_singleton.mp h with h; subst h
              exact Ne.symm (Nat.ne_of_lt (hc q (List.mem_append_right _ hq)))
          · exact hA2 q hq p h
        · intro q hq
          rcases List.mem_append.mp hq with h | h
          · exact hrc q h
          · exact Nat.ne_of_lt (r3 q h)
        · intro q hq; simp only [List.mem_cons, List.mem_append, List.not_mem_nil, or_false] at hq ⊢; rcases hq with h | h | ((h | h) | h) | h <;> simp [h]
    | @yes c oc cv t hoc hcv h37 =>
      refine int2digits_yes (c := c) (news := b ++ (es ++ news)) hoc hcv B F X T hk C1 (news_sub N ?_) ?_ hdp hun hx hxb hz hzb ?_
      · intro q hq; simp only [List.mem_cons, List.mem_append, List.not_mem_nil, or_false] at hq ⊢; rcases hq with h | h | h | h | h <;> simp [h]
      · intro q hq
        rcases List.mem_append.mp hq with h | h
        · exact (hab q h).1
        · exact Ne.symm (hA1 q h _ (.head _))
      · intro r vs k h' tk' i hr F' N'
        obtain ⟨r1, r2, r3⟩ := hlt r hr
        have hrc : ∀ q ∈ [((30 : Addr), tabObj #[rawInt ((32 : Nat) : Int), rawInt ((4 : Nat) : Int), .ref c]), (c, oc)], q.1 ≠ r := by
          have n1 := N' _ (List.mem_cons_self ..)
          intro q hq e
          have n2 := N' q (by rcases List.mem_cons.mp hq with h | h; subst h; exact .tail _ (.head _); rcases List.mem_singleton.mp h with h; subst h; exact .tail _ (.tail _ (.head _)))
          rw [e] at n2
          have e2 := Option.some.inj (n2.1.symm.trans n1.1)
          rcases List.mem_cons.mp hq with h | h
          · subst h; cases e2
          · rcases List.mem_singleton.mp h with h; subst h
            have : oc = W.listOf vs.toArray k := e2
            rw [this] at hoc; cases hoc
        refine hret r vs k _ h' tk' (.mk (.yes hoc hcv h37) hb hab) hA ?_ i r1 r2 F' (news_sub N' ?_)
        · intro q hq
          rcases List.mem_append.mp hq with h | h
          · exact hrc q h
          · exact Nat.ne_of_lt (r3 q h)
        · intro q hq; simp only [List.mem_cons, List.mem_append, List.not_mem_nil, or_false] at hq ⊢; rcases hq with h | h | ((h | h) | h) | h <;> simp [h]
theorem digits2int_c {l : Addr} {vs : List Value} {k : Nat} {ds : List Int} {z : Int} {tz : Tok} (es : List (Addr × Obj))
  (B : Below A₀ base outer h₀) (F : Fr h₀ L s.heap m) (X : (Mine.hd.heap_39 w.params).In h₀) (T : Top p loose mean mg mb h₀) (hk : cs.kind = .function) (C1 : CodeHd base 41 37)
  (N : News h₀ L s.heap (es ++ (tl ++ news))) (hl : (l, W.listOf vs.toArray k) ∈ es) (hT : TBs tl) (hA : Apart tl (es ++ news)) (hi9 : IntsAre vs ds)
  (hdp : dp + 50 < recursionLimit) (hun : un + 400 < cLine) (hz : 0 < z ∧ z ≤ 20 ∧ ds.length ≤ 20 ∧ ∀ d ∈ ds, 0 ≤ d ∧ d < 2 ^ z.toNat)
  (hret : ∀ tl' t h' tk', TBs tl' → Apart tl' (es ++ news) → Fr h₀ L h' m → News h₀ L h' (es ++ (tl' ++ news)) → Q (.int (undig z.toNat ds) t) { s with heap := h', toks := tk' }) :
  wpAny (model PySem.Challenge.rw_hi0005_01.row.prog w) (ktrTop dp un gd cn cs L a ccd cl outer) (call (.ref 42) [.ref l, .int z tz]) Q E s := by
  cases hT with
  | @mk a₁ b ha hb hab =>
    have hA1 : ∀ q ∈ es ++ news, ∀ p ∈ a₁, p.1 ≠ q.1 := fun q hq p hp => hA q hq p (List.mem_append_left _ hp)
    have hA2 : ∀ q ∈ es ++ news, ∀ p ∈ b, p.1 ≠ q.1 := fun q hq p hp => hA q hq p (List.mem_append_right _ hp)
    have hne : ∀ q ∈ a₁ ++ (es ++ news), ∀ p ∈ b, p.1 ≠ q.1 := fun q hq p hp => by
      rcases List.mem_append.mp hq with h | h
      · exact Ne.symm ((hab p hp).2 q h)
      · exact hA2 q h p hp
    cases hb with
    | no =>
      refine digits2int_no (k := k) (news := a₁ ++ (es ++ news)) B F X T hk C1 (news_sub N ?_) ?_ ?_ hi9 hdp hun hz ?_
      · intro q hq; simp only [List.mem_cons, List.mem_append, List.not_mem_nil, or_false] at hq ⊢; rcases hq with h | h | h | h | h <;> simp [h, hl]
      · exact fun q hq => Ne.symm (hne q hq _ (.head _))
      · exact Ne.symm (hA2 _ (List.mem_append_left _ hl) _ (.head _))
      · rintro c oc cv hoc ⟨t, hcv⟩ hc hlc h37 t' h' tk' F' N'
        refine hret _ t' h' tk' (.mk ha (.yes hoc hcv h37) ?_) ?_ F' (news_sub N' ?_)
        · intro q hq
          rcases List.mem_cons.mp hq with h | h
          · subst h; exact hab (37, tabObj #[]) (.head _)
          · rcases List.mem_singleton.mp h with h; subst h
            exact ⟨by have : (37 : Nat) < c := h37; show c ≠ 30; exact Nat.ne_of_gt (Nat.lt_trans (by decide) this), fun p hp => Nat.ne_of_lt (hc p (List.mem_append_left _ hp))⟩
        · intro q hq p hp
          rcases List.mem_append.mp hp with h | h
          · exact hA1 q hq p h
          · rcases List.mem_cons.mp h with h | h
            · subst h; exact hA2 q hq (37, tabObj #[]) (.head _)
            · rcases List.mem_singleton.mp h with h; subst h
              exact Ne.symm (Nat.ne_of_lt (hc q (List.mem_append_right _ hq)))
        · intro q hq; simp only [List.mem_cons, List.mem_append, List.not_mem_nil, or_false] at hq ⊢; rcases hq with h | ((h | h | h) | h) <;> simp [h]
    | @yes c oc cv t hoc hcv h37 =>
      refine digits2int_yes (c := c) (k := k) (news := a₁ ++ (es ++ news)) hoc hcv B F X T hk C1 (news_sub N ?_) ?_ ?_ hi9 hdp hun hz ?_
      · intro q hq; simp only [List.mem_cons, List.mem_append, List.not_mem_nil, or_false] at hq ⊢; rcases hq with h | h | h | h | h | h <;> simp [h, hl]
      · exact fun q hq => Ne.symm (hne q hq _ (.head _))
      · exact Ne.symm (hA2 _ (List.mem_append_left _ hl) _ (.head _))
      · intro t' h' tk' F' N'
        refine hret _ t' h' tk' (.mk ha (.yes hoc hcv h37) hab) hA F' (news_sub N' ?_)
        intro q hq; simp only [List.mem_cons, List.mem_append, List.not_mem_nil, or_false] at hq ⊢; rcases hq with h | ((h | h | h) | h) <;> simp [h]
end
section
variable {prog : Program} {w : World} {A : Around} {E : Value → Shared → Prop} {s : Shared} {env : Env} {h₀ : Heap} {x : Str} {body : List Stmt} {Q : Flow → Shared → Prop}
theorem unrPost_mono {L I : Addr} {it : Obj} {s₁ s₂ : Shared} {R R' : (Str → Option Value) → List (Addr × Obj) → Prop} {f : Flow} (h : ∀ m n, R m n → R' m n) (x : UnrPost h₀ L s₁ I it R Q f s₂) : UnrPost h₀ L s₁ I it R' Q f s₂ := by
  cases f with
  | ret v => exact x
  | brk => exact x
  | next => obtain ⟨h', tk, m', n', e, F, N, o, r⟩ := x; exact ⟨h', tk, m', n', e, F, N, o, h _ _ r⟩
  | cont => obtain ⟨h', tk, m', n', e, F, N, o, r⟩ := x; exact ⟨h', tk, m', n', e, F, N, o, h _ _ r⟩
theorem revRest_ind {I : Addr} {lp : Addr × Obj} (J : List Value → (Str → Option Value) → List (Addr × Obj) → Prop)
    (turn : ∀ v r m₁ news₁ (it : Obj) h tk, J (v :: r) m₁ news₁ → it.cls = .type "list_reverseiterator" → Fr h₀ env.locals h (fun y => if y = x then some v else m₁ y) → News h₀ env.locals h ((I, it) :: news₁) →
      wpAny (model prog w) A (execs body env) (UnrPost h₀ env.locals { s with heap := h, toks := tk } I it (fun m' n' => lp ∈ n' ∧ J r m' n') Q) E { s with heap := h, toks := tk })
    (done : ∀ m₁ news₁ h tk, J [] m₁ news₁ → Fr h₀ env.locals h m₁ → News h₀ env.locals h news₁ → Q .next { s with heap := h, toks := tk }) :
    ∀ (l : List Value) m₁ news₁, J l m₁ news₁ → RevRest prog w A E h₀ env x body Q s I lp l m₁ news₁
  | [], m₁, news₁, j => fun h tk F N => done m₁ news₁ h tk j F N
  | v :: r, m₁, news₁, j => fun it h tk hc F N => wpAny_mono (turn v r m₁ news₁ it h tk j hc F N) (fun _ _ p => unrPost_mono (fun m' n' q => ⟨q.1, revRest_ind J turn done r m' n' q.2⟩) p) fun _ _ e => e
theorem listRest_ind {I : Addr} {lp : Addr × Obj} (J : List Value → (Str → Option Value) → List (Addr × Obj) → Prop)
    (turn : ∀ v r m₁ news₁ (it : Obj) h tk, J (v :: r) m₁ news₁ → it.cls = .type "list_iterator" → Fr h₀ env.locals h (fun y => if y = x then some v else m₁ y) → News h₀ env.locals h ((I, it) :: news₁) →
      wpAny (model prog w) A (execs body env) (UnrPost h₀ env.locals { s with heap := h, toks := tk } I it (fun m' n' => lp ∈ n' ∧ J r m' n') Q) E { s with heap := h, toks := tk })
    (done : ∀ m₁ news₁ h tk, J [] m₁ news₁ → Fr h₀ env.locals h m₁ → News h₀ env.locals h news₁ → Q .next { s with heap := h, toks := tk }) :
    ∀ (l : List Value) m₁ news₁, J l m₁ news₁ → ListRest prog w A E h₀ env x body Q s I lp l m₁ news₁
  | [], m₁, news₁, j => fun h tk F N => done m₁ news₁ h tk j F N
  | v :: r, m₁, news₁, j => fun it h tk hc F N => wpAny_mono (turn v r m₁ news₁ it h tk j hc F N) (fun _ _ p => unrPost_mono (fun m' n' q => ⟨q.1, listRest_ind J turn done r m' n' q.2⟩) p) fun _ _ e => e
theorem rangeRest_ind {I : Addr} {a : Int} {n : Nat} (J : Nat → (Str → Option Value) → List (Addr × Obj) → Prop)
    (turn : ∀ i m₁ news₁ t h tk, i < n → J i m₁ news₁ → Fr h₀ env.locals h (fun y => if y = x then some (.int (a + (i : Int)) t) else m₁ y) → News h₀ env.locals h ((I, itR (a + ((i + 1 : Nat) : Int)) ((n : Int) - ((i + 1 : Nat) : Int))) :: news₁) →
      wpAny (model prog w) A (execs body env) (UnrPost h₀ env.locals { s with heap := h, toks := tk } I (itR (a + ((i + 1 : Nat) : Int)) ((n : Int) - ((i + 1 : Nat) : Int))) (J (i + 1)) Q) E { s with heap := h, toks := tk })
    (done : ∀ m₁ news₁ h tk, J n m₁ news₁ → Fr h₀ env.locals h m₁ → News h₀ env.locals h news₁ → Q .next { s with heap := h, toks := tk }) :
    ∀ (k i : Nat) m₁ news₁, i + k = n → J i m₁ news₁ → RangeRest prog w A E h₀ env x body Q s I a n k i m₁ news₁
  | 0, i, m₁, news₁, e, j => fun h tk F N => done m₁ news₁ h tk (show J n m₁ news₁ from (show i = n by omega) ▸ j) F N
  | k + 1, i, m₁, news₁, e, j => fun t h tk F N => wpAny_mono (turn i m₁ news₁ t h tk (by omega) j F N) (fun _ _ p => unrPost_mono (fun m' n' q => rangeRest_ind J turn done k (i + 1) m' n' (by omega) q) p) fun _ _ e => e
end

end Mine
end
section
namespace Mine
section
variable {prog : Program} {w : World} {A : Around} {E : Value → Shared → Prop} {s : Shared} {h₀ : Heap} {L D : Addr} {m : Str → Option Value} {news news' : List (Addr × Obj)} {vs : List Value} {n : Nat} {x : Value}
theorem append1 {Q : Value → Shared → Prop} (F : Fr h₀ L s.heap m) (N : News h₀ L s.heap news) (U : Upd D (W.listOf vs.toArray n) (W.listOf (vs ++ [x]).toArray (n + 1)) news news') (hl : vs.length ≤ 1000)
    (h : ∀ h', Fr h₀ L h' m → News h₀ L h' news' → Q .none { s with heap := h' }) : wpAny (model prog w) A (call (.builtin "list.append") [.ref D, x]) Q E s := by
  have e : (vs ++ [x]).toArray = vs.toArray.push x := by simp
  rw [e] at U
  exact append_K F N U h (by rw [List.size_toArray, sizeLine_eq]; omega)
theorem reverse1 {Q : Value → Shared → Prop} (F : Fr h₀ L s.heap m) (N : News h₀ L s.heap news) (U : Upd D (W.listOf vs.toArray n) (W.listOf vs.reverse.toArray n) news news') (hl : vs.length ≤ 1000)
    (h : ∀ h', Fr h₀ L h' m → News h₀ L h' news' → Q .none { s with heap := h' }) : wpAny (model prog w) A (call (.builtin "list.reverse") [.ref D]) Q E s :=
  kl_reverse F N rfl U (by rw [sizeLine_eq]; show vs.length ≤ _; omega) h
theorem insert1 {Q : Value → Shared → Prop} {k : Int} {u : Tok} (F : Fr h₀ L s.heap m) (N : News h₀ L s.heap news) (h0 : 0 ≤ k) (h1 : k < 2 ^ 60) (U : Upd D (W.listOf vs.toArray n) (W.listOf (vs.take k.toNat ++ x :: vs.drop k.toNat).toArray (n + 1)) news news') (hl : vs.length ≤ 1000)
    (h : ∀ h', Fr h₀ L h' m → News h₀ L h' news' → Q .none { s with heap := h' }) : wpAny (model prog w) A (call (.builtin "list.insert") [.ref D, .int k u, x]) Q E s := by
  refine kl_insert F N (by simp [Builtin.List.listFitsIndex]; omega) (l := vs.take k.toNat ++ x :: vs.drop k.toNat) ?_ U (by rw [sizeLine_eq]; show vs.length ≤ _; omega) h
  show kl_ins vs k x = _
  unfold kl_ins
  rw [if_neg (by omega)]
  rcases Nat.le_total k.toNat vs.length with q | q
  · rw [Nat.min_eq_left q]
  · rw [Nat.min_eq_right q, List.take_of_length_le q, List.take_of_length_le (Nat.le_refl _), List.drop_eq_nil_of_le q, List.drop_eq_nil_of_le (Nat.le_refl _)]
end
theorem offI_of {I : Addr} {it : Obj} {l : List (Addr × Obj)} (h : ∀ p ∈ l, p.1 ≠ I) : OffI I it l := by
  induction l with
  | nil => trivial
  | cons x r ih => exact ⟨Or.inl (h x (.head _)), ih fun p hp => h p (.tail _ hp)⟩
theorem some_int_eq {a b : Int} {t : Tok} (h : a = b) : some (Value.int a t) = some (Value.int b t) := h ▸ rfl
theorem ints_nil_inv {ns : List Int} (h : IntsAre [] ns) : ns = [] := by cases h; rfl
theorem ints_reverse : ∀ {vs : List Value} {ns : List Int}, IntsAre vs ns → IntsAre vs.reverse ns.reverse
  | _, _, .nil => .nil
  | _, _, .cons n t h => by rw [List.reverse_cons, List.reverse_cons]; exact IntsAre.append (ints_reverse h) (.cons n t .nil)
theorem ints_cons_inv {v : Value} {r : List Value} {ns : List Int} (h : IntsAre (v :: r) ns) : ∃ d t ns', v = .int d t ∧ ns = d :: ns' ∧ IntsAre r ns' := by
  cases h with
  | cons n t h => exact ⟨n, t, _, rfl, rfl, h⟩
theorem rev_take_inv {as : List Int} {j : Nat} {d : Int} {r : List Int} (hj : j ≤ as.length) (h : (as.take j).reverse = d :: r) : ∃ i, j = i + 1 ∧ r = (as.take i).reverse ∧ as.drop i = d :: as.drop (i + 1) := by
  cases j with
  | zero => simp at h
  | succ i =>
    refine ⟨i, rfl, ?_⟩
    have hi : i < as.length := hj
    rw [List.take_add_one, List.getElem?_eq_getElem hi, Option.toList_some, List.reverse_append, List.reverse_singleton, List.singleton_append] at h
    injection h with h1 h2
    exact ⟨h2.symm, by rw [List.drop_eq_getElem_cons hi, h1]⟩
theorem div_turn {n : Nat} {y d V rv : Int} (hy : 0 < y) (hyb : y < 1048576) (hn : n ≤ 20) (hV : 0 ≤ V) (hd : 0 ≤ d ∧ d < 2 ^ n) (hr : rv = V % y) :
    0 ≤ rv * 2 ^ n + d ∧ rv * 2 ^ n + d < 1099511627776 ∧ rv.natAbs < 1048576 ∧ (rv * 2 ^ n + d).fdiv y = (rv * 2 ^ n + d) / y ∧ (rv * 2 ^ n + d).fmod y = (rv * 2 ^ n + d) % y ∧
    (rv * 2 ^ n + d) % y = (d + 2 ^ n * V) % y ∧ (rv * 2 ^ n + d) / y + 2 ^ n * (V / y) = (d + 2 ^ n * V) / y ∧ 0 ≤ (rv * 2 ^ n + d) / y ∧ (rv * 2 ^ n + d) / y < 2 ^ n := by
  have r0 : 0 ≤ rv := by rw [hr]; exact Int.emod_nonneg _ (Int.ne_of_gt hy)
  have r1 : rv < y := by rw [hr]; exact Int.emod_lt_of_pos _ hy
  have hp := two_pos n
  have hp2 : (2 : Int) ^ n ≤ 1048576 := by
    have h1 : 2 ^ n ≤ 1048576 := Nat.le_trans (Nat.pow_le_pow_right (show 0 < 2 by decide) hn) (by decide)
    have h2 : ((2 ^ n : Nat) : Int) ≤ ((1048576 : Nat) : Int) := Int.ofNat_le.mpr h1
    rw [Int.natCast_pow] at h2
    exact h2
  have eV : V = y * (V / y) + rv := by rw [hr]; have := Int.mul_ediv_add_emod V y; omega
  have e : d + 2 ^ n * V = (rv * 2 ^ n + d) + y * (2 ^ n * (V / y)) := by
    conv => lhs; rw [eV]
    rw [Int.mul_add, Int.mul_comm rv, ← Int.mul_assoc, ← Int.mul_assoc, Int.mul_comm (2 ^ n) y]
    omega
  have b0 : 0 ≤ rv * 2 ^ n := Int.mul_nonneg r0 (Int.le_of_lt hp)
  have b1 : rv * 2 ^ n ≤ 1048576 * 1048576 := Int.mul_le_mul (by omega) hp2 (Int.le_of_lt hp) (by omega)
  have b2 : (rv + 1) * 2 ^ n ≤ y * 2 ^ n := Int.mul_le_mul_of_nonneg_right (by omega) (Int.le_of_lt hp)
  rw [Int.add_mul, Int.one_mul] at b2
  have b3 : rv * 2 ^ n ≤ 1048574 * 1048576 := Int.mul_le_mul (by omega) hp2 (Int.le_of_lt hp) (by omega)
  refine ⟨by omega, by omega, by omega, Int.fdiv_eq_ediv_of_nonneg _ (Int.le_of_lt hy), Int.fmod_eq_emod_of_nonneg _ (Int.le_of_lt hy), ?_, ?_, Int.ediv_nonneg (by omega) (Int.le_of_lt hy), Int.ediv_lt_of_lt_mul hy (by have := Int.mul_comm y (2 ^ n); omega)⟩
  · rw [e, Int.add_mul_emod_self_left]
  · rw [e, Int.add_mul_ediv_left _ _ (Int.ne_of_gt hy)]

end Mine
end
section
local macro_rules | `(tactic| walk_at "exec For Name Call cons nil") => `(tactic| (k_here; (rename Fr _ _ _ _ => lF'); (with_unfolding_all refine' For_invVF lF' ?k1 ?k2 ?_; (case k1 => exact rfl); (case k2 => exact rfl); k_whole)))
local macro_rules | `(tactic| walk_at "apart1") => `(tactic| (rename AllLt _ _ => hA9; first | exact Mine.nl hA9 | exact Mine.nl hA9.2 | exact Mine.nl hA9.2.2 | exact Mine.nl hA9.2.2.2 | exact Mine.nl hA9.2.2.2.2 | exact Mine.nl hA9.2.2.2.2.2 | exact Mine.nl hA9.2.2.2.2.2.2 | exact Mine.nl hA9.2.2.2.2.2.2.2 | exact Mine.nl hA9.2.2.2.2.2.2.2.2 | exact Mine.nl hA9.2.2.2.2.2.2.2.2.2 | exact Mine.nl hA9.2.2.2.2.2.2.2.2.2.2 | exact Mine.nl hA9.2.2.2.2.2.2.2.2.2.2.2 | exact Mine.nl hA9.2.2.2.2.2.2.2.2.2.2.2.2 | exact Mine.nl hA9.2.2.2.2.2.2.2.2.2.2.2.2.2 | exact Mine.nl hA9.2.2.2.2.2.2.2.2.2.2.2.2.2.2 | exact Mine.nl hA9.2.2.2.2.2.2.2.2.2.2.2.2.2.2.2 | exact Mine.nl hA9.2.2.2.2.2.2.2.2.2.2.2.2.2.2.2.2 | exact Mine.nl hA9.2.2.2.2.2.2.2.2.2.2.2.2.2.2.2.2.2 | exact Mine.nl hA9.2.2.2.2.2.2.2.2.2.2.2.2.2.2.2.2.2.2 | exact Mine.allLt_ne (Mine.allLt_left hA9) (by omega) | (clear hA9; walk_at "apart1")))
local macro_rules | `(tactic| walk_at "apart") => `(tactic| first | exact List.forall_mem_nil _ | with_reducible assumption | (refine List.forall_mem_cons.mpr (And.intro ?_ ?_); (focus (first | with_reducible assumption | walk_at "apart1")); walk_at "apart"))
local macro_rules | `(tactic| walk_at "call ref") => `(tactic| (k_here; (with_reducible show wpAny _ _ (call (Value.ref 21) _) _ _ _); refine Mine.hold ?_))
local macro_rules | `(tactic| walk_at "call ref") => `(tactic| (k_here; (with_reducible show wpAny _ _ (call (Value.ref 35) _) _ _ _); refine Mine.hold ?_))
local macro_rules | `(tactic| walk_at "call ref") => `(tactic| (k_here; (with_reducible show wpAny _ _ (call (Value.ref 42) _) _ _ _); refine Mine.hold ?_))
local macro_rules | `(tactic| walk_at "call ref") => `(tactic| (k_here; (with_reducible show wpAny _ _ (call (Value.ref 21) [Value.int _ _, Value.int _ _, Value.int _ _]) _ _ _); k_dflt (refine' Mine.div2n1n_c ?B ?F ?X ?T ?hk ?N ?q1 ?q2 ?q3 ?q4 ?q5 ?q6 ?q7 ?_; (case B => k_asm); (case F => k_asm); (case X => k_asm); (case T => k_asm); (case hk => first | exact rfl | assumption); (case N => k_asm); (case q1 => first | omega | ktr_room); (case q2 => first | omega | ktr_units); (case q3 => omega); (case q4 => omega); (case q5 => omega); (case q6 => omega); (case q7 => omega)); intro r9 tq9 tr9 h9 tk9 l1 F9 N9; (try k_lt l1)))
local macro_rules | `(tactic| walk_at "call ref") => `(tactic| (k_here; (with_reducible show wpAny _ _ (call (Value.ref 35) [Value.int _ _, Value.int _ _]) _ _ _); k_dflt (refine' Mine.int2digits_c [] ?B ?F ?X ?T ?hk ?C ?N ?hT ?hA ?q1 ?q2 ?q3 ?q4 ?q5 ?q6 ?_; (case B => k_asm); (case F => k_asm); (case X => k_asm); (case T => k_asm); (case hk => first | exact rfl | assumption); (case C => kn_code); (case N => k_asm); (case hT => with_reducible assumption); (case hA => ((try simp only [List.cons_append, List.nil_append]); walk_at "apart")); (case q1 => first | omega | ktr_room); (case q2 => first | omega | ktr_units); (case q3 => omega); (case q4 => omega); (case q5 => omega); (case q6 => omega)); intro r9 vs9 k9 tl9 h9 tk9 hT9 hA9 hr9 i9 l1 l2 F9 N9; (try simp only [List.cons_append, List.nil_append] at N9 hA9); (replace l2 := allLt_of l2); (try k_lt l1); (repeat (have hx9 := (List.forall_mem_cons.mp hA9).1; replace hA9 := (List.forall_mem_cons.mp hA9).2; dsimp only at hx9))))
local macro_rules | `(tactic| walk_at "call ref") => `(tactic| (k_here; (with_reducible show wpAny _ _ (call (Value.ref 42) [Value.ref _, Value.int _ _]) _ _ _); k_dflt (refine' Mine.digits2int_c [_, _] ?B ?F ?X ?T ?hk ?C ?N ?hl ?hT ?hA ?i ?q1 ?q2 ?q3 ?_; (case B => k_asm); (case F => k_asm); (case X => k_asm); (case T => k_asm); (case hk => first | exact rfl | assumption); (case C => kn_code); (case N => k_asm); (case hl => walk_at "mem"); (case hT => with_reducible assumption); (case hA => ((try simp only [List.cons_append, List.nil_append]); walk_at "apart")); (case i => first | with_reducible assumption | l_ints); (case q1 => first | omega | ktr_room); (case q2 => first | omega | ktr_units); (case q3 => with_reducible assumption)); intro tl9 t9 h9 tk9 hT9 hA9 F9 N9; (try simp only [List.cons_append, List.nil_append] at N9 hA9); (repeat (have hx9 := (List.forall_mem_cons.mp hA9).1; replace hA9 := (List.forall_mem_cons.mp hA9).2; dsimp only at hx9))))
local macro_rules | `(tactic| walk_at "call builtin:list.append") => `(tactic| (k_here; (with_reducible show wpAny _ _ (call (Value.builtin _) [Value.ref _, _]) _ _ _); k_dflt (refine' Mine.append1 ?k1 ?k2 ?k3 (Nat.le_trans (Nat.le_of_eq (IntsAre.length ?i)) ?b) ?_; (case k1 => k_asm); (case k2 => k_asm); (case k3 => k_upd); (case i => with_reducible assumption); (case b => omega)); intro h' F' N'; (try k_sweep)))
local macro_rules | `(tactic| walk_at "call builtin:list.reverse") => `(tactic| (k_here; (with_reducible show wpAny _ _ (call (Value.builtin _) [Value.ref _]) _ _ _); k_dflt (refine' Mine.reverse1 ?k1 ?k2 ?k3 (Nat.le_trans (Nat.le_of_eq (IntsAre.length ?i)) ?b) ?_; (case k1 => k_asm); (case k2 => k_asm); (case k3 => k_upd); (case i => with_reducible assumption); (case b => omega)); intro h' F' N'; (try k_sweep)))
section
local macro_rules | `(tactic| walk_at "pyIter ref") => `(tactic| ((with_reducible show wpAny _ _ (pyIter (Value.ref _)) (fun it s₂ => LoopAtV _ _ _ _ _ _ _ _ _ it s₂) _ _); refine Mine.hold ?_))
namespace Mine
def DivJ (n : Nat) (as : List Int) (y : Int) (nv : Value) (led : List (Addr × Obj)) (lp : Addr × Obj) (qd : Addr) (rest : List Value) (m₁ : Str → Option Value) (news₁ : List (Addr × Obj)) : Prop :=
  ∃ (j : Nat) (tr tb : Tok) (qs : List Int) (vq : List Value) (kq : Nat),
    IntsAre rest (as.take j).reverse ∧ j ≤ as.length ∧ m₁ (PySem.Str.ofString "r") = some (.int (undig n (as.drop j) % y) tr) ∧ m₁ (PySem.Str.ofString "q_digits") = some (.ref qd) ∧
    m₁ (PySem.Str.ofString "b") = some (.int y tb) ∧ m₁ (PySem.Str.ofString "n") = some nv ∧
    IntsAre vq qs ∧ qs.length + j = as.length ∧ (∀ d ∈ qs, 0 ≤ d ∧ d < 2 ^ n) ∧ undig n qs.reverse = undig n (as.drop j) / y ∧
    news₁ = (qd, W.listOf vq.toArray kq) :: lp :: led
theorem div_loop {prog : Program} {w : World} {A : Around} {E : Value → Shared → Prop} {s : Shared} {env : Env} {h₀ : Heap} {x : Str} {body : List Stmt} {Q : Flow → Shared → Prop} {I qd ax : Addr} {m₀ : Str → Option Value} {vs : List Value} {as : List Int} {k n : Nat} {y : Int} {nv : Value} {tr tb : Tok} {led : List (Addr × Obj)}
    (hh : A.handled = none) (F : Fr h₀ env.locals s.heap m₀) (N : News h₀ env.locals s.heap ((I, revObj ax ((vs.length : Int) - 1)) :: (qd, W.listOf #[] 0) :: (ax, W.listOf vs.toArray k) :: led)) (i : IntsAre vs as)
    (hr : m₀ (PySem.Str.ofString "r") = some (.int 0 tr)) (hq : m₀ (PySem.Str.ofString "q_digits") = some (.ref qd)) (hb : m₀ (PySem.Str.ofString "b") = some (.int y tb)) (hn : m₀ (PySem.Str.ofString "n") = some nv)
    (hof : OffI I (revObj ax ((vs.length : Int) - 1)) ((qd, W.listOf #[] 0) :: (ax, W.listOf vs.toArray k) :: led))
    (turn : ∀ v r m₁ news₁ (it : Obj) h tk, DivJ n as y nv led (ax, W.listOf vs.toArray k) qd (v :: r) m₁ news₁ → it.cls = .type "list_reverseiterator" → Fr h₀ env.locals h (fun y => if y = x then some v else m₁ y) → News h₀ env.locals h ((I, it) :: news₁) →
      wpAny (model prog w) A (execs body env) (UnrPost h₀ env.locals { s with heap := h, toks := tk } I it (fun m' n' => (ax, W.listOf vs.toArray k) ∈ n' ∧ DivJ n as y nv led (ax, W.listOf vs.toArray k) qd r m' n') Q) E { s with heap := h, toks := tk })
    (done : ∀ m₁ news₁ h tk, DivJ n as y nv led (ax, W.listOf vs.toArray k) qd [] m₁ news₁ → Fr h₀ env.locals h m₁ → News h₀ env.locals h news₁ → Q .next { s with heap := h, toks := tk }) :
    wpAny (model prog w) A (pyIter (.ref I)) (fun it s₂ => LoopAtV prog w A h₀ env x body Q E it s₂) E s :=
  iter_revUnr (vs := vs) hh F N hof (.tail _ (.head _)) rfl rfl (revRest_ind (DivJ n as y nv led (ax, W.listOf vs.toArray k) qd) turn done _ _ _
    ⟨as.length, tr, tb, [], [], 0, (by rw [List.take_length]; exact ints_reverse i), Nat.le_refl _, (by rw [List.drop_length]; exact hr), hq, hb, hn, .nil, Nat.zero_add _, (fun d h => nomatch h), (by rw [List.drop_length]; exact (Int.zero_ediv _).symm), rfl⟩)
theorem div_end {h₀ h' : Heap} {L I qd : Addr} {it : Obj} {n i : Nat} {as qs ns : List Int} {y d q rv : Int} {nv : Value} {led : List (Addr × Obj)} {e0 lp : Addr × Obj} {r : List Value} {m' : Str → Option Value} {s₁ : Shared} {tk : Nat} {vq : List Value} {kq : Nat} {tr tb tq : Tok}
    (F : Fr h₀ L h' m') (N : News h₀ L h' (e0 :: (I, it) :: (qd, W.listOf (vq ++ [Value.int q tq]).toArray kq) :: lp :: led))
    (hr : m' (PySem.Str.ofString "r") = some (.int rv tr)) (hq : m' (PySem.Str.ofString "q_digits") = some (.ref qd)) (hb : m' (PySem.Str.ofString "b") = some (.int y tb)) (hn : m' (PySem.Str.ofString "n") = some nv)
    (e2 : ns = (as.take i).reverse) (j1 : IntsAre r ns) (j2 : i + 1 ≤ as.length) (e3 : as.drop i = d :: as.drop (i + 1)) (j7 : IntsAre vq qs) (j8 : qs.length + (i + 1) = as.length) (j9 : ∀ d ∈ qs, 0 ≤ d ∧ d < 2 ^ n)
    (j10 : undig n qs.reverse = undig n (as.drop (i + 1)) / y) (g6 : rv = (d + 2 ^ n * undig n (as.drop (i + 1))) % y) (g7 : q + 2 ^ n * (undig n (as.drop (i + 1)) / y) = (d + 2 ^ n * undig n (as.drop (i + 1))) / y) (g8 : 0 ≤ q) (g9 : q < 2 ^ n)
    (off : ∀ p ∈ (qd, W.listOf (vq ++ [Value.int q tq]).toArray kq) :: lp :: led, p.1 ≠ I) :
    UnrEnd h₀ L s₁ I it (fun m' n' => lp ∈ n' ∧ DivJ n as y nv led lp qd r m' n') { s₁ with heap := h', toks := tk } := by
  refine ⟨h', tk, m', _, rfl, F, fun p hp => N p (.tail _ hp), off, .tail _ (.head _), i, tr, tb, qs ++ [q], vq ++ [Value.int q tq], kq, e2 ▸ j1, Nat.le_of_succ_le j2, ?_, hq, hb, hn, IntsAre.append j7 (.cons _ _ .nil), ?_, ?_, ?_, rfl⟩
  · rw [hr, e3, g6]; rfl
  · rw [List.length_append, List.length_singleton]; omega
  · intro d' hd'
    rcases List.mem_append.mp hd' with h' | h'
    · exact j9 d' h'
    · rw [List.mem_singleton.mp h']; exact ⟨g8, g9⟩
  · rw [List.reverse_append, List.reverse_singleton, List.singleton_append, e3]
    show q + 2 ^ _ * undig _ qs.reverse = (d + 2 ^ _ * undig _ _) / y
    rw [j10, g7]
theorem nd_und {x y : Int} (hx : 0 ≤ x) (hxb : x < 1048576) (hy : 0 < y) : undig (((Builtin.Int.intBits y : Nat) : Int)).toNat (digs (((Builtin.Int.intBits y : Nat) : Int)).toNat (ndig x ((Builtin.Int.intBits y : Nat) : Int)) x) = x := by
  have hb1 : 0 < Builtin.Int.intBits y := by
    unfold Builtin.Int.intBits
    have h1 : (y == 0) = false := by simp; omega
    rw [h1]; exact Nat.succ_pos _
  obtain ⟨_, _, _, _, f5⟩ := nd_facts hx hxb (z := ((Builtin.Int.intBits y : Nat) : Int)) (by omega)
  exact und_digs _ _ _ hx f5
section
variable {p : Program} {loose : List Str} {mean : ExcName → Option Value} {mg mb : Str → Option Value} {w : World}
  {dp un : Nat} {gd : Option (List Code)} {cn : Str} {cs : Scope} {a : Addr} {ccd : Value} {cl : List (Str × Addr)} {outer : List Env} {A₀ : Around} {base h₀ : Heap} {L : Addr} {m : Str → Option Value} {s : Shared} {Q E : Value → Shared → Prop} {news tl : List (Addr × Obj)}
set_option linter.unusedVariables false
theorem divmodpos_c {x y : Int} {tx ty : Tok}
  (B : Below A₀ base outer h₀) (F : Fr h₀ L s.heap m) (X : (Mine.hd.heap_39 w.params).In h₀) (T : Top p loose mean mg mb h₀) (hk : cs.kind = .function) (C1 : CodeHd base 34 30) (C2 : CodeHd base 41 37)
  (N : News h₀ L s.heap (tl ++ news)) (hT : TBs tl) (hA : Apart tl news)
  (hdp : dp + 60 < recursionLimit) (hun : un + 500 < cLine) (hx : 0 ≤ x) (hxb : x < 1048576) (hy : 0 < y) (hyb : y < 1048576)
  (hret : ∀ r tq tr tl' h' tk', TBs tl' → Apart tl' news → (∀ q ∈ tl', q.1 ≠ r) → (∀ q ∈ news, q.1 < r) → Fr h₀ L h' m →
    News h₀ L h' ((r, { cls := .type "tuple", data := .seq #[.int (x / y) tq, .int (x % y) tr] }) :: (tl' ++ news)) → Q (.ref r) { s with heap := h', toks := tk' }) :
  wpAny (model PySem.Challenge.rw_hi0005_01.row.prog w) (ktrTop dp un gd cn cs L a ccd cl outer) (call (.ref 49) [.int x tx, .int y ty]) Q E s := by
  revert X; k_fill; intro X
  have hb1 : 0 < Builtin.Int.intBits y := by
    unfold Builtin.Int.intBits
    have h1 : (y == 0) = false := by simp; omega
    rw [h1]; exact Nat.succ_pos _
  have hb2 := intBits_lt (k := 20) (Int.le_of_lt hy) (by simpa using hyb)
  have hnd : ndig x ((Builtin.Int.intBits y : Nat) : Int) ≤ 20 := by
    obtain ⟨_, f2, _⟩ := nd_facts hx hxb (z := ((Builtin.Int.intBits y : Nat) : Int)) (by omega)
    unfold ndig; omega
  k_steps
  refine unhold ?_
  (rename IntsAre _ _ => i9; rename News _ _ _ _ => N9; rename Fr _ _ _ _ => F9)
  refine div_loop (n := (((Builtin.Int.intBits y : Nat) : Int)).toNat) (y := y) rfl F9 N9 i9 rfl rfl rfl rfl ?hof ?turn ?done
  case hof => exact offI_of (by k_all)
  case turn =>
    clear i9 N9 F9
    rintro v r m₁ news₁ it h tk ⟨j, tr, tb, qs, vq, kq, j1, j2, j3, j4, j5, j6, j7, j8, j9, j10, rfl⟩ hc F N
    obtain ⟨d, t, ns', rfl, e1, j1'⟩ := ints_cons_inv j1
    obtain ⟨i, rfl, e2, e3⟩ := rev_take_inv j2 e1
    have hdd := digs_bound _ _ _ d (List.mem_of_mem_drop (by rw [e3]; exact .head _))
    have hdl := digs_len (((Builtin.Int.intBits y : Nat) : Int)).toNat (ndig x ((Builtin.Int.intBits y : Nat) : Int)) x
    obtain ⟨g1, g2, g3, g4, g5, g6, g7, g8, g9⟩ := div_turn (V := undig (((Builtin.Int.intBits y : Nat) : Int)).toNat (List.drop (i + 1) (digs (((Builtin.Int.intBits y : Nat) : Int)).toNat (ndig x ((Builtin.Int.intBits y : Nat) : Int)) x))) hy hyb (by omega)
      (undig_bound _ _ fun d h => digs_bound _ _ _ d (List.mem_of_mem_drop h)).1 hdd rfl
    have F1 := fr_know (fr_know (fr_know (fr_know F (x := PySem.Str.ofString "r") j3) (x := PySem.Str.ofString "q_digits") j4) (x := PySem.Str.ofString "b") j5) (x := PySem.Str.ofString "n") j6
    clear F
    k_steps
    (rename Fr _ _ _ _ => F9; rename News _ _ _ _ => N9; (try dsimp only at N9))
    refine div_end F9 N9 rfl rfl rfl rfl e2 j1' j2 e3 j7 j8 j9 j10 (g5.trans g6) (by rw [g4]; exact g7) (by rw [g4]; exact g8) (by rw [g4]; exact g9) ?off
    case off => k_all
  case done =>
    clear i9 N9 F9
    rintro m₁ news₁ h tk ⟨j, tr, tb, qs, vq, kq, j1, j2, j3, j4, j5, j6, j7, j8, j9, j10, rfl⟩ F N
    have hdl := digs_len (((Builtin.Int.intBits y : Nat) : Int)).toNat (ndig x ((Builtin.Int.intBits y : Nat) : Int)) x
    have hj : j = 0 := by
      have e := congrArg List.length (ints_nil_inv j1)
      rw [List.length_reverse, List.length_take, List.length_nil] at e
      omega
    subst hj
    have ex := nd_und hx hxb hy
    rw [List.drop_zero, ex] at j3 j10
    have i9 := ints_reverse j7
    have hz9 : 0 < ((Builtin.Int.intBits y : Nat) : Int) ∧ ((Builtin.Int.intBits y : Nat) : Int) ≤ 20 ∧ qs.reverse.length ≤ 20 ∧ ∀ d ∈ qs.reverse, 0 ≤ d ∧ d < 2 ^ (((Builtin.Int.intBits y : Nat) : Int)).toNat :=
      ⟨by omega, by omega, by rw [List.length_reverse]; omega, fun d hd => j9 d (List.mem_reverse.mp hd)⟩
    have F1 := fr_know (fr_know (fr_know (fr_know F (x := PySem.Str.ofString "r") j3) (x := PySem.Str.ofString "q_digits") j4) (x := PySem.Str.ofString "b") j5) (x := PySem.Str.ofString "n") j6
    clear F
    k_steps
    (rename News _ _ _ _ => N8)
    (try dsimp only at N8)
    rw [j10] at N8
    exact hret _ _ _ _ _ _ (by with_reducible assumption) (by with_reducible assumption) (fun q hq => Nat.ne_of_lt (allLt_get (allLt_left (by first | with_reducible assumption | walk_at "all of")) q hq)) (allLt_get (allLt_right (by first | with_reducible assumption | walk_at "all of"))) (by with_reducible assumption) (news_sub N8 (by walk_at "sub"))
end

end Mine
end
section
local macro_rules | `(tactic| walk_at "call ref") => `(tactic| (k_here; (with_reducible show wpAny _ _ (call (Value.ref 49) _) _ _ _); refine Mine.hold ?_))
local macro_rules | `(tactic| walk_at "call ref") => `(tactic| (k_here; (with_reducible show wpAny _ _ (call (Value.ref 49) [Value.int _ _, Value.int _ _]) _ _ _); k_dflt (refine' Mine.divmodpos_c ?B ?F ?X ?T ?hk ?C ?D ?N ?hT ?hA ?q1 ?q2 ?q3 ?q4 ?q5 ?q6 ?_; (case B => k_asm); (case F => k_asm); (case X => k_asm); (case T => k_asm); (case hk => first | exact rfl | assumption); (case C => kn_code); (case D => kn_code); (case N => k_asm); (case hT => with_reducible assumption); (case hA => ((try simp only [List.cons_append, List.nil_append]); walk_at "apart")); (case q1 => first | omega | ktr_room); (case q2 => first | omega | ktr_units); (case q3 => omega); (case q4 => omega); (case q5 => omega); (case q6 => omega)); intro r9 tq9 tr9 tl9 h9 tk9 hT9 hA9 hr9 l2 F9 N9; (replace l2 := allLt_of l2)))
section
local macro_rules | `(tactic| walk_at "pyIter ref") => `(tactic| ((with_reducible show wpAny _ _ (pyIter (Value.ref _)) (fun it s₂ => LoopAtV _ _ _ _ _ _ _ _ _ it s₂) _ _); refine Mine.hold ?_))
namespace Mine
section
variable {p : Program} {loose : List Str} {mean : ExcName → Option Value} {mg mb : Str → Option Value} {w : World}
  {dp un : Nat} {gd : Option (List Code)} {cn : Str} {cs : Scope} {a : Addr} {ccd : Value} {cl : List (Str × Addr)} {outer : List Env} {A₀ : Around} {base h₀ : Heap} {L : Addr} {m : Str → Option Value} {s : Shared} {Q E : Value → Shared → Prop} {news tl : List (Addr × Obj)}
set_option linter.unusedVariables false
theorem intdivmod0 {x y : Int} {tx ty : Tok}
  (B : Below A₀ base outer h₀) (F : Fr h₀ L s.heap m) (X : (Mine.hd.heap_39 w.params).In h₀) (T : Top p loose mean mg mb h₀) (hk : cs.kind = .function) (C1 : CodeHd base 34 30) (C2 : CodeHd base 41 37)
  (N : News h₀ L s.heap (tl ++ news)) (hT : TBs tl) (hA : Apart tl news)
  (hdp : dp + 70 < recursionLimit) (hun : un + 600 < cLine) (hx : 0 ≤ x) (hxb : x < 1048576) (hy : 0 < y) (hyb : y < 1048576)
  (hret : ∀ r tq tr tl' h' tk', TBs tl' → Apart tl' news → (∀ q ∈ tl', q.1 ≠ r) → (∀ q ∈ news, q.1 < r) → Fr h₀ L h' m →
    News h₀ L h' ((r, { cls := .type "tuple", data := .seq #[.int (x / y) tq, .int (x % y) tr] }) :: (tl' ++ news)) → Q (.ref r) { s with heap := h', toks := tk' }) :
  wpAny (model PySem.Challenge.rw_hi0005_01.row.prog w) (ktrTop dp un gd cn cs L a ccd cl outer) (call (.ref 56) [.int x tx, .int y ty]) Q E s := by
  revert X; k_fill; intro X
  k_steps
  · exfalso; omega
  exact hret _ _ _ _ _ _ (by with_reducible assumption) (by with_reducible assumption) (by with_reducible assumption) (allLt_get (by with_reducible assumption)) (by with_reducible assumption) (by with_reducible assumption)
theorem intdivmod_c {x y : Int} {tx ty : Tok} (es : List (Addr × Obj))
  (B : Below A₀ base outer h₀) (F : Fr h₀ L s.heap m) (X : (Mine.hd.heap_39 w.params).In h₀) (T : Top p loose mean mg mb h₀) (hk : cs.kind = .function) (C1 : CodeHd base 34 30) (C2 : CodeHd base 41 37)
  (N : News h₀ L s.heap (es ++ (tl ++ news))) (hT : TBs tl) (hA : Apart tl (es ++ news))
  (hdp : dp + 70 < recursionLimit) (hun : un + 600 < cLine) (hx : 0 ≤ x) (hxb : x < 1048576) (hy : 0 < y) (hyb : y < 1048576)
  (hret : ∀ r tq tr tl' h' tk', TBs tl' → Apart tl' (es ++ news) → (∀ q ∈ tl', q.1 ≠ r) → (∀ q ∈ es, q.1 < r) → (∀ q ∈ news, q.1 < r) → Fr h₀ L h' m →
    News h₀ L h' ((r, { cls := .type "tuple", data := .seq #[.int (x / y) tq, .int (x % y) tr] }) :: (es ++ (tl' ++ news))) → Q (.ref r) { s with heap := h', toks := tk' }) :
  wpAny (model PySem.Challenge.rw_hi0005_01.row.prog w) (ktrTop dp un gd cn cs L a ccd cl outer) (call (.ref 56) [.int x tx, .int y ty]) Q E s := by
  refine intdivmod0 (news := es ++ news) B F X T hk C1 C2 (news_sub N ?_) hT hA hdp hun hx hxb hy hyb ?_
  · intro q hq; simp only [List.mem_append] at hq ⊢; rcases hq with h | h | h <;> simp [h]
  · intro r tq tr tl' h' tk' hT' hA' hr hl F' N'
    refine hret r tq tr tl' h' tk' hT' hA' hr (fun q hq => hl q (List.mem_append_left _ hq)) (fun q hq => hl q (List.mem_append_right _ hq)) F' (news_sub N' ?_)
    intro q hq; simp only [List.mem_cons, List.mem_append] at hq ⊢; rcases hq with h | h | h | h <;> simp [h]
end

end Mine
end
section
namespace Mine
local macro_rules | `(tactic| walk_at "exec While") => `(tactic| (refine Mine.hold ?_))
local macro_rules | `(tactic| walk_at "exec While Compare") => `(tactic| (refine Mine.hold ?_))
local macro_rules | `(tactic| walk_at "call ref") => `(tactic| (k_here; (with_reducible show wpAny _ _ (call (Value.ref 56) _) _ _ _); refine Mine.hold ?_))
local macro_rules | `(tactic| walk_at "call ref") => `(tactic| (k_here; (with_reducible show wpAny _ _ (call (Value.ref 56) [Value.int _ _, Value.int _ _]) _ _ _); k_dflt (refine' Mine.intdivmod_c [] ?B ?F ?X ?T ?hk ?C ?D ?N ?hT ?hA ?q1 ?q2 ?q3 ?q4 ?q5 ?q6 ?_; (case B => k_asm); (case F => k_asm); (case X => k_asm); (case T => k_asm); (case hk => first | exact rfl | assumption); (case C => kn_code); (case D => kn_code); (case N => k_asm); (case hT => with_reducible assumption); (case hA => ((try simp only [List.cons_append, List.nil_append]); walk_at "apart")); (case q1 => first | omega | ktr_room); (case q2 => first | omega | ktr_units); (case q3 => omega); (case q4 => omega); (case q5 => omega); (case q6 => omega)); intro r9 tq9 tr9 tl9 h9 tk9 hT9 hA9 hr9 l1 l2 F9 N9; (try simp only [List.cons_append, List.nil_append] at N9 hA9); (replace l2 := allLt_of l2); (try k_lt l1); (repeat (have hx9 := (List.forall_mem_cons.mp hA9).1; replace hA9 := (List.forall_mem_cons.mp hA9).2; dsimp only at hx9))))
def ShJ (x y : Int) (news : List (Addr × Obj)) (n : Nat) (m₁ : Str → Option Value) (news₁ : List (Addr × Obj)) : Prop :=
  ∃ (a b : Int) (t1 t2 : Tok) (tl : List (Addr × Obj)), news₁ = tl ++ news ∧ m₁ (PySem.Str.ofString "one") = some (.int a t1) ∧ m₁ (PySem.Str.ofString "other") = some (.int b t2) ∧
    0 ≤ a ∧ a < 1048576 ∧ 0 ≤ b ∧ b < 1048576 ∧ b.toNat ≤ n ∧ Int.gcd a b = Int.gcd x y ∧ TBs tl ∧ Apart tl news
theorem sh_loop {prog : Program} {w : World} {A : Around} {E : Value → Shared → Prop} {s : Shared} {env : Env} {h₀ : Heap} {test : Expr} {body : List Stmt} {pos : Pos} {Q : Flow → Shared → Prop} {m₀ : Str → Option Value} {x y : Int} {t1 t2 : Tok} {tl news : List (Addr × Obj)}
    (F : Fr h₀ env.locals s.heap m₀) (N : News h₀ env.locals s.heap (tl ++ news)) (hT : TBs tl) (hA : Apart tl news) (e1 : m₀ (PySem.Str.ofString "one") = some (.int x t1)) (e2 : m₀ (PySem.Str.ofString "other") = some (.int y t2)) (hx : 0 ≤ x) (hxb : x < 1048576) (hy : 0 ≤ y) (hyb : y < 1048576)
    (turn : ∀ (n : Nat) (a b : Int) t1 t2 tl (m₁ : Str → Option Value) h tk, 0 ≤ a → a < 1048576 → 0 ≤ b → b < 1048576 → b.toNat ≤ n → Int.gcd a b = Int.gcd x y → TBs tl → Apart tl news →
      Fr h₀ env.locals h (fun z => if z = PySem.Str.ofString "one" then some (.int a t1) else if z = PySem.Str.ofString "other" then some (.int b t2) else m₁ z) → News h₀ env.locals h (tl ++ news) →
      wpAny (model prog w) A (isTrue test env (eval test env)) (fun b s₂ =>
        if b = true then wpAny (model prog w) A (execs body env) (WhileStep2 h₀ env.locals s (ShJ x y news) Q n) E s₂ else Q .next s₂) E { s with heap := h, toks := tk })
    (hE : PassesOwn (model prog w) A env E) :
    wpAny (model prog w) A (exec (.While test body [] pos) env) Q E s := by
  refine While_inv2 (n₀ := y.toNat) (ShJ x y news) F N ⟨x, y, t1, t2, tl, rfl, e1, e2, hx, hxb, hy, hyb, Nat.le_refl _, rfl, hT, hA⟩ ?_ hE
  rintro n m₁ news₁ h₁ tk₁ F1 N1 ⟨a, b, u1, u2, tl', rfl, j1, j2, j3, j4, j5, j6, j7, j8, j9, j10⟩
  exact turn n a b u1 u2 tl' m₁ h₁ tk₁ j3 j4 j5 j6 j7 j8 j9 j10 (fr_know (fr_know F1 j2) j1) N1
theorem gcd_turn {a b : Int} (ha : 0 ≤ a) (hb : 0 ≤ b) : Int.gcd b (a % b) = Int.gcd a b := by
  obtain ⟨m, rfl⟩ := Int.eq_ofNat_of_zero_le ha
  obtain ⟨n, rfl⟩ := Int.eq_ofNat_of_zero_le hb
  show Nat.gcd n (m % n) = Nat.gcd m n
  rw [Nat.gcd_comm n, Nat.gcd_comm m, ← Nat.gcd_rec]
theorem sh_end {h₀ h : Heap} {L : Addr} {x y a b : Int} {led news tl : List (Addr × Obj)} {n : Nat} {m' : Str → Option Value} {s s' : Shared} {tk : Nat} {u1 u2 : Tok} {Q : Flow → Shared → Prop}
    (F : Fr h₀ L h m') (N : News h₀ L h led) (hs : ∀ q ∈ tl ++ news, q ∈ led) (es : s' = { s with heap := h, toks := tk }) (e1 : m' (PySem.Str.ofString "one") = some (.int b u1)) (e2 : m' (PySem.Str.ofString "other") = some (.int (a % b) u2))
    (c : 0 < b) (j3 : 0 ≤ a) (j4 : a < 1048576) (j6 : b < 1048576) (j7 : b.toNat ≤ n) (j8 : Int.gcd a b = Int.gcd x y) (hT : TBs tl) (hA : Apart tl news) :
    WhileStep2 h₀ L s (ShJ x y news) Q n .next s' := by
  have h1 := Int.emod_nonneg a (Int.ne_of_gt c)
  have h2 := Int.emod_lt_of_pos a c
  refine ⟨h, tk, m', _, (a % b).toNat, es, F, news_sub N hs, by omega, b, a % b, u1, u2, tl, rfl, e1, e2, by omega, j6, h1, by omega, Nat.le_refl _, by rw [gcd_turn j3 (by omega), j8], hT, hA⟩
theorem sh_stop {a b x y : Int} (c : ¬ 0 < b) (j3 : 0 ≤ a) (j5 : 0 ≤ b) (j8 : Int.gcd a b = Int.gcd x y) : a = (Int.gcd x y : Int) := by
  have e : b = 0 := by omega
  subst e
  rw [← j8, Int.gcd_zero_right]
  exact (Int.natAbs_of_nonneg j3).symm
section
variable {p : Program} {loose : List Str} {mean : ExcName → Option Value} {mg mb : Str → Option Value} {w : World}
  {dp un : Nat} {gd : Option (List Code)} {cn : Str} {cs : Scope} {a : Addr} {ccd : Value} {cl : List (Str × Addr)} {outer : List Env} {A₀ : Around} {base h₀ : Heap} {L : Addr} {m : Str → Option Value} {s : Shared} {Q E : Value → Shared → Prop} {news tl : List (Addr × Obj)}
set_option linter.unusedVariables false
theorem shared_c {x y : Int} {tx ty : Tok}
  (B : Below A₀ base outer h₀) (F : Fr h₀ L s.heap m) (X : (Mine.hd.heap_39 w.params).In h₀) (T : Top p loose mean mg mb h₀) (hk : cs.kind = .function) (C1 : CodeHd base 34 30) (C2 : CodeHd base 41 37)
  (N : News h₀ L s.heap (tl ++ news)) (hT : TBs tl) (hA : Apart tl news)
  (hdp : dp + 80 < recursionLimit) (hun : un + 700 < cLine) (hx : 0 ≤ x) (hxb : x < 1048576) (hy : 0 ≤ y) (hyb : y < 1048576)
  (hret : ∀ t tl' h' tk', TBs tl' → Apart tl' news → Fr h₀ L h' m → News h₀ L h' (tl' ++ news) → Q (.int (Int.gcd x y) t) { s with heap := h', toks := tk' }) :
  wpAny (model PySem.Challenge.rw_hi0005_01.row.prog w) (ktrTop dp un gd cn cs L a ccd cl outer) (call (.ref 81) [.int x tx, .int y ty]) Q E s := by
  revert X; k_fill; intro X
  k_steps
  refine unhold ?_
  (rename News _ _ _ _ => N9; rename Fr _ _ _ _ => F9)
  refine sh_loop F9 N9 hT hA rfl rfl hx hxb hy hyb ?turn (by passes_own)
  case turn =>
    clear N9 F9
    intro n a b u1 u2 tl' m₁ h tk j3 j4 j5 j6 j7 j8 j9 j10 F N
    k_steps
    · exfalso
      have := Int.emod_lt_of_pos a (by with_reducible assumption : 0 < b)
      omega
    · (rename News _ _ _ _ => N9; rename Fr _ _ _ _ => F9)
      exact sh_end F9 N9 (by walk_at "sub") rfl rfl rfl (by with_reducible assumption) j3 j4 j6 j7 j8 (by with_reducible assumption) (by with_reducible assumption)
    · (rename News _ _ _ _ => N9; rename Fr _ _ _ _ => F9)
      rw [sh_stop (by with_reducible assumption) j3 j5 j8]
      exact hret _ _ _ _ j9 j10 (by with_reducible assumption) N9
theorem shared_e {x y : Int} {tx ty : Tok} (es : List (Addr × Obj))
  (B : Below A₀ base outer h₀) (F : Fr h₀ L s.heap m) (X : (Mine.hd.heap_39 w.params).In h₀) (T : Top p loose mean mg mb h₀) (hk : cs.kind = .function) (C1 : CodeHd base 34 30) (C2 : CodeHd base 41 37)
  (N : News h₀ L s.heap (es ++ (tl ++ news))) (hT : TBs tl) (hA : Apart tl (es ++ news))
  (hdp : dp + 80 < recursionLimit) (hun : un + 700 < cLine) (hx : 0 ≤ x) (hxb : x < 1048576) (hy : 0 ≤ y) (hyb : y < 1048576)
  (hret : ∀ t tl' h' tk', TBs tl' → Apart tl' (es ++ news) → Fr h₀ L h' m → News h₀ L h' (es ++ (tl' ++ news)) → Q (.int (Int.gcd x y) t) { s with heap := h', toks := tk' }) :
  wpAny (model PySem.Challenge.rw_hi0005_01.row.prog w) (ktrTop dp un gd cn cs L a ccd cl outer) (call (.ref 81) [.int x tx, .int y ty]) Q E s := by
  refine shared_c (news := es ++ news) B F X T hk C1 C2 (news_sub N ?_) hT hA hdp hun hx hxb hy hyb ?_
  · intro q hq; simp only [List.mem_append] at hq ⊢; rcases hq with h | h | h <;> simp [h]
  · intro t tl' h' tk' hT' hA' F' N'
    refine hret t tl' h' tk' hT' hA' F' (news_sub N' ?_)
    intro q hq; simp only [List.mem_append] at hq ⊢; rcases hq with h | h | h <;> simp [h]
end

end Mine
end
section
namespace Mine
abbrev Tri := Int × Int × Int
def triO (d : Tri) (t u v : Tok) (n : Nat) : Obj := { cls := .type "tuple", data := .seq #[.int d.1 t, .int d.2.1 u, .int d.2.2 v] n }
def ltT (d e : Tri) : Bool := if d.1 == e.1 then (if d.2.1 == e.2.1 then decide (d.2.2 < e.2.2) else decide (d.2.1 < e.2.1)) else decide (d.1 < e.1)
section
variable {prog : Program} {w : World} {A : Around} {E : Value → Shared → Prop} {s : Shared}
theorem lt_tri {x y : Addr} {d e : Tri} {t u v t' u' v' : Tok} {n n' : Nat} {Q : Value → Shared → Prop} (hx : s.heap.get? x = some (triO d t u v n)) (hy : s.heap.get? y = some (triO e t' u' v' n')) (hu : A.units < cLine)
    (h : Q (.bool (ltT d e)) s) : wpAny (model prog w) A (compareOp .Lt (.ref x) (.ref y)) Q E s := by
  have hTa : s.TypeIs (.ref x) "tuple" := ⟨_, hx, rfl⟩
  have hTb : s.TypeIs (.ref y) "tuple" := ⟨_, hy, rfl⟩
  refine cmp_ofLt (wpAny_richCompare_same_room hTa hTb F.slot_tuple_lt (wpAny_call_entry F.slot_tuple_lt hTa F.entry_tuple_lt ?_ (F.args_tuple_lt_2 _ _)) hu)
  show wpAny _ _ (isInstance (.ref y) (.type "tuple") >>= _) _ _ s
  refine wpAny_bind (wpAny_isInstance hTb AutoSeq1.sub_tuple_tuple ?_)
  simp only [Bool.not_true, Bool.false_eq_true, if_false]
  refine wpAny_bind (wpAny_tupleItemsOf hx rfl ?_)
  refine wpAny_bind (wpAny_tupleItemsOf hy rfl ?_)
  refine wpAny_bind ?_
  simp only [List.zip_cons_cons, List.zip_nil_left, List.forIn_cons, List.forIn_nil]
  unfold ltT at h
  refine wpAny_bind (wpAny_bind (wpAny_eqBool_int ?_))
  cases h1 : d.1 == e.1 with
  | false =>
    rw [h1] at h
    exact wpAny_bind (wpAny_rule (wpAny_bind (show wpAny _ _ (compareOp .Lt _ _) _ _ _ from lt_int (wpAny_bind (wpAny_pure (wpAny_pure (wpAny_pure (wpAny_pure ⟨_, rfl, (fun q => nomatch q), h⟩))))))))
  | true =>
    rw [h1] at h
    refine wpAny_pure ?_
    refine wpAny_bind (wpAny_bind (wpAny_eqBool_int ?_))
    cases h2 : d.2.1 == e.2.1 with
    | false =>
      rw [h2] at h
      exact wpAny_bind (wpAny_rule (wpAny_bind (show wpAny _ _ (compareOp .Lt _ _) _ _ _ from lt_int (wpAny_bind (wpAny_pure (wpAny_pure (wpAny_pure (wpAny_pure ⟨_, rfl, (fun q => nomatch q), h⟩))))))))
    | true =>
      rw [h2] at h
      refine wpAny_pure ?_
      refine wpAny_bind (wpAny_bind (wpAny_eqBool_int ?_))
      cases h3 : d.2.2 == e.2.2 with
      | false => exact wpAny_bind (wpAny_rule (wpAny_bind (show wpAny _ _ (compareOp .Lt _ _) _ _ _ from lt_int (wpAny_bind (wpAny_pure (wpAny_pure (wpAny_pure (wpAny_pure ⟨_, rfl, (fun q => nomatch q), h⟩))))))))
      | true =>
        have e3 : decide (d.2.2 < e.2.2) = false := by rw [decide_eq_false_iff_not, eq_of_beq h3]; exact Int.lt_irrefl _
        rw [e3] at h
        exact wpAny_pure (wpAny_pure (wpAny_pure ⟨_, rfl, (fun q => nomatch q), h⟩))
end

def triD (d : Tri) : Dat := .tuple [.int d.1, .int d.2.1, .int d.2.2]
theorem tri_in {led : List (Addr × Obj)} {v : Value} {d : Tri} (h : DatIn led v (triD d)) : ∃ a t u z n, v = .ref a ∧ (a, triO d t u z n) ∈ led := by
  cases h with
  | tuple hm hr =>
    cases hr with
    | cons h1 hr =>
      cases h1
      cases hr with
      | cons h2 hr =>
        cases h2
        cases hr with
        | cons h3 hr =>
          cases h3
          cases hr
          exact ⟨_, _, _, _, _, rfl, hm⟩
theorem tri_mk {led : List (Addr × Obj)} {a : Addr} {d : Tri} {t u z : Tok} {n : Nat} (h : (a, triO d t u z n) ∈ led) : DatIn led (.ref a) (triD d) :=
  .tuple (vs := [.int d.1 t, .int d.2.1 u, .int d.2.2 z]) h (.cons (.int _ _) (.cons (.int _ _) (.cons (.int _ _) .nil)))
theorem tri_get {led : List (Addr × Obj)} {vs : List Value} {ds : List Tri} (h : DatAll led vs (ds.map triD)) {k : Nat} (hk : k < ds.length) : ∃ a t u z n, vs[k]? = some (.ref a) ∧ (a, triO (ds.getD k default) t u z n) ∈ led := by
  obtain ⟨v, e, hv⟩ := h.get (k := k) (by rw [List.length_map]; exact hk)
  rw [List.getElem_map] at hv
  obtain ⟨a, t, u, z, n, rfl, hm⟩ := tri_in hv
  refine ⟨a, t, u, z, n, e, ?_⟩
  rw [List.getD_eq_getElem?_getD, List.getElem?_eq_getElem hk]
  exact hm
theorem dat_take {led : List (Addr × Obj)} : ∀ {vs : List Value} {ds : List Dat} (n : Nat), DatAll led vs ds → DatAll led (vs.take n) (ds.take n)
  | _, _, 0, _ => .nil
  | _, _, _ + 1, .nil => .nil
  | _, _, n + 1, .cons h r => .cons h (dat_take n r)
theorem dat_drop {led : List (Addr × Obj)} : ∀ {vs : List Value} {ds : List Dat} (n : Nat), DatAll led vs ds → DatAll led (vs.drop n) (ds.drop n)
  | _, _, 0, h => h
  | _, _, _ + 1, .nil => .nil
  | _, _, n + 1, .cons _ r => dat_drop n r
theorem dat_ins {ts : List (Addr × Obj)} {vs : List Value} {ds : List Tri} (hd : DatAll ts vs (ds.map triD)) (n : Nat) (x : Tri) {t : Addr} {x1 x2 x3 : Tok} {xn : Nat} :
    DatAll ((t, triO x x1 x2 x3 xn) :: ts) (vs.take n ++ .ref t :: vs.drop n) ((ds.take n ++ x :: ds.drop n).map triD) := by
  have hm := DatAll.mono (news' := (t, triO x x1 x2 x3 xn) :: ts) (fun p hp => List.mem_cons_of_mem _ hp) hd
  rw [List.map_append, List.map_cons, List.map_take, List.map_drop]
  exact (dat_take n hm).append (.cons (tri_mk (.head _)) (dat_drop n hm))
section
variable {prog : Program} {w : World} {A : Around} {E : Value → Shared → Prop} {s : Shared} {h₀ : Heap} {L : Addr}
theorem tri_item {value slice : PySem.Expr} {led L9 : List (Addr × Obj)} {l : Addr} {vs : List Value} {ds : List Tri} {n : Nat} {k : Int} {u : Tok} {Q : Value → Shared → Prop} (N : News h₀ L s.heap led) (hm : (l, listOf vs.toArray n) ∈ led) (hd : DatAll L9 vs (ds.map triD))
    (h0 : 0 ≤ k) (hk : k < ds.length) (hl : ds.length ≤ 100) (h : ∀ a t u z n', (a, triO (ds.getD k.toNat default) t u z n') ∈ L9 → Q (.ref a) s)
    (hs : subscripted slice false (.ref l) (.int k u) = operate [.ref l, .int k u] (getItem (.ref l) (.int k u)) := by with_unfolding_all rfl) :
    wpAny (model prog w) A (subscriptTail value slice (.ref l) (.int k u)) Q E s := by
  obtain ⟨a, t, u', z, n', e, hm'⟩ := tri_get hd (k := k.toNat) (by omega)
  have hL : s.heap.IsList l vs.toArray := News.isList N hm
  refine tail_any hL.typeIs slot_list_getitem.lookup (wpAny_getItem_list hL h0 (by omega) (by simpa using e) (h _ _ _ _ _ hm')) hs
theorem tri_len {led L9 : List (Addr × Obj)} {l : Addr} {vs : List Value} {ds : List Tri} {n : Nat} {Q : Value → Shared → Prop} (N : News h₀ L s.heap led) (hm : (l, listOf vs.toArray n) ∈ led) (hd : DatAll L9 vs (ds.map triD)) (hl : ds.length ≤ 100)
    (h : ∀ t k, Q (.int (ds.length : Int) t) { s with toks := k }) : wpAny (model prog w) A (call (.builtin "len") [.ref l]) Q E s := by
  refine kd_len N hm hd (by rw [List.length_map]; omega) ?_
  rw [List.length_map]
  exact h _ _
end

end Mine
end
section
namespace Mine
local macro_rules | `(tactic| walk_at "exec While") => `(tactic| (refine Mine.hold ?_))
local macro_rules | `(tactic| walk_at "exec While Compare") => `(tactic| (refine Mine.hold ?_))
local macro_rules | `(tactic| walk_at "subscriptTail") => `(tactic| (refine Mine.hold ?_))
local macro_rules | `(tactic| walk_at "compareOp Lt ref ref") => `(tactic| (refine Mine.hold ?_))
local macro_rules | `(tactic| walk_at "call builtin:len") => `(tactic| (k_here; (with_reducible show wpAny _ _ (call (Value.builtin "len") [Value.ref _]) _ _ _); k_dflt (refine' Mine.tri_len ?N ?m ?d ?l ?_; (case N => k_asm); (case m => walk_at "mem"); (case d => with_reducible assumption); (case l => with_reducible assumption)); intro t9 tk9))
def bisG (f : Nat → Bool) : Nat → Nat → Nat → Nat
  | 0, lo, _ => lo
  | n + 1, lo, hi => if lo < hi then (if f ((lo + hi) / 2) = true then bisG f n ((lo + hi) / 2 + 1) hi else bisG f n lo ((lo + hi) / 2)) else lo
theorem bisG_le (f : Nat → Bool) : ∀ n lo hi, lo ≤ hi → bisG f n lo hi ≤ hi
  | 0, lo, hi, h => h
  | n + 1, lo, hi, h => by
    unfold bisG
    split
    · split
      · exact bisG_le f n _ _ (by omega)
      · exact Nat.le_trans (bisG_le f n _ _ (by omega)) (by omega)
    · exact h
def bisT (ds : List Tri) (x : Tri) : Nat := bisG (fun i => ltT (ds.getD i default) x) ds.length 0 ds.length
theorem bisT_le (ds : List Tri) (x : Tri) : bisT ds x ≤ ds.length := bisG_le _ _ _ _ (Nat.zero_le _)
def BisJ (l t : Addr) (ds : List Tri) (f : Nat → Bool) (led : List (Addr × Obj)) (n : Nat) (m₁ : Str → Option Value) (news₁ : List (Addr × Obj)) : Prop :=
  ∃ (lo hi : Nat) (t1 t2 : Tok), news₁ = led ∧ m₁ (PySem.Str.ofString "lo") = some (.int lo t1) ∧ m₁ (PySem.Str.ofString "hi") = some (.int hi t2) ∧ m₁ (PySem.Str.ofString "a") = some (.ref l) ∧ m₁ (PySem.Str.ofString "x") = some (.ref t) ∧
    lo ≤ hi ∧ hi ≤ ds.length ∧ hi - lo ≤ n ∧ bisG f n lo hi = bisG f ds.length 0 ds.length
theorem bis_loop {prog : Program} {w : World} {A : Around} {E : Value → Shared → Prop} {s : Shared} {env : Env} {h₀ : Heap} {test : Expr} {body : List Stmt} {pos : Pos} {Q : Flow → Shared → Prop} {l t : Addr} {m₀ : Str → Option Value} (ds : List Tri) (f : Nat → Bool) {t1 t2 : Tok} {led : List (Addr × Obj)} {zlo zhi : Int}
    (F : Fr h₀ env.locals s.heap m₀) (N : News h₀ env.locals s.heap led) (e1 : m₀ (PySem.Str.ofString "lo") = some (.int zlo t1)) (e2 : m₀ (PySem.Str.ofString "hi") = some (.int zhi t2)) (e3 : m₀ (PySem.Str.ofString "a") = some (.ref l)) (e4 : m₀ (PySem.Str.ofString "x") = some (.ref t)) (e5 : zlo = 0) (e6 : zhi = ds.length)
    (turn : ∀ (n lo hi : Nat) t1 t2 (m₁ : Str → Option Value) h tk, lo ≤ hi → hi ≤ ds.length → hi - lo ≤ n → bisG f n lo hi = bisG f ds.length 0 ds.length →
      Fr h₀ env.locals h (fun y => if y = PySem.Str.ofString "lo" then some (.int lo t1) else if y = PySem.Str.ofString "hi" then some (.int hi t2) else if y = PySem.Str.ofString "a" then some (.ref l) else if y = PySem.Str.ofString "x" then some (.ref t) else m₁ y) → News h₀ env.locals h led →
      wpAny (model prog w) A (isTrue test env (eval test env)) (fun b s₂ =>
        if b = true then wpAny (model prog w) A (execs body env) (WhileStep2 h₀ env.locals s (BisJ l t ds f led) Q n) E s₂ else Q .next s₂) E { s with heap := h, toks := tk })
    (hE : PassesOwn (model prog w) A env E) :
    wpAny (model prog w) A (exec (.While test body [] pos) env) Q E s := by
  subst e5; subst e6
  refine While_inv2 (n₀ := ds.length) (BisJ l t ds f led) F N ⟨0, ds.length, t1, t2, rfl, e1, e2, e3, e4, Nat.zero_le _, Nat.le_refl _, by omega, rfl⟩ ?_ hE
  rintro n m₁ news₁ h₁ tk₁ F1 N1 ⟨lo, hi, u1, u2, rfl, j1, j2, j3, j4, j5, j6, j7, j8⟩
  exact turn n lo hi u1 u2 m₁ h₁ tk₁ j5 j6 j7 j8 (fr_know (fr_know (fr_know (fr_know F1 j4) j3) j2) j1) N1
theorem fdiv2 (lo hi : Nat) : ((lo : Int) + hi).fdiv 2 = (((lo + hi) / 2 : Nat) : Int) := by
  rw [Int.fdiv_eq_ediv_of_nonneg _ (by decide)]; omega
theorem bis_end1 {h₀ h : Heap} {L l t : Addr} {ds : List Tri} {f : Nat → Bool} {led led' : List (Addr × Obj)} {n lo hi : Nat} {m' : Str → Option Value} {s s' : Shared} {tk : Nat} {u1 u2 : Tok} {Q : Flow → Shared → Prop}
    (F : Fr h₀ L h m') (N : News h₀ L h led') (hs : ∀ q ∈ led, q ∈ led') (es : s' = { s with heap := h, toks := tk }) (e1 : m' (PySem.Str.ofString "lo") = some (.int (((lo : Int) + hi).fdiv 2 + 1) u1)) (e2 : m' (PySem.Str.ofString "hi") = some (.int hi u2)) (e3 : m' (PySem.Str.ofString "a") = some (.ref l)) (e4 : m' (PySem.Str.ofString "x") = some (.ref t))
    (c : (lo : Int) < hi) (d : f (((lo : Int) + hi).fdiv 2).toNat = true) (j6 : hi ≤ ds.length) (j7 : hi - lo ≤ n) (j8 : bisG f n lo hi = bisG f ds.length 0 ds.length) :
    WhileStep2 h₀ L s (BisJ l t ds f led) Q n .next s' := by
  rw [fdiv2] at d e1
  rw [Int.toNat_natCast] at d
  cases n with
  | zero => omega
  | succ n =>
    refine ⟨h, tk, m', led, n, es, F, news_sub N hs, Nat.lt_succ_self _, (lo + hi) / 2 + 1, hi, u1, u2, rfl, e1, e2, e3, e4, by omega, by omega, by omega, ?_⟩
    rw [← j8]
    conv => rhs; unfold bisG
    rw [if_pos (by omega), if_pos d]
theorem bis_end2 {h₀ h : Heap} {L l t : Addr} {ds : List Tri} {f : Nat → Bool} {led led' : List (Addr × Obj)} {n lo hi : Nat} {m' : Str → Option Value} {s s' : Shared} {tk : Nat} {u1 u2 : Tok} {Q : Flow → Shared → Prop}
    (F : Fr h₀ L h m') (N : News h₀ L h led') (hs : ∀ q ∈ led, q ∈ led') (es : s' = { s with heap := h, toks := tk }) (e1 : m' (PySem.Str.ofString "lo") = some (.int lo u1)) (e2 : m' (PySem.Str.ofString "hi") = some (.int (((lo : Int) + hi).fdiv 2) u2)) (e3 : m' (PySem.Str.ofString "a") = some (.ref l)) (e4 : m' (PySem.Str.ofString "x") = some (.ref t))
    (c : (lo : Int) < hi) (d : f (((lo : Int) + hi).fdiv 2).toNat = false) (j6 : hi ≤ ds.length) (j7 : hi - lo ≤ n) (j8 : bisG f n lo hi = bisG f ds.length 0 ds.length) :
    WhileStep2 h₀ L s (BisJ l t ds f led) Q n .next s' := by
  rw [fdiv2] at d e2
  rw [Int.toNat_natCast] at d
  cases n with
  | zero => omega
  | succ n =>
    refine ⟨h, tk, m', led, n, es, F, news_sub N hs, Nat.lt_succ_self _, lo, (lo + hi) / 2, u1, u2, rfl, e1, e2, e3, e4, by omega, by omega, by omega, ?_⟩
    rw [← j8]
    conv => rhs; unfold bisG
    rw [if_pos (by omega), if_neg (by rw [d]; exact Bool.false_ne_true)]
theorem bis_stop {ds : List Tri} {f : Nat → Bool} {n lo hi : Nat} (j5 : lo ≤ hi) (c : ¬ (lo : Int) < hi) (j8 : bisG f n lo hi = bisG f ds.length 0 ds.length) : ((bisG f ds.length 0 ds.length : Nat) : Int) = (lo : Int) := by
  rw [← j8]
  cases n with
  | zero => rfl
  | succ n => unfold bisG; rw [if_neg (by omega)]
section
variable {p : Program} {loose : List Str} {mean : ExcName → Option Value} {mg mb : Str → Option Value} {w : World}
  {dp un : Nat} {gd : Option (List Code)} {cn : Str} {cs : Scope} {a : Addr} {ccd : Value} {cl : List (Str × Addr)} {outer : List Env} {A₀ : Around} {base h₀ : Heap} {L : Addr} {m : Str → Option Value} {s : Shared} {Q E : Value → Shared → Prop} {news tl : List (Addr × Obj)}
set_option linter.unusedVariables false
theorem news_more {h : Heap} {L : Addr} {q a b : Addr × Obj} {l : List (Addr × Obj)} (hq : q ∈ l) (N : News h₀ L h (a :: b :: l)) : News h₀ L h (q :: a :: b :: l) :=
  news_sub N (by intro p hp; rcases List.mem_cons.mp hp with e | e; exact e ▸ .tail _ (.tail _ hq); exact e)
theorem bisect2_t {l t : Addr} {vs : List Value} {k : Nat} {ds : List Tri} {x : Tri} {x1 x2 x3 : Tok} {xn : Nat} {L9 : List (Addr × Obj)}
  (B : Below A₀ base outer h₀) (F : Fr h₀ L s.heap m) (X : (Mine.hd.heap_39 w.params).In h₀) (T : Top p loose mean mg mb h₀) (hk : cs.kind = .function)
  (N : News h₀ L s.heap news) (hl9 : (l, W.listOf vs.toArray k) ∈ news) (ht9 : (t, triO x x1 x2 x3 xn) ∈ news) (hd9 : DatAll L9 vs (ds.map triD)) (hs9 : ∀ q ∈ L9, q ∈ news) (hlen : ds.length ≤ 100)
  (hdp : dp + 5 < recursionLimit) (hun : un + 40 < cLine)
  (hret : ∀ t h' tk', Fr h₀ L h' m → News h₀ L h' news → Q (.int (bisT ds x : Nat) t) { s with heap := h', toks := tk' }) :
  wpAny (model PySem.Challenge.rw_hi0005_01.row.prog w) (ktrTop dp un gd cn cs L a ccd cl outer) (call (.ref 74) [.ref l, .ref t]) Q E s := by
  have N2 : News h₀ L s.heap ((l, W.listOf vs.toArray k) :: (t, triO x x1 x2 x3 xn) :: news) := news_sub N (by intro q hq; rcases List.mem_cons.mp hq with h | h; exact h ▸ hl9; rcases List.mem_cons.mp h with h | h; exact h ▸ ht9; exact h)
  have hlv : vs.length = ds.length := by rw [hd9.length, List.length_map]
  clear N
  revert X; k_fill; intro X
  k_steps
  refine unhold ?_
  (rename News _ _ _ _ => N9; rename Fr _ _ _ _ => F9)
  refine bis_loop ds (fun i => ltT (ds.getD i default) x) F9 N9 rfl rfl rfl rfl rfl rfl ?turn (by passes_own)
  case turn =>
    clear N9 F9
    intro n lo hi u1 u2 m₁ h tk j1 j2 j3 j4 F N
    k_steps
    · refine unhold ?_
      (rename News _ _ _ _ => N9; rename Fr _ _ _ _ => F9)
      refine tri_item N9 (by walk_at "mem") hd9 (by rw [fdiv2]; omega) (by rw [fdiv2]; omega) hlen ?_
      intro a9 t9 u9 v9 n9 hm9
      have N8 := news_more (hs9 _ hm9) N9
      clear N9
      k_steps
      refine unhold ?_
      refine lt_tri (N8 _ (.head _)).1 (N8 _ (.tail _ (.tail _ (.head _)))).1 (by first | ktr_units | omega) ?_
      k_steps
      · (rename News _ _ _ _ => N9; rename Fr _ _ _ _ => F9)
        exact bis_end1 F9 N9 (by walk_at "sub") rfl rfl rfl rfl rfl (by with_reducible assumption) (by assumption) j2 j3 j4
      · (rename News _ _ _ _ => N9; rename Fr _ _ _ _ => F9)
        exact bis_end2 F9 N9 (by walk_at "sub") rfl rfl rfl rfl rfl (by with_reducible assumption) (by assumption) j2 j3 j4
    · (rename News _ _ _ _ => N9; rename Fr _ _ _ _ => F9)
      have e9 := bis_stop j1 (by with_reducible assumption) j4
      unfold bisT at hret
      rw [e9] at hret
      exact hret _ _ _ (by with_reducible assumption) (news_sub N9 (by walk_at "sub"))
theorem bisect4_t {l t : Addr} {vs : List Value} {k : Nat} {ds : List Tri} {x : Tri} {x1 x2 x3 : Tok} {xn : Nat} {t0 : Tok} {L9 : List (Addr × Obj)}
  (B : Below A₀ base outer h₀) (F : Fr h₀ L s.heap m) (X : (Mine.hd.heap_39 w.params).In h₀) (T : Top p loose mean mg mb h₀) (hk : cs.kind = .function)
  (N : News h₀ L s.heap news) (hl9 : (l, W.listOf vs.toArray k) ∈ news) (ht9 : (t, triO x x1 x2 x3 xn) ∈ news) (hd9 : DatAll L9 vs (ds.map triD)) (hs9 : ∀ q ∈ L9, q ∈ news) (hlen : ds.length ≤ 100)
  (hdp : dp + 5 < recursionLimit) (hun : un + 40 < cLine)
  (hret : ∀ t h' tk', Fr h₀ L h' m → News h₀ L h' news → Q (.int (bisT ds x : Nat) t) { s with heap := h', toks := tk' }) :
  wpAny (model PySem.Challenge.rw_hi0005_01.row.prog w) (ktrTop dp un gd cn cs L a ccd cl outer) (call (.ref 74) [.ref l, .ref t, .int 0 t0, .none]) Q E s := by
  have N2 : News h₀ L s.heap ((l, W.listOf vs.toArray k) :: (t, triO x x1 x2 x3 xn) :: news) := news_sub N (by intro q hq; rcases List.mem_cons.mp hq with h | h; exact h ▸ hl9; rcases List.mem_cons.mp h with h | h; exact h ▸ ht9; exact h)
  have hlv : vs.length = ds.length := by rw [hd9.length, List.length_map]
  clear N
  revert X; k_fill; intro X
  k_steps
  refine unhold ?_
  (rename News _ _ _ _ => N9; rename Fr _ _ _ _ => F9)
  refine bis_loop ds (fun i => ltT (ds.getD i default) x) F9 N9 rfl rfl rfl rfl rfl rfl ?turn (by passes_own)
  case turn =>
    clear N9 F9
    intro n lo hi u1 u2 m₁ h tk j1 j2 j3 j4 F N
    k_steps
    · refine unhold ?_
      (rename News _ _ _ _ => N9; rename Fr _ _ _ _ => F9)
      refine tri_item N9 (by walk_at "mem") hd9 (by rw [fdiv2]; omega) (by rw [fdiv2]; omega) hlen ?_
      intro a9 t9 u9 v9 n9 hm9
      have N8 := news_more (hs9 _ hm9) N9
      clear N9
      k_steps
      refine unhold ?_
      refine lt_tri (N8 _ (.head _)).1 (N8 _ (.tail _ (.tail _ (.head _)))).1 (by first | ktr_units | omega) ?_
      k_steps
      · (rename News _ _ _ _ => N9; rename Fr _ _ _ _ => F9)
        exact bis_end1 F9 N9 (by walk_at "sub") rfl rfl rfl rfl rfl (by with_reducible assumption) (by assumption) j2 j3 j4
      · (rename News _ _ _ _ => N9; rename Fr _ _ _ _ => F9)
        exact bis_end2 F9 N9 (by walk_at "sub") rfl rfl rfl rfl rfl (by with_reducible assumption) (by assumption) j2 j3 j4
    · (rename News _ _ _ _ => N9; rename Fr _ _ _ _ => F9)
      have e9 := bis_stop j1 (by with_reducible assumption) j4
      unfold bisT at hret
      rw [e9] at hret
      exact hret _ _ _ (by with_reducible assumption) (news_sub N9 (by walk_at "sub"))
end

end Mine
end
section
namespace Mine
local macro_rules | `(tactic| walk_at "call ref") => `(tactic| (k_here; (with_reducible show wpAny _ _ (call (Value.ref 74) [Value.ref _, Value.ref _, Value.int _ _, Value.none]) _ _ _); refine Mine.hold ?_))
local macro_rules | `(tactic| walk_at "call builtin:list.insert") => `(tactic| (refine Mine.hold ?_))
section
variable {p : Program} {loose : List Str} {mean : ExcName → Option Value} {mg mb : Str → Option Value} {w : World}
  {dp un : Nat} {gd : Option (List Code)} {cn : Str} {cs : Scope} {a : Addr} {ccd : Value} {cl : List (Str × Addr)} {outer : List Env} {A₀ : Around} {base h₀ : Heap} {L : Addr} {m : Str → Option Value} {s : Shared} {Q E : Value → Shared → Prop} {news tl : List (Addr × Obj)}
set_option linter.unusedVariables false
theorem insort_t {l t : Addr} {vs : List Value} {k : Nat} {ds : List Tri} {x : Tri} {x1 x2 x3 : Tok} {xn : Nat} {L9 news' : List (Addr × Obj)}
  (B : Below A₀ base outer h₀) (F : Fr h₀ L s.heap m) (X : (Mine.hd.heap_39 w.params).In h₀) (T : Top p loose mean mg mb h₀) (hk : cs.kind = .function)
  (N : News h₀ L s.heap news) (hl9 : (l, W.listOf vs.toArray k) ∈ news) (ht9 : (t, triO x x1 x2 x3 xn) ∈ news) (hd9 : DatAll L9 vs (ds.map triD)) (hs9 : ∀ q ∈ L9, q ∈ news) (hlen : ds.length ≤ 100)
  (U9 : Upd l (W.listOf vs.toArray k) (W.listOf (vs.take (bisT ds x) ++ Value.ref t :: vs.drop (bisT ds x)).toArray (k + 1)) news news')
  (hdp : dp + 10 < recursionLimit) (hun : un + 80 < cLine)
  (hret : ∀ h' tk', Fr h₀ L h' m → News h₀ L h' news' → Q .none { s with heap := h', toks := tk' }) :
  wpAny (model PySem.Challenge.rw_hi0005_01.row.prog w) (ktrTop dp un gd cn cs L a ccd cl outer) (call (.ref 65) [.ref l, .ref t]) Q E s := by
  have hlv : vs.length = ds.length := by rw [hd9.length, List.length_map]
  have hb9 := bisT_le ds x
  revert X; k_fill; intro X
  k_steps
  refine unhold ?_
  k_dflt (refine' bisect4_t ?B ?F ?X ?T ?hk ?N hl9 ht9 hd9 hs9 hlen ?q2 ?q3 ?_)
  case B => k_asm
  case F => k_asm
  case X => k_asm
  case T => k_asm
  case hk => first | exact rfl | assumption
  case N => k_asm
  case q2 => first | omega | ktr_room
  case q3 => first | omega | ktr_units
  intro t9 h9 tk9 F9 N9
  k_steps
  refine unhold ?_
  k_dflt (refine' insert1 ?k1 ?k2 ?k4 ?k5 U9 ?b ?_)
  case k1 => k_asm
  case k2 => k_asm
  case k4 => omega
  case k5 => omega
  case b => omega
  intro h' F' N'
  k_steps
  exact hret _ _ (by with_reducible assumption) (by with_reducible assumption)
end

end Mine
end
section
namespace Mine
def insT (ds : List Tri) (x : Tri) : List Tri := ds.take (bisT ds x) ++ x :: ds.drop (bisT ds x)
def stepT (low : Int) (ds : List Tri) (top : Nat) : List Tri := if (Int.gcd top low : Int) = 1 then insT ds (top * 2520 / low, top, low) else ds
def rowT (low : Int) (ds : List Tri) : Nat → List Tri
  | 0 => ds
  | n + 1 => stepT low (rowT low ds n) n
def partsT : Nat → List Tri
  | 0 => []
  | n + 1 => rowT (1 + (n : Int)) (partsT n) (n + 2)
theorem insT_len (ds : List Tri) (x : Tri) : (insT ds x).length = ds.length + 1 := by
  have := bisT_le ds x
  unfold insT
  rw [List.length_append, List.length_cons, List.length_take, List.length_drop]
  omega
theorem stepT_len (low : Int) (ds : List Tri) (top : Nat) : (stepT low ds top).length ≤ ds.length + 1 := by
  unfold stepT
  split
  · rw [insT_len]; omega
  · omega
theorem rowT_len (low : Int) (ds : List Tri) : ∀ n, (rowT low ds n).length ≤ ds.length + n
  | 0 => Nat.le_refl _
  | n + 1 => Nat.le_trans (stepT_len ..) (by have := rowT_len low ds n; omega)
theorem partsT_len : ∀ n, n ≤ 7 → (partsT n).length ≤ 9 * n
  | 0, _ => Nat.le_refl _
  | n + 1, h => Nat.le_trans (rowT_len ..) (by have := partsT_len n (by omega); omega)
theorem rng_loop {prog : Program} {w : World} {A : Around} {E : Value → Shared → Prop} {s : Shared} {env : Env} {h₀ : Heap} {x : Str} {body : List Stmt} {Q : Flow → Shared → Prop} {r : Addr} {m₀ : Str → Option Value} {a₀ b₀ : Int} {t₀ u₀ v₀ : Tok} {news : List (Addr × Obj)} (n : Nat) (J : Nat → (Str → Option Value) → List (Addr × Obj) → Prop)
    (hh : A.handled = none) (hr : IsRange s.heap r a₀ b₀ 1 t₀ u₀ v₀) (hb : b₀ = a₀ + n) (ha : 0 ≤ a₀ ∧ a₀ ≤ 100 ∧ n ≤ 100) (F : Fr h₀ env.locals s.heap m₀) (N : News h₀ env.locals s.heap news) (j0 : J 0 m₀ news)
    (turn : ∀ I i m₁ news₁ t h tk, (∀ p ∈ news, p.1 < I) → i < n → J i m₁ news₁ → (∀ p ∈ news₁, p.1 ≠ I) → Fr h₀ env.locals h (fun y => if y = x then some (.int (a₀ + (i : Int)) t) else m₁ y) → News h₀ env.locals h ((I, itR (a₀ + ((i + 1 : Nat) : Int)) ((n : Int) - ((i + 1 : Nat) : Int))) :: news₁) →
      wpAny (model prog w) A (execs body env) (UnrPost h₀ env.locals { s with heap := h, toks := tk } I (itR (a₀ + ((i + 1 : Nat) : Int)) ((n : Int) - ((i + 1 : Nat) : Int))) (fun m' n' => (∀ p ∈ n', p.1 ≠ I) ∧ J (i + 1) m' n') Q) E { s with heap := h, toks := tk })
    (done : ∀ m₁ news₁ h tk, J n m₁ news₁ → Fr h₀ env.locals h m₁ → News h₀ env.locals h news₁ → Q .next { s with heap := h, toks := tk }) :
    wpAny (model prog w) A (pyIter (.ref r)) (fun it s₂ => LoopAtV prog w A h₀ env x body Q E it s₂) E s := by
  subst hb
  refine iter_rangeUnr (n := n) hh hr ?_ ?_ F N fun I hI => rangeRest_ind (fun i m' n' => (∀ p ∈ n', p.1 ≠ I) ∧ J i m' n') ?_ ?_ n 0 m₀ _ (Nat.zero_add _) ⟨fun p hp => Nat.ne_of_lt (hI p hp), j0⟩
  · obtain ⟨h1, h2, h3⟩ := ha
    exact small_one (by omega) (by omega) (by omega) (by omega)
  · unfold Builtin.Range.rangeSize
    rw [if_pos (by decide)]
    split <;> omega
  · rintro i m₁ news₁ t h tk hi ⟨o, j⟩ F1 N1
    exact turn I i m₁ news₁ t h tk hI hi j o F1 N1
  · rintro m₁ news₁ h tk ⟨o, j⟩ F1 N1
    exact done m₁ news₁ h tk j F1 N1

end Mine
end
section
local macro_rules | `(tactic| walk_at "pyIter ref") => `(tactic| ((with_reducible show wpAny _ _ (pyIter (Value.ref _)) (fun it s₂ => LoopAtV _ _ _ _ _ _ _ _ _ it s₂) _ _); refine Mine.hold ?_))
namespace Mine
local macro_rules | `(tactic| walk_at "call type:range") => `(tactic| ((rename Fr _ _ _ _ => F'); (rename News _ _ _ _ => N'); first | (with_unfolding_all refine range1_rows F' N' ?_; intro _ _ _ _ _ _ _ _ _) | (with_unfolding_all refine range2_rows F' N' ?_; intro _ _ _ _ _ _ _ _ _)))
local macro_rules | `(tactic| walk_at "call ref") => `(tactic| (k_here; (with_reducible show wpAny _ _ (call (Value.ref 81) _) _ _ _); refine Mine.hold ?_))
local macro_rules | `(tactic| walk_at "call ref") => `(tactic| (k_here; (with_reducible show wpAny _ _ (call (Value.ref 56) _) _ _ _); refine Mine.hold ?_))
local macro_rules | `(tactic| walk_at "call ref") => `(tactic| (k_here; (with_reducible show wpAny _ _ (call (Value.ref 65) _) _ _ _); refine Mine.hold ?_))
theorem rowT_no {low : Int} {ds : List Tri} {j : Nat} (h : (Int.gcd (j : Int) low : Int) ≠ 1) : rowT low ds (j + 1) = rowT low ds j := by
  show stepT low (rowT low ds j) j = _
  unfold stepT
  exact if_neg h
theorem rowT_yes {low : Int} {ds : List Tri} {j : Nat} (h : (Int.gcd (j : Int) low : Int) = 1) : rowT low ds (j + 1) = (rowT low ds j).take (bisT (rowT low ds j) ((j : Int) * 2520 / low, (j : Int), low)) ++ ((j : Int) * 2520 / low, (j : Int), low) :: (rowT low ds j).drop (bisT (rowT low ds j) ((j : Int) * 2520 / low, (j : Int), low)) := by
  show stepT low (rowT low ds j) j = _
  unfold stepT
  rw [if_pos h]
  rfl
theorem in_led {a b c d e : Addr × Obj} {tl ts news : List (Addr × Obj)} {q : Addr × Obj} (h : q ∈ ts) : q ∈ a :: b :: c :: d :: e :: (tl ++ (ts ++ news)) :=
  .tail _ (.tail _ (.tail _ (.tail _ (.tail _ (List.mem_append_right _ (List.mem_append_left _ h))))))
theorem in_put {t r a b c : Addr × Obj} {tl ts news : List (Addr × Obj)} : ∀ q ∈ a :: b :: c :: (tl ++ ((t :: ts) ++ news)), q ∈ t :: r :: a :: b :: c :: (tl ++ (ts ++ news)) := by
  intro q hq
  simp only [List.mem_cons, List.mem_append] at hq ⊢
  rcases hq with h | h | h | h | (h | h) | h <;> simp [h]
def InJ (low : Int) (tw : Tok) (ds₀ : List Tri) (p0 : Addr × Obj) (o : Addr) (news : List (Addr × Obj)) (i : Nat) (m₁ : Str → Option Value) (news₁ : List (Addr × Obj)) : Prop :=
  ∃ (vs : List Value) (k : Nat) (tl ts : List (Addr × Obj)), m₁ (PySem.Str.ofString "order") = some (.ref o) ∧ m₁ (PySem.Str.ofString "low") = some (.int low tw) ∧ news₁ = p0 :: (o, W.listOf vs.toArray k) :: (tl ++ (ts ++ news)) ∧
    TBs tl ∧ (∀ p ∈ tl, p.1 ≠ p0.1) ∧ (∀ p ∈ tl, p.1 ≠ o) ∧ Apart tl (ts ++ news) ∧ (∀ p ∈ ts, p.1 ≠ o) ∧ (∀ p ∈ ts, p.1 ≠ p0.1) ∧ DatAll ts vs ((rowT low ds₀ i).map triD)
theorem in_loop {prog : Program} {w : World} {A : Around} {E : Value → Shared → Prop} {s : Shared} {env : Env} {h₀ : Heap} {body : List Stmt} {Q : Flow → Shared → Prop} {r o : Addr} {m₀ : Str → Option Value} {b₀ low : Int} {t₀ u₀ v₀ tw : Tok} {p0 : Addr × Obj} {vs : List Value} {k : Nat} {ds₀ : List Tri} {tl ts news : List (Addr × Obj)} (n : Nat)
    (hh : A.handled = none) (hr : IsRange s.heap r 0 b₀ 1 t₀ u₀ v₀) (hb : b₀ = 0 + (n : Int)) (hn : n ≤ 8) (F : Fr h₀ env.locals s.heap m₀) (N : News h₀ env.locals s.heap (p0 :: (o, W.listOf vs.toArray k) :: (tl ++ (ts ++ news))))
    (e1 : m₀ (PySem.Str.ofString "order") = some (.ref o)) (e2 : m₀ (PySem.Str.ofString "low") = some (.int low tw)) (hT : TBs tl) (a1 : ∀ p ∈ tl, p.1 ≠ p0.1) (a2 : ∀ p ∈ tl, p.1 ≠ o) (hA : Apart tl (ts ++ news)) (a3 : ∀ p ∈ ts, p.1 ≠ o) (a4 : ∀ p ∈ ts, p.1 ≠ p0.1) (hd : DatAll ts vs (ds₀.map triD)) (a5 : o ≠ p0.1)
    (a6 : ∀ p ∈ news, p.1 ≠ o) (a7 : ∀ p ∈ news, p.1 ≠ p0.1)
    (turn : ∀ I i (vs : List Value) (k : Nat) (tl ts : List (Addr × Obj)) (m₁ : Str → Option Value) t h tk, @LT.lt Nat _ o I → @LT.lt Nat _ p0.1 I → i < n → TBs tl → (∀ p ∈ tl, p.1 ≠ p0.1) → (∀ p ∈ tl, p.1 ≠ o) → (∀ p ∈ tl, p.1 ≠ I) → Apart tl (ts ++ news) → (∀ p ∈ ts, p.1 ≠ o) → (∀ p ∈ ts, p.1 ≠ p0.1) → (∀ p ∈ ts, p.1 ≠ I) → (∀ p ∈ news, p.1 ≠ I) →
      DatAll ts vs ((rowT low ds₀ i).map triD) →
      Fr h₀ env.locals h (fun z => if z = PySem.Str.ofString "order" then some (.ref o) else if z = PySem.Str.ofString "low" then some (.int low tw) else if z = PySem.Str.ofString "top" then some (.int (i : Int) t) else m₁ z) →
      News h₀ env.locals h ((I, itR (0 + ((i + 1 : Nat) : Int)) ((n : Int) - ((i + 1 : Nat) : Int))) :: p0 :: (o, W.listOf vs.toArray k) :: (tl ++ (ts ++ news))) →
      wpAny (model prog w) A (execs body env) (UnrPost h₀ env.locals { s with heap := h, toks := tk } I (itR (0 + ((i + 1 : Nat) : Int)) ((n : Int) - ((i + 1 : Nat) : Int))) (fun m' n' => (∀ p ∈ n', p.1 ≠ I) ∧ InJ low tw ds₀ p0 o news (i + 1) m' n') Q) E { s with heap := h, toks := tk })
    (done : ∀ (vs : List Value) (k : Nat) (tl ts : List (Addr × Obj)) (m₁ : Str → Option Value) h tk, TBs tl → (∀ p ∈ tl, p.1 ≠ p0.1) → (∀ p ∈ tl, p.1 ≠ o) → Apart tl (ts ++ news) → (∀ p ∈ ts, p.1 ≠ o) → (∀ p ∈ ts, p.1 ≠ p0.1) →
      DatAll ts vs ((rowT low ds₀ n).map triD) → Fr h₀ env.locals h (fun z => if z = PySem.Str.ofString "order" then some (.ref o) else m₁ z) → News h₀ env.locals h (p0 :: (o, W.listOf vs.toArray k) :: (tl ++ (ts ++ news))) → Q .next { s with heap := h, toks := tk }) :
    wpAny (model prog w) A (pyIter (.ref r)) (fun it s₂ => LoopAtV prog w A h₀ env (PySem.Str.ofString "top") body Q E it s₂) E s := by
  refine rng_loop n (InJ low tw ds₀ p0 o news) hh hr hb ⟨by omega, by omega, by omega⟩ F N ⟨vs, k, tl, ts, e1, e2, rfl, hT, a1, a2, hA, a3, a4, hd⟩ ?_ ?_
  · rintro I i m₁ news₁ t h tk hI hi ⟨vs, k, tl, ts, j1, j2, rfl, j3, j4, j5, j6, j7, j8, j9⟩ off F1 N1
    have o1 := (List.forall_mem_cons.mp off).2
    have o2 := (List.forall_mem_cons.mp o1).2
    refine turn I i vs k tl ts m₁ t h tk (hI _ (.tail _ (.head _))) (hI _ (.head _)) hi j3 j4 j5 (fun p hp => o2 p (List.mem_append_left _ hp)) j6 j7 j8 (fun p hp => o2 p (List.mem_append_right _ (List.mem_append_left _ hp))) (fun p hp => o2 p (List.mem_append_right _ (List.mem_append_right _ hp))) j9 ?_ N1
    rw [Int.zero_add] at F1
    exact fr_know (fr_know F1 (x := PySem.Str.ofString "low") j2) (x := PySem.Str.ofString "order") j1
  · rintro m₁ news₁ h tk ⟨vs, k, tl, ts, j1, j2, rfl, j3, j4, j5, j6, j7, j8, j9⟩ F1 N1
    exact done vs k tl ts m₁ h tk j3 j4 j5 j6 j7 j8 j9 (fr_know F1 j1) N1
theorem in_end0 {h₀ h' : Heap} {L I o : Addr} {it : Obj} {low : Int} {tw : Tok} {ds₀ : List Tri} {p0 : Addr × Obj} {led news tl ts : List (Addr × Obj)} {vs : List Value} {k i : Nat} {m' : Str → Option Value} {s₁ : Shared} {tk : Nat}
    (F : Fr h₀ L h' m') (N : News h₀ L h' led) (hs : ∀ q ∈ (I, it) :: p0 :: (o, W.listOf vs.toArray k) :: (tl ++ (ts ++ news)), q ∈ led) (e1 : m' (PySem.Str.ofString "order") = some (.ref o)) (e2 : m' (PySem.Str.ofString "low") = some (.int low tw))
    (c1 : @LT.lt Nat _ o I) (c2 : @LT.lt Nat _ p0.1 I) (hT : TBs tl) (a1 : ∀ p ∈ tl, p.1 ≠ p0.1) (a2 : ∀ p ∈ tl, p.1 ≠ o) (a3 : ∀ p ∈ tl, p.1 ≠ I) (hA : Apart tl (ts ++ news)) (b1 : ∀ p ∈ ts, p.1 ≠ o) (b2 : ∀ p ∈ ts, p.1 ≠ p0.1) (b3 : ∀ p ∈ ts, p.1 ≠ I) (b4 : ∀ p ∈ news, p.1 ≠ I)
    (hd : DatAll ts vs ((rowT low ds₀ (i + 1)).map triD)) :
    UnrEnd h₀ L s₁ I it (fun m' n' => (∀ p ∈ n', p.1 ≠ I) ∧ InJ low tw ds₀ p0 o news (i + 1) m' n') { s₁ with heap := h', toks := tk } := by
  have off : ∀ p ∈ p0 :: (o, W.listOf vs.toArray k) :: (tl ++ (ts ++ news)), p.1 ≠ I := by
    intro p hp
    rcases List.mem_cons.mp hp with rfl | hp
    · exact Nat.ne_of_lt c2
    rcases List.mem_cons.mp hp with rfl | hp
    · exact Nat.ne_of_lt c1
    rcases List.mem_append.mp hp with hp | hp
    · exact a3 p hp
    rcases List.mem_append.mp hp with hp | hp
    · exact b3 p hp
    · exact b4 p hp
  exact UnrEnd.intro F N _ hs off ⟨off, vs, k, tl, ts, e1, e2, rfl, hT, a1, a2, hA, b1, b2, hd⟩
def OutJ (o : Addr) (news : List (Addr × Obj)) (i : Nat) (m₁ : Str → Option Value) (news₁ : List (Addr × Obj)) : Prop :=
  ∃ (vs : List Value) (k : Nat) (tl ts : List (Addr × Obj)), m₁ (PySem.Str.ofString "order") = some (.ref o) ∧ news₁ = (o, W.listOf vs.toArray k) :: (tl ++ (ts ++ news)) ∧
    TBs tl ∧ (∀ p ∈ tl, p.1 ≠ o) ∧ Apart tl (ts ++ news) ∧ (∀ p ∈ ts, p.1 ≠ o) ∧ DatAll ts vs ((partsT i).map triD)
theorem out_loop {prog : Program} {w : World} {A : Around} {E : Value → Shared → Prop} {s : Shared} {env : Env} {h₀ : Heap} {body : List Stmt} {Q : Flow → Shared → Prop} {r o : Addr} {m₀ : Str → Option Value} {b₀ : Int} {t₀ u₀ v₀ : Tok} {k : Nat} {tl news : List (Addr × Obj)} (n : Nat)
    (hh : A.handled = none) (hr : IsRange s.heap r 1 b₀ 1 t₀ u₀ v₀) (hb : b₀ = 1 + (n : Int)) (hn : n ≤ 7) (F : Fr h₀ env.locals s.heap m₀) (N : News h₀ env.locals s.heap ((o, W.listOf #[] k) :: (tl ++ news)))
    (e1 : m₀ (PySem.Str.ofString "order") = some (.ref o)) (hT : TBs tl) (a2 : ∀ p ∈ tl, p.1 ≠ o) (hA : Apart tl news)
    (turn : ∀ I i (vs : List Value) (k : Nat) (tl ts : List (Addr × Obj)) (m₁ : Str → Option Value) t h tk, @LT.lt Nat _ o I → i < n → TBs tl → (∀ p ∈ tl, p.1 ≠ o) → (∀ p ∈ tl, p.1 ≠ I) → Apart tl (ts ++ news) → (∀ p ∈ ts, p.1 ≠ o) → (∀ p ∈ ts, p.1 ≠ I) → (∀ p ∈ news, p.1 ≠ I) →
      DatAll ts vs ((partsT i).map triD) →
      Fr h₀ env.locals h (fun z => if z = PySem.Str.ofString "order" then some (.ref o) else if z = PySem.Str.ofString "low" then some (.int (1 + (i : Int)) t) else m₁ z) →
      News h₀ env.locals h ((I, itR (1 + ((i + 1 : Nat) : Int)) ((n : Int) - ((i + 1 : Nat) : Int))) :: (o, W.listOf vs.toArray k) :: (tl ++ (ts ++ news))) →
      wpAny (model prog w) A (execs body env) (UnrPost h₀ env.locals { s with heap := h, toks := tk } I (itR (1 + ((i + 1 : Nat) : Int)) ((n : Int) - ((i + 1 : Nat) : Int))) (fun m' n' => (∀ p ∈ n', p.1 ≠ I) ∧ OutJ o news (i + 1) m' n') Q) E { s with heap := h, toks := tk })
    (done : ∀ (vs : List Value) (k : Nat) (tl ts : List (Addr × Obj)) (m₁ : Str → Option Value) h tk, TBs tl → (∀ p ∈ tl, p.1 ≠ o) → Apart tl (ts ++ news) → (∀ p ∈ ts, p.1 ≠ o) →
      DatAll ts vs ((partsT n).map triD) → Fr h₀ env.locals h (fun z => if z = PySem.Str.ofString "order" then some (.ref o) else m₁ z) → News h₀ env.locals h ((o, W.listOf vs.toArray k) :: (tl ++ (ts ++ news))) → Q .next { s with heap := h, toks := tk }) :
    wpAny (model prog w) A (pyIter (.ref r)) (fun it s₂ => LoopAtV prog w A h₀ env (PySem.Str.ofString "low") body Q E it s₂) E s := by
  refine rng_loop n (OutJ o news) hh hr hb ⟨by omega, by omega, by omega⟩ F N ⟨[], k, tl, [], e1, rfl, hT, a2, hA, fun _ h => absurd h List.not_mem_nil, .nil⟩ ?_ ?_
  · rintro I i m₁ news₁ t h tk hI hi ⟨vs, k, tl, ts, j1, rfl, j3, j5, j6, j7, j9⟩ off F1 N1
    have o2 := (List.forall_mem_cons.mp off).2
    refine turn I i vs k tl ts m₁ t h tk (hI _ (.head _)) hi j3 j5 (fun p hp => o2 p (List.mem_append_left _ hp)) j6 j7 (fun p hp => o2 p (List.mem_append_right _ (List.mem_append_left _ hp))) (fun p hp => o2 p (List.mem_append_right _ (List.mem_append_right _ hp))) j9 ?_ N1
    exact fr_know F1 (x := PySem.Str.ofString "order") j1
  · rintro m₁ news₁ h tk ⟨vs, k, tl, ts, j1, rfl, j3, j5, j6, j7, j9⟩ F1 N1
    exact done vs k tl ts m₁ h tk j3 j5 j6 j7 j9 (fr_know F1 j1) N1
theorem out_end {h₀ h' : Heap} {L I o : Addr} {it : Obj} {led news tl ts : List (Addr × Obj)} {vs : List Value} {k i : Nat} {m' : Str → Option Value} {s₁ : Shared} {tk : Nat}
    (F : Fr h₀ L h' m') (N : News h₀ L h' led) (hs : ∀ q ∈ (I, it) :: (o, W.listOf vs.toArray k) :: (tl ++ (ts ++ news)), q ∈ led) (e1 : m' (PySem.Str.ofString "order") = some (.ref o))
    (c1 : @LT.lt Nat _ o I) (hT : TBs tl) (a2 : ∀ p ∈ tl, p.1 ≠ o) (a3 : ∀ p ∈ tl, p.1 ≠ I) (hA : Apart tl (ts ++ news)) (b1 : ∀ p ∈ ts, p.1 ≠ o) (b3 : ∀ p ∈ ts, p.1 ≠ I) (b4 : ∀ p ∈ news, p.1 ≠ I)
    (hd : DatAll ts vs ((partsT (i + 1)).map triD)) :
    UnrEnd h₀ L s₁ I it (fun m' n' => (∀ p ∈ n', p.1 ≠ I) ∧ OutJ o news (i + 1) m' n') { s₁ with heap := h', toks := tk } := by
  have off : ∀ p ∈ (o, W.listOf vs.toArray k) :: (tl ++ (ts ++ news)), p.1 ≠ I := by
    intro p hp
    rcases List.mem_cons.mp hp with rfl | hp
    · exact Nat.ne_of_lt c1
    rcases List.mem_append.mp hp with hp | hp
    · exact a3 p hp
    rcases List.mem_append.mp hp with hp | hp
    · exact b3 p hp
    · exact b4 p hp
  exact UnrEnd.intro F N _ hs off ⟨off, vs, k, tl, ts, e1, rfl, hT, a2, hA, b1, hd⟩
section
variable {p : Program} {loose : List Str} {mean : ExcName → Option Value} {mg mb : Str → Option Value} {w : World}
  {dp un : Nat} {gd : Option (List Code)} {cn : Str} {cs : Scope} {a : Addr} {ccd : Value} {cl : List (Str × Addr)} {outer : List Env} {A₀ : Around} {base h₀ : Heap} {L : Addr} {m : Str → Option Value} {s : Shared} {Q E : Value → Shared → Prop} {news tl : List (Addr × Obj)}
set_option linter.unusedVariables false
theorem parts_c {b : Int} {tb : Tok}
  (B : Below A₀ base outer h₀) (F : Fr h₀ L s.heap m) (X : (Mine.hd.heap_39 w.params).In h₀) (T : Top p loose mean mg mb h₀) (hk : cs.kind = .function) (C1 : CodeHd base 34 30) (C2 : CodeHd base 41 37)
  (N : News h₀ L s.heap (tl ++ news)) (hT : TBs tl) (hA : Apart tl news)
  (hdp : dp + 100 < recursionLimit) (hun : un + 800 < cLine) (hb0 : 0 ≤ b) (hb7 : b ≤ 7)
  (hret : ∀ r vs k tl' ts h' tk', TBs tl' → Apart tl' (ts ++ news) → (∀ q ∈ tl', q.1 ≠ r) → (∀ q ∈ ts, q.1 ≠ r) → (∀ q ∈ news, q.1 < r) → DatAll ts vs ((partsT b.toNat).map triD) → Fr h₀ L h' m →
    News h₀ L h' ((r, W.listOf vs.toArray k) :: (tl' ++ (ts ++ news))) → Q (.ref r) { s with heap := h', toks := tk' }) :
  wpAny (model PySem.Challenge.rw_hi0005_01.row.prog w) (ktrTop dp un gd cn cs L a ccd cl outer) (call (.ref 88) [.int b tb]) Q E s := by
  revert X; k_fill; intro X
  k_steps
  refine unhold ?_
  (rename IsRange _ _ _ _ _ _ _ _ => R9; rename News _ _ _ _ => N9; rename Fr _ _ _ _ => F9)
  refine out_loop b.toNat rfl R9 (by omega) (by omega) F9 N9 rfl hT (by walk_at "tail ne") hA ?turn ?done
  case turn =>
    clear N9 F9 R9
    (rename AllLt _ _ => l8)
    have l9 := allLt_get (allLt_right l8)
    intro I i vs k tl' ts m₁ t h tk g1 g2 g3 g4 g5 g6 g7 g8 g9 g10 F N
    k_steps
    refine unhold ?_
    (rename IsRange _ _ _ _ _ _ _ _ => R9; rename News _ _ _ _ => N9; rename Fr _ _ _ _ => F9)
    refine in_loop (i + 2) rfl R9 (by omega) (by omega) F9 N9 rfl rfl g3 g5 g4 g6 g7 g8 g10 (Nat.ne_of_lt g1) (fun p hp => Nat.ne_of_lt (l9 p hp)) g9 ?turn2 ?done2
    case turn2 =>
      clear N9 F9 R9 g3 g4 g5 g6 g7 g8 g10
      intro J j vs k tl' ts m₁ t h tk f1 f2 f3 f4 f5 f6 f7 f8 f9 f10 f11 f12 f13 F N
      have n9 : ∀ p ∈ news, p.1 ≠ _ := fun p hp => Nat.ne_of_lt (l9 p hp)
      have i7 : i < 7 := by omega
      have hlen := Nat.le_trans (rowT_len (1 + (i : Int)) (partsT i) j) (Nat.add_le_add_right (partsT_len i (by omega)) j)
      have hlen : (rowT (1 + (i : Int)) (partsT i) j).length ≤ 100 := by omega
      k_steps
      refine unhold ?_
      k_dflt (refine' shared_e [_, _, _] ?B ?F ?X ?T ?hk ?C ?D ?N f4 ?hA ?q1 ?q2 ?q3 ?q4 ?q5 ?q6 ?_)
      case B => k_asm
      case F => k_asm
      case X => k_asm
      case T => k_asm
      case hk => first | exact rfl | assumption
      case C => kn_code
      case D => kn_code
      case N => k_asm
      case hA => ((try simp only [List.cons_append, List.nil_append]); walk_at "apart")
      case q1 => first | omega | ktr_room
      case q2 => first | omega | ktr_units
      case q3 => omega
      case q4 => omega
      case q5 => omega
      case q6 => omega
      intro t9 tl9 h9 tk9 hT9 hA9 F9 N9
      (try simp only [List.cons_append, List.nil_append] at N9 hA9)
      (repeat (have hx9 := (List.forall_mem_cons.mp hA9).1; replace hA9 := (List.forall_mem_cons.mp hA9).2; dsimp only at hx9))
      k_steps
      · (rename @Eq Int _ 1 => hg9)
        refine unhold ?_
        k_dflt (refine' intdivmod_c [_, _, _] ?B2 ?F2 ?X2 ?T2 ?hk2 ?C2 ?D2 ?N2 hT9 ?hA2 ?r1 ?r2 ?r3 ?r4 ?r5 ?r6 ?_)
        case B2 => k_asm
        case F2 => k_asm
        case X2 => k_asm
        case T2 => k_asm
        case hk2 => first | exact rfl | assumption
        case C2 => kn_code
        case D2 => kn_code
        case N2 => k_asm
        case hA2 => ((try simp only [List.cons_append, List.nil_append]); walk_at "apart")
        case r1 => first | omega | ktr_room
        case r2 => first | omega | ktr_units
        case r3 => omega
        case r4 => omega
        case r5 => omega
        case r6 => omega
        clear F9 N9 hA9
        intro r9 tq9 tr9 tl8 h9 tk9 hT8 hA9 hr9 l1 l2 F9 N9
        (try simp only [List.cons_append, List.nil_append] at N9 hA9)
        replace l2 := allLt_of l2
        replace l1 := allLt_of l1
        (repeat (have hx9 := (List.forall_mem_cons.mp hA9).1; replace hA9 := (List.forall_mem_cons.mp hA9).2; dsimp only at hx9))
        k_steps
        refine unhold ?_
        (rename News _ _ _ _ => N8; rename Fr _ _ _ _ => F8)
        k_dflt (refine' insort_t (x := ((j : Int) * 2520 / (1 + (i : Int)), (j : Int), 1 + (i : Int))) ?B3 F8 ?X3 ?T3 ?hk3 N8 ?hl3 ?ht3 f13 ?hs3 hlen ?U3 ?s1 ?s2 ?_)
        case B3 => k_asm
        case X3 => k_asm
        case T3 => k_asm
        case hk3 => first | exact rfl | assumption
        case hl3 => walk_at "mem"
        case ht3 => exact List.Mem.head _
        case hs3 => exact fun q hq => in_led hq
        case U3 => k_upd
        case s1 => first | omega | ktr_room
        case s2 => first | omega | ktr_units
        clear F8 N8
        intro h9 tk9 F9 N9
        k_steps
        (rename News _ _ _ _ => N8; rename Fr _ _ _ _ => F8)
        refine in_end0 F8 (news_sub N8 in_put) (fun _ h => h) rfl rfl f1 f2 hT8 (by with_reducible assumption) (by with_reducible assumption) (by with_reducible assumption) ?hA4 (List.forall_mem_cons.mpr ⟨?n1, f9⟩) (List.forall_mem_cons.mpr ⟨?n2, f10⟩) (List.forall_mem_cons.mpr ⟨?n3, f11⟩) f12 ?hd4
        case hA4 => ((try simp only [List.cons_append, List.nil_append]); walk_at "apart")
        case n1 => k_ne
        case n2 => k_ne
        case n3 => k_ne
        case hd4 =>
          rw [rowT_yes hg9]
          exact dat_ins f13 _ ((j : Int) * 2520 / (1 + (i : Int)), (j : Int), 1 + (i : Int))
      · (rename @Ne Int _ 1 => hg9)
        (rename News _ _ _ _ => N8; rename Fr _ _ _ _ => F8)
        refine in_end0 F8 N8 (by walk_at "sub") rfl rfl f1 f2 hT9 (by with_reducible assumption) (by with_reducible assumption) (by with_reducible assumption) (by with_reducible assumption) f9 f10 f11 f12 ?_
        rw [rowT_no hg9]; exact f13
    case done2 =>
      clear N9 F9 R9
      intro vs k tl' ts m₁ h tk f1 f2 f3 f4 f5 f6 f7 F N
      k_steps
      exact out_end F N (fun _ h => h) rfl g1 f1 f3 f2 f4 f5 f6 g9 f7
  case done =>
    clear N9 F9 R9
    intro vs k tl' ts m₁ h tk f1 f2 f3 f4 f5 F N
    (rename AllLt _ _ => l8)
    have l9 := allLt_get (allLt_right l8)
    k_steps
    exact hret _ _ _ _ _ _ _ f1 f3 f2 f4 l9 f5 (by with_reducible assumption) (by with_reducible assumption)
theorem parts_e {b : Int} {tb : Tok} (es : List (Addr × Obj))
  (B : Below A₀ base outer h₀) (F : Fr h₀ L s.heap m) (X : (Mine.hd.heap_39 w.params).In h₀) (T : Top p loose mean mg mb h₀) (hk : cs.kind = .function) (C1 : CodeHd base 34 30) (C2 : CodeHd base 41 37)
  (N : News h₀ L s.heap (es ++ (tl ++ news))) (hT : TBs tl) (hA : Apart tl (es ++ news))
  (hdp : dp + 100 < recursionLimit) (hun : un + 800 < cLine) (hb0 : 0 ≤ b) (hb7 : b ≤ 7)
  (hret : ∀ r vs k tl' ts h' tk', TBs tl' → Apart tl' (ts ++ (es ++ news)) → (∀ q ∈ tl', q.1 ≠ r) → (∀ q ∈ ts, q.1 ≠ r) → (∀ q ∈ es, q.1 < r) → (∀ q ∈ news, q.1 < r) → DatAll ts vs ((partsT b.toNat).map triD) → Fr h₀ L h' m →
    News h₀ L h' ((r, W.listOf vs.toArray k) :: (es ++ (tl' ++ (ts ++ news)))) → Q (.ref r) { s with heap := h', toks := tk' }) :
  wpAny (model PySem.Challenge.rw_hi0005_01.row.prog w) (ktrTop dp un gd cn cs L a ccd cl outer) (call (.ref 88) [.int b tb]) Q E s := by
  refine parts_c (news := es ++ news) B F X T hk C1 C2 (news_sub N ?_) hT hA hdp hun hb0 hb7 ?_
  · intro q hq; simp only [List.mem_append] at hq ⊢; rcases hq with h | h | h <;> simp [h]
  · intro r vs k tl' ts h' tk' hT' hA' h1 h2 h3 hd F' N'
    refine hret r vs k tl' ts h' tk' hT' hA' h1 h2 (fun q hq => h3 q (List.mem_append_left _ hq)) (fun q hq => h3 q (List.mem_append_right _ hq)) hd F' (news_sub N' ?_)
    intro q hq; simp only [List.mem_cons, List.mem_append] at hq ⊢; rcases hq with h | h | h | h | h <;> simp [h]
end

end Mine
end
section
namespace Mine
def lawDef : Stmt := PySem.Challenge.pw_hi0005_01.main.body.getLast?.getD (.Pass ⟨0, 0, 0, 0⟩)
def defBody : Stmt → List Stmt
  | .FunctionDef _ _ b _ _ _ _ _ _ _ => b
  | _ => []
def defScope : Stmt → Scope
  | .FunctionDef _ _ _ _ _ _ s _ _ _ => s
  | _ => { kind := .function, names := [], isGenerator := false, isCoroutine := false, more := [] }
def forBody : Stmt → List Stmt
  | .For _ _ b _ _ => b
  | _ => []
def lawBody : List Stmt := defBody lawDef
def lawScope : Scope := defScope lawDef
theorem grown_tbs {H h : Heap} {L : Addr} {tl : List (Addr × Obj)} (N : News H L h (tl ++ [])) (hT : TBs tl) : GrownAll [(41, 37), (34, 30)] h := by
  cases hT with
  | mk ha hb _ =>
    refine ⟨?_, ?_, trivial⟩
    · cases hb with
      | no => exact GrownAt.of N (List.mem_append_left _ (List.mem_append_right _ (.head _)))
      | yes => exact GrownAt.of N (List.mem_append_left _ (List.mem_append_right _ (.head _)))
    · cases ha with
      | no => exact GrownAt.of N (List.mem_append_left _ (List.mem_append_left _ (.head _)))
      | yes => exact GrownAt.of N (List.mem_append_left _ (List.mem_append_left _ (.head _)))
def LawJ (es ts : List (Addr × Obj)) (m₁ : Str → Option Value) (news₁ : List (Addr × Obj)) : Prop :=
  ∃ tl, news₁ = es ++ (tl ++ ts) ∧ TBs tl ∧ Apart tl (es ++ ts)
theorem k_loop {prog : Program} {w : World} {A : Around} {E : Value → Shared → Prop} {s : Shared} {env : Env} {h₀ : Heap} {x : Str} {body : List Stmt} {Q : Flow → Shared → Prop} {r : Addr} {m₀ : Str → Option Value} {a₀ b₀ : Int} {t₀ u₀ v₀ : Tok} {es tl ts news : List (Addr × Obj)} (n : Nat)
    (hh : A.handled = none) (hr : IsRange s.heap r a₀ b₀ 1 t₀ u₀ v₀) (hb : b₀ = a₀ + n) (ha : 0 ≤ a₀ ∧ a₀ ≤ 100 ∧ n ≤ 100) (F : Fr h₀ env.locals s.heap m₀) (N : News h₀ env.locals s.heap news) (en : news = es ++ (tl ++ ts)) (hT : TBs tl) (hA : Apart tl (es ++ ts))
    (turn : ∀ I i tl (m₁ : Str → Option Value) t h tk, (∀ p ∈ es, p.1 < I) → (∀ p ∈ ts, p.1 < I) → (∀ p ∈ tl, p.1 ≠ I) → i < n → TBs tl → Apart tl (es ++ ts) → Fr h₀ env.locals h (fun y => if y = x then some (.int (a₀ + (i : Int)) t) else m₁ y) → News h₀ env.locals h ((I, itR (a₀ + ((i + 1 : Nat) : Int)) ((n : Int) - ((i + 1 : Nat) : Int))) :: (es ++ (tl ++ ts))) →
      wpAny (model prog w) A (execs body env) (UnrPost h₀ env.locals { s with heap := h, toks := tk } I (itR (a₀ + ((i + 1 : Nat) : Int)) ((n : Int) - ((i + 1 : Nat) : Int))) (fun m' n' => (∀ p ∈ n', p.1 ≠ I) ∧ LawJ es ts m' n') Q) E { s with heap := h, toks := tk })
    (done : ∀ tl m₁ h tk, TBs tl → Apart tl (es ++ ts) → Fr h₀ env.locals h m₁ → News h₀ env.locals h (es ++ (tl ++ ts)) → Q .next { s with heap := h, toks := tk }) :
    wpAny (model prog w) A (pyIter (.ref r)) (fun it s₂ => LoopAtV prog w A h₀ env x body Q E it s₂) E s := by
  subst en
  refine rng_loop n (fun _ => LawJ es ts) hh hr hb ha F N ⟨tl, rfl, hT, hA⟩ ?_ ?_
  · rintro I i m₁ news₁ t h tk hI hi ⟨tl, rfl, j1, j2⟩ off F1 N1
    exact turn I i tl m₁ t h tk (fun p hp => hI p (List.mem_append_left _ hp)) (fun p hp => hI p (List.mem_append_right _ (List.mem_append_right _ hp))) (fun p hp => off p (List.mem_append_right _ (List.mem_append_left _ hp))) hi j1 j2 F1 N1
  · rintro m₁ news₁ h tk ⟨tl, rfl, j1, j2⟩ F1 N1
    exact done tl m₁ h tk j1 j2 F1 N1
theorem k_end {h₀ h' : Heap} {L I : Addr} {it : Obj} {led es tl ts : List (Addr × Obj)} {m' : Str → Option Value} {s₁ : Shared} {tk : Nat}
    (F : Fr h₀ L h' m') (N : News h₀ L h' led) (hs : ∀ q ∈ (I, it) :: (es ++ (tl ++ ts)), q ∈ led) (c1 : ∀ p ∈ es, p.1 < I) (c2 : ∀ p ∈ ts, p.1 < I) (c3 : ∀ p ∈ tl, p.1 ≠ I) (hT : TBs tl) (hA : Apart tl (es ++ ts)) :
    UnrEnd h₀ L s₁ I it (fun m' n' => (∀ p ∈ n', p.1 ≠ I) ∧ LawJ es ts m' n') { s₁ with heap := h', toks := tk } := by
  have off : ∀ p ∈ es ++ (tl ++ ts), p.1 ≠ I := by
    intro p hp
    rcases List.mem_append.mp hp with hp | hp
    · exact Nat.ne_of_lt (c1 p hp)
    rcases List.mem_append.mp hp with hp | hp
    · exact c3 p hp
    · exact Nat.ne_of_lt (c2 p hp)
  exact UnrEnd.intro F N _ hs off ⟨off, tl, rfl, hT, hA⟩

end Mine
end
section
namespace Mine
def lawAt (b i : Nat) : Bool :=
  let ds := partsT b
  let d := ds.getD i default
  let e := ds.getD (i + 1) default
  decide (e.2.1 * d.2.2 - d.2.1 * e.2.2 = 1) && decide ((b : Int) < d.2.2 + e.2.2) && decide (bisT ds e = i + 1)
def triOk (d : Tri) : Bool := decide (0 ≤ d.1) && decide (d.1 ≤ 2520) && decide (0 ≤ d.2.1) && decide (d.2.1 ≤ 7) && decide (1 ≤ d.2.2) && decide (d.2.2 ≤ 7)
theorem pl_ok : ∀ b : Nat, b < 8 → ((partsT b).all triOk) = true := by decide +kernel
theorem pl_len : ∀ b : Nat, b < 8 → 1 ≤ b → 2 ≤ (partsT b).length ∧ (partsT b).length ≤ 19 := by decide +kernel
theorem pl_3 : ∀ b : Nat, b < 7 → 1 ≤ b → ((List.range ((partsT b).length - 1)).all (lawAt b)) = true := by decide +kernel
theorem getD_mem {ds : List Tri} {k : Nat} (hk : k < ds.length) : ds.getD k default ∈ ds := by
  rw [List.getD_eq_getElem?_getD, List.getElem?_eq_getElem hk]
  exact List.getElem_mem hk
theorem tri_bnd {b : Int} (b6 : b ≤ 7) {k : Nat} (hk : k < (partsT b.toNat).length) {p x y : Int} (e : (partsT b.toNat).getD k default = (p, x, y)) : 0 ≤ p ∧ p ≤ 2520 ∧ 0 ≤ x ∧ x ≤ 7 ∧ 1 ≤ y ∧ y ≤ 7 := by
  have h := List.all_eq_true.mp (pl_ok b.toNat (by omega)) _ (getD_mem hk)
  rw [e] at h
  simp only [triOk, Bool.and_eq_true, decide_eq_true_eq] at h
  omega
theorem pl_at {b : Int} (b0 : 1 ≤ b) (b6 : b ≤ 6) {i : Nat} (hi : i < (partsT b.toNat).length - 1) {p x y p' x' y' : Int} (e : (partsT b.toNat).getD i default = (p, x, y)) (e' : (partsT b.toNat).getD (i + 1) default = (p', x', y')) :
    x' * y - x * y' = 1 ∧ b < y + y' ∧ bisT (partsT b.toNat) (p', x', y') = i + 1 := by
  have h := List.all_eq_true.mp (pl_3 b.toNat (by omega) (by omega)) i (List.mem_range.mpr hi)
  unfold lawAt at h
  dsimp only at h
  rw [e, e'] at h
  simp only [Bool.and_eq_true, decide_eq_true_eq] at h
  refine ⟨h.1.1, ?_, h.2⟩
  have := h.1.2
  omega
theorem put_ts {h₀ h : Heap} {L : Addr} {q i a b c : Addr × Obj} {tl ts : List (Addr × Obj)} (hq : q ∈ ts) (N : News h₀ L h (i :: a :: b :: c :: (tl ++ ts))) : News h₀ L h (q :: i :: a :: b :: c :: (tl ++ ts)) :=
  news_sub N (by intro p hp; rcases List.mem_cons.mp hp with e | e; exact e ▸ .tail _ (.tail _ (.tail _ (.tail _ (List.mem_append_right _ hq)))); exact e)
theorem put_mem {h₀ h : Heap} {L : Addr} {q : Addr × Obj} {l : List (Addr × Obj)} (hq : q ∈ l) (N : News h₀ L h l) : News h₀ L h (q :: l) :=
  news_sub N (by intro p hp; rcases List.mem_cons.mp hp with e | e; exact e ▸ hq; exact e)
section
variable {prog : Program} {w : World} {A : Around} {E : Value → Shared → Prop} {s : Shared} {h₀ : Heap} {L : Addr}
theorem tri_at {value slice : PySem.Expr} {led L9 : List (Addr × Obj)} {l : Addr} {vs : List Value} {ds : List Tri} {n : Nat} {k : Int} {u : Tok} {Q : Value → Shared → Prop} (j : Nat) (N : News h₀ L s.heap led) (hm : (l, listOf vs.toArray n) ∈ led) (hd : DatAll L9 vs (ds.map triD))
    (hj : k = (j : Int)) (hk : j < ds.length) (hl : ds.length ≤ 100) (h : ∀ a p x y t u z n', ds.getD j default = (p, x, y) → (a, ({ cls := .type "tuple", data := .seq #[.int p t, .int x u, .int y z] n' } : Obj)) ∈ L9 → Q (.ref a) s)
    (hs : subscripted slice false (.ref l) (.int k u) = operate [.ref l, .int k u] (getItem (.ref l) (.int k u)) := by with_unfolding_all rfl) :
    wpAny (model prog w) A (subscriptTail value slice (.ref l) (.int k u)) Q E s := by
  subst hj
  refine tri_item N hm hd (by omega) (by omega) hl (fun a t u z n' hm' => ?_) hs
  rw [Int.toNat_natCast] at hm'
  exact h a _ _ _ t u z n' rfl hm'
end
theorem put_in {h₀ h : Heap} {L : Addr} {q : Addr × Obj} {ts l : List (Addr × Obj)} (hq : q ∈ ts) (hs : ∀ p ∈ ts, p ∈ l) (N : News h₀ L h l) : News h₀ L h (q :: l) := put_mem (hs q hq) N
section
variable {prog : Program} {w : World} {A : Around} {E : Value → Shared → Prop} {s : Shared} {h₀ : Heap} {L : Addr} {m : Str → Option Value} {news : List (Addr × Obj)}
theorem tri_cut {value slice : Expr} {t : Addr} {p x y : Int} {u v z : Tok} {n : Nat} {a1 : Tok} {Q : Value → Shared → Prop}
    (F : Fr h₀ L s.heap m) (N : News h₀ L s.heap news) (hm : (t, ({ cls := .type "tuple", data := .seq #[.int p u, .int x v, .int y z] n } : Obj)) ∈ news)
    (h : ∀ D h', Fr h₀ L h' m → News h₀ L h' ((D, { cls := .type "tuple", data := .seq #[.int x v, .int y z] }) :: news) → (∀ p ∈ news, p.1 < D) → Q (.ref D) { s with heap := h' })
    (hs : subscripted slice false (.ref t) (.ref s.heap.objs.size) = operate [.ref s.heap.objs.size, .ref t] (getItem (.ref t) (.ref s.heap.objs.size)) := by with_unfolding_all rfl)
    (hg : ∀ r, letTemporaryGo value (.ref t) r = pure () := by intro _; with_unfolding_all rfl) :
    wpAny (model prog w) A (subscriptTail value slice (.ref t) (.ref s.heap.objs.size)) Q E { s with heap := s.heap.push { cls := .type "slice", data := .fields #[.int 1 a1, .none, .none] } } := by
  refine slice_tuple_from (a := 1) F N (News.isTup N hm) (by decide) (by show 1 ≤ 3; decide) (fun h' F' N' => ?_) hs hg (by show 3 ≤ _; rw [sizeLine_eq]; decide)
  exact h _ h' F' N' (fun q hq => Nat.lt_succ_of_lt (news_lt N q hq))
end
def law4At (b i : Nat) : Bool :=
  let ds := partsT b
  let d := ds.getD i default
  let m := ds.getD (i + 1) default
  let e := ds.getD (i + 2) default
  let g : Int := Int.gcd (d.2.1 + e.2.1) (d.2.2 + e.2.2)
  let o := ((b : Int) + d.2.2) / m.2.2
  decide (1 ≤ g) && decide (g ≤ 100) && decide ((d.2.1 + e.2.1) / g = m.2.1) && decide ((d.2.2 + e.2.2) / g = m.2.2) && decide (o * m.2.1 - d.2.1 = e.2.1) && decide (o * m.2.2 - d.2.2 = e.2.2) && decide (0 ≤ o) && decide (o ≤ 100)
theorem pl_4 : ∀ b : Nat, b < 7 → 1 ≤ b → ((List.range ((partsT b).length - 2)).all (law4At b)) = true := by decide +kernel
theorem pl_at4 {b : Int} (b0 : 1 ≤ b) (b6 : b ≤ 6) {i : Nat} (hi : i < (partsT b.toNat).length - 2) {p x y p' x' y' p'' x'' y'' : Int} (e : (partsT b.toNat).getD i default = (p, x, y)) (e' : (partsT b.toNat).getD (i + 1) default = (p', x', y')) (e'' : (partsT b.toNat).getD (i + 2) default = (p'', x'', y'')) :
    1 ≤ (Int.gcd (x + x'') (y + y'') : Int) ∧ (Int.gcd (x + x'') (y + y'') : Int) ≤ 100 ∧ (x + x'') / (Int.gcd (x + x'') (y + y'') : Int) = x' ∧ (y + y'') / (Int.gcd (x + x'') (y + y'') : Int) = y' ∧
      (b + y) / y' * x' - x = x'' ∧ (b + y) / y' * y' - y = y'' ∧ 0 ≤ (b + y) / y' ∧ (b + y) / y' ≤ 100 := by
  have h := List.all_eq_true.mp (pl_4 b.toNat (by omega) (by omega)) i (List.mem_range.mpr hi)
  unfold law4At at h
  dsimp only at h
  rw [e, e', e'', Int.toNat_of_nonneg (by omega)] at h
  simp only [Bool.and_eq_true, decide_eq_true_eq] at h
  obtain ⟨⟨⟨⟨⟨⟨⟨h1, h2⟩, h3⟩, h4⟩, h5⟩, h6⟩, h7⟩, h8⟩ := h
  exact ⟨h1, h2, h3, h4, h5, h6, h7, h8⟩
theorem drop2 {h₀ h : Heap} {L : Addr} {x y : Addr × Obj} {l : List (Addr × Obj)} (N : News h₀ L h (x :: y :: l)) : News h₀ L h (x :: l) :=
  news_sub N (by intro p hp; rcases List.mem_cons.mp hp with e | e; exact e ▸ .head _; exact .tail _ (.tail _ e))
def topsT (b : Int) : Nat → List Int
  | 0 => []
  | n + 1 => if (Int.gcd (1 + (n : Int)) b : Int) = 1 then topsT b n ++ [1 + (n : Int)] else topsT b n
theorem topsT_yes {b : Int} {n : Nat} (h : (Int.gcd (1 + (n : Int)) b : Int) = 1) : topsT b (n + 1) = topsT b n ++ [1 + (n : Int)] := if_pos h
theorem topsT_no {b : Int} {n : Nat} (h : (Int.gcd (1 + (n : Int)) b : Int) ≠ 1) : topsT b (n + 1) = topsT b n := if_neg h
theorem pl_5 : ∀ b : Nat, b < 7 → 1 < b → (partsT b).length = (partsT (b - 1)).length + (topsT (b : Int) (b - 1)).length ∧ (topsT (b : Int) (b - 1)).length ≤ 6 ∧ ((partsT (b - 1)).all fun d => (partsT b).any fun e => decide (d.1 = e.1) && decide (d.2.1 = e.2.1) && decide (d.2.2 = e.2.2)) = true := by decide +kernel
theorem pl_at5 {b : Int} (b1 : 1 < b) (b6 : b ≤ 6) : (((partsT b.toNat).length : Nat) : Int) - (((partsT (b - 1).toNat).length : Nat) : Int) = (((topsT b (b - 1).toNat).length : Nat) : Int) ∧ (topsT b (b - 1).toNat).length ≤ 6 ∧ (∀ d ∈ partsT (b - 1).toNat, d ∈ partsT b.toNat) := by
  obtain ⟨n, rfl⟩ := Int.eq_ofNat_of_zero_le (show 0 ≤ b by omega)
  have h := pl_5 n (by omega) (by omega)
  have e : ((n : Int) - 1).toNat = n - 1 := by omega
  rw [e, Int.toNat_natCast]
  refine ⟨by omega, h.2.1, fun d hd => ?_⟩
  obtain ⟨e, he, q⟩ := List.any_eq_true.mp (List.all_eq_true.mp h.2.2 d hd)
  simp only [Bool.and_eq_true, decide_eq_true_eq] at q
  have : d = e := Prod.ext q.1.1 (Prod.ext q.1.2 q.2)
  exact this ▸ he
theorem off3_mem {I C D : Addr} : ∀ {l : List (Addr × Obj)}, LCg.Off3 I C D l → ∀ p ∈ l, p.1 ≠ I ∧ p.1 ≠ C ∧ p.1 ≠ D
  | [], _, p, hp => absurd hp List.not_mem_nil
  | _ :: r, h, p, hp => by
    rcases List.mem_cons.mp hp with e | e
    · exact e ▸ h.1
    · exact off3_mem (l := r) h.2 p e
theorem off3_mk {I C D : Addr} : ∀ {l : List (Addr × Obj)}, (∀ p ∈ l, p.1 ≠ I ∧ p.1 ≠ C ∧ p.1 ≠ D) → LCg.Off3 I C D l
  | [], _ => trivial
  | q :: r, h => ⟨h q (.head _), off3_mk (l := r) fun p hp => h p (.tail _ hp)⟩
theorem range_n {a b : Int} {n : Nat} (h : b = a + n) : Builtin.Range.rangeSize a b 1 = ((n : Nat) : Int) := by
  unfold Builtin.Range.rangeSize
  rw [if_pos (by decide)]
  split <;> omega
theorem off_tl {I C D : Addr} {a b c d : Addr × Obj} {tl tl' r : List (Addr × Obj)} (of : ∀ p ∈ a :: b :: c :: d :: (tl ++ r), p.1 ≠ I ∧ p.1 ≠ C ∧ p.1 ≠ D) (h1 : ∀ p ∈ tl', p.1 ≠ I) (h2 : ∀ p ∈ tl', p.1 ≠ C) (h3 : ∀ p ∈ tl', p.1 ≠ D) : LCg.Off3 I C D (a :: b :: c :: d :: (tl' ++ r)) :=
  off3_mk fun p hp => by
    rcases List.mem_cons.mp hp with e | hp
    · exact of p (e ▸ .head _)
    rcases List.mem_cons.mp hp with e | hp
    · exact of p (e ▸ .tail _ (.head _))
    rcases List.mem_cons.mp hp with e | hp
    · exact of p (e ▸ .tail _ (.tail _ (.head _)))
    rcases List.mem_cons.mp hp with e | hp
    · exact of p (e ▸ .tail _ (.tail _ (.tail _ (.head _))))
    rcases List.mem_append.mp hp with hp | hp
    · exact ⟨h1 p hp, h2 p hp, h3 p hp⟩
    · exact of p (.tail _ (.tail _ (.tail _ (.tail _ (List.mem_append_right _ hp)))))
theorem in_tl4 {a b c d p : Addr × Obj} {tl r : List (Addr × Obj)} (hp : p ∈ tl) : p ∈ a :: b :: c :: d :: (tl ++ r) := .tail _ (.tail _ (.tail _ (.tail _ (List.mem_append_left _ hp))))
theorem apart_less {tl tsp ts : List (Addr × Obj)} {a b c d : Addr × Obj} (h : Apart tl (tsp ++ ([b, c, d] ++ ts))) (h0 : ∀ q ∈ tl, q.1 ≠ a.1) : Apart tl (a :: b :: c :: d :: (tsp ++ ts)) := by
  intro q hq p hp
  simp only [List.mem_cons, List.mem_append] at hq
  rcases hq with e | e | e | e | e | e
  · exact e ▸ h0 p hp
  · exact h q (List.mem_append_right _ (e ▸ .head _)) p hp
  · exact h q (List.mem_append_right _ (e ▸ .tail _ (.head _))) p hp
  · exact h q (List.mem_append_right _ (e ▸ .tail _ (.tail _ (.head _)))) p hp
  · exact h q (List.mem_append_left _ e) p hp
  · exact h q (List.mem_append_right _ (List.mem_append_right _ e)) p hp
theorem tri_oks {ds : List Tri} : ∀ d ∈ ds.map triD, kqdOk 8 d = true := fun d hd => by
  obtain ⟨x, _, rfl⟩ := List.mem_map.mp hd
  rfl
theorem less_out {x y a b c d : Addr × Obj} {tl tsp ts : List (Addr × Obj)} : ∀ q ∈ b :: c :: d :: (tl ++ ts), q ∈ x :: y :: a :: b :: c :: d :: (tl ++ (tsp ++ ts)) := by
  intro q hq
  simp only [List.mem_cons, List.mem_append] at hq ⊢
  rcases hq with h | h | h | h | h <;> simp [h]
theorem apart_out {a b c d : Addr × Obj} {tl tsp ts : List (Addr × Obj)} (h : Apart tl (a :: b :: c :: d :: (tsp ++ ts))) : Apart tl (b :: c :: d :: ts) := by
  intro q hq
  refine h q ?_
  simp only [List.mem_cons, List.mem_append] at hq ⊢
  rcases hq with h | h | h | h <;> simp [h]
theorem dec_not {P : Prop} {inst : Decidable P} (h : P) : (!(@decide P inst)) = false := by
  rw [decide_eq_true h]; rfl

end Mine
end
section
namespace Mine
theorem dat_snoc {led : List (Addr × Obj)} {vs : List Value} {ds : List Dat} {v : Value} {d : Dat} (h : DatAll led vs ds) (k : DatIn led v d) : DatAll led (vs ++ [v]) (ds ++ [d]) := h.append (.one k)
theorem dat_rev {led : List (Addr × Obj)} : ∀ {vs : List Value} {ds : List Dat}, DatAll led vs ds → DatAll led vs.reverse ds.reverse
  | _, _, .nil => .nil
  | _, _, .cons h r => by
    rw [List.reverse_cons, List.reverse_cons]
    exact dat_snoc (dat_rev r) h
def turnT (d : Tri) : Tri := (2520 - d.1, d.2.2 - d.2.1, d.2.2)
def eqT (d e : Tri) : Bool := decide (d.1 = e.1) && decide (d.2.1 = e.2.1) && decide (d.2.2 = e.2.2)
def eqTs : List Tri → List Tri → Bool
  | [], [] => true
  | d :: r, e :: q => eqT d e && eqTs r q
  | _, _ => false
theorem eqT_iff {d e : Tri} : eqT d e = true ↔ d = e := by
  unfold eqT
  simp only [Bool.and_eq_true, decide_eq_true_eq]
  exact ⟨fun h => Prod.ext h.1.1 (Prod.ext h.1.2 h.2), fun h => by subst h; exact ⟨⟨rfl, rfl⟩, rfl⟩⟩
theorem eqTs_eq : ∀ {a b : List Tri}, eqTs a b = true → a = b
  | [], [], _ => rfl
  | [], _ :: _, h => Bool.noConfusion h
  | _ :: _, [], h => Bool.noConfusion h
  | d :: r, e :: q, h => by
    unfold eqTs at h
    rw [Bool.and_eq_true] at h
    rw [eqT_iff.mp h.1, eqTs_eq h.2]
theorem pl_6 : ∀ b : Nat, b < 7 → 1 ≤ b → eqTs ((partsT b).reverse.map turnT) (partsT b) = true := by decide +kernel
theorem pl_at6 {b : Int} (b0 : 1 ≤ b) (b6 : b ≤ 6) : (partsT b.toNat).reverse.map turnT = partsT b.toNat := eqTs_eq (pl_6 b.toNat (by omega) (by omega))
def law8At (b : Nat) (d : Tri) : Bool :=
  let ds := partsT b
  let k := bisT ds d
  ds.any (eqT d) || (decide (1 ≤ k) && decide (k < ds.length) && !decide (d.2.2 < (ds.getD (k - 1) default).2.2 + (ds.getD k default).2.2))
theorem pl_8 : ∀ b : Nat, b < 7 → 1 ≤ b → (partsT (b + 1)).all (law8At b) = true := by decide +kernel
theorem pl_at8 {b : Int} (b0 : 1 ≤ b) (b6 : b ≤ 6) {d : Tri} (hd : d ∈ partsT (b + 1).toNat) (hn : d ∉ partsT b.toNat) :
    1 ≤ bisT (partsT b.toNat) d ∧ bisT (partsT b.toNat) d < (partsT b.toNat).length ∧ ¬ d.2.2 < ((partsT b.toNat).getD (bisT (partsT b.toNat) d - 1) default).2.2 + ((partsT b.toNat).getD (bisT (partsT b.toNat) d) default).2.2 := by
  have e : (b + 1).toNat = b.toNat + 1 := by omega
  rw [e] at hd
  have h := List.all_eq_true.mp (pl_8 b.toNat (by omega) (by omega)) d hd
  unfold law8At at h
  dsimp only at h
  rw [Bool.or_eq_true] at h
  rcases h with h | h
  · obtain ⟨x, hx, q⟩ := List.any_eq_true.mp h
    exact absurd (eqT_iff.mp q ▸ hx) hn
  · simp only [Bool.and_eq_true, decide_eq_true_eq, Bool.not_eq_true', decide_eq_false_iff_not] at h
    exact ⟨h.1.1, h.1.2, h.2⟩
def ascT : List Tri → Bool
  | [] => true
  | [_] => true
  | d :: e :: r => ltT d e && ascT (e :: r)
theorem pl_2 : ∀ b : Nat, b < 8 → 1 ≤ b → ascT (partsT b) = true ∧ eqTs ((partsT b).take 1) [(0, 0, 1)] = true ∧ eqTs ((partsT b).drop ((partsT b).length - 1)) [(2520, 1, 1)] = true := by decide +kernel

end Mine
end
section
namespace Mine
theorem ltT_anti {d e : Tri} (h : ltT d e = true) : ltT e d = false := by
  unfold ltT at h ⊢
  by_cases h1 : d.1 = e.1
  · rw [if_pos (by rw [beq_iff_eq]; exact h1)] at h
    rw [if_pos (by rw [beq_iff_eq]; exact h1.symm)]
    by_cases h2 : d.2.1 = e.2.1
    · rw [if_pos (by rw [beq_iff_eq]; exact h2), decide_eq_true_eq] at h
      rw [if_pos (by rw [beq_iff_eq]; exact h2.symm), decide_eq_false_iff_not]
      omega
    · rw [if_neg (by rw [beq_iff_eq]; exact h2), decide_eq_true_eq] at h
      rw [if_neg (by rw [beq_iff_eq]; exact fun q => h2 q.symm), decide_eq_false_iff_not]
      omega
  · rw [if_neg (by rw [beq_iff_eq]; exact h1), decide_eq_true_eq] at h
    rw [if_neg (by rw [beq_iff_eq]; exact fun q => h1 q.symm), decide_eq_false_iff_not]
    omega
theorem asc_at : ∀ {ds : List Tri} {n : Nat}, ascT ds = true → n + 1 < ds.length → ltT (ds.getD n default) (ds.getD (n + 1) default) = true
  | [], _, _, h => absurd h (Nat.not_lt_zero _)
  | [_], n, _, h => absurd h (by show ¬ n + 1 < 1; omega)
  | d :: e :: r, 0, a, _ => by
    unfold ascT at a
    rw [Bool.and_eq_true] at a
    exact a.1
  | d :: e :: r, n + 1, a, h => by
    unfold ascT at a
    rw [Bool.and_eq_true] at a
    exact asc_at (ds := e :: r) (n := n) a.2 (Nat.lt_of_succ_lt_succ h)
section
variable {prog : Program} {w : World} {A : Around} {E : Value → Shared → Prop} {s : Shared}
theorem key_lt_t {x y : Addr} {d e : Tri} {t u v t' u' v' : Tok} {n n' : Nat} {Q : Bool → Shared → Prop} (hx : s.heap.get? x = some (triO d t u v n)) (hy : s.heap.get? y = some (triO e t' u' v' n')) (h : Q (ltT d e) s) :
    wpAny (model prog w) A (keyLt' (tuples' true) (.ref x) (.ref y)) Q E s := by
  refine kat_lt hx rfl hy rfl ?_
  show KatLex prog w A true false Q [(.int d.1 t, .int e.1 t'), (.int d.2.1 u, .int e.2.1 u'), (.int d.2.2 v, .int e.2.2 v')] 0 s
  unfold ltT at h
  refine kat_cons (wpAny_eqBool_int ?_)
  cases h1 : d.1 == e.1 with
  | false =>
    rw [h1] at h
    exact kat_no (show wpAny (model prog w) A (oneLt' true (.int d.1 t) (.int e.1 t')) _ _ _ from oneLt_int h)
  | true =>
    rw [h1] at h
    refine kat_yes (kat_cons (wpAny_eqBool_int ?_))
    cases h2 : d.2.1 == e.2.1 with
    | false =>
      rw [h2] at h
      exact kat_no (show wpAny (model prog w) A (oneLt' false (.int d.2.1 u) (.int e.2.1 u')) _ _ _ from kat_one _ _ (lt_int h))
    | true =>
      rw [h2] at h
      refine kat_yes (kat_cons (wpAny_eqBool_int ?_))
      cases h3 : d.2.2 == e.2.2 with
      | false => exact kat_no (show wpAny (model prog w) A (oneLt' false (.int d.2.2 v) (.int e.2.2 v')) _ _ _ from kat_one _ _ (lt_int h))
      | true =>
        have e3 : decide (d.2.2 < e.2.2) = false := by rw [decide_eq_false_iff_not, eq_of_beq h3]; exact Int.lt_irrefl _
        rw [e3] at h
        exact kat_yes (kat_nil h)
end
theorem tri_tups {h : Heap} {ts : List (Addr × Obj)} (hk : ∀ p ∈ ts, h.get? p.1 = some p.2) : ∀ {vs : List Value} {ds : List Tri}, DatAll ts vs (ds.map triD) → ∃ fs, KatTups h vs fs ∧ fs.length = vs.length ∧ ∀ v ∈ fs, ∃ i t, v = .int i t
  | [], [], _ => ⟨[], .nil, rfl, fun _ q => absurd q List.not_mem_nil⟩
  | _ :: _, [], q => by cases q
  | [], _ :: _, q => by cases q
  | v :: vs, d :: ds, q => by
    cases q with
    | cons q1 q2 =>
      obtain ⟨a, t, u, z, n, rfl, hm⟩ := tri_in q1
      obtain ⟨fs, r1, r2, r3⟩ := tri_tups hk q2
      refine ⟨.int d.1 t :: fs, .cons (hk _ hm) rfl rfl rfl r1, congrArg (· + 1) r2, fun v hv => ?_⟩
      rcases List.mem_cons.mp hv with rfl | hv
      · exact ⟨_, _, rfl⟩
      · exact r3 v hv
theorem getD_range {N n : Nat} (h : n < N) : (List.toArray (List.range N)).getD n 0 = n := by
  simp [Array.getD, h]
theorem asc_run {N : Nat} {ask : Nat → Nat → (Bool → Shared → Prop) → Shared → Prop} {s : Shared} (hask : ∀ n C, 1 ≤ n → n < N → C false s → ask n (n - 1) C s) {Q : Nat → Shared → Prop} (hq : Q N s) :
    ∀ f n, 1 ≤ n → n + f = N → (kas_asc (List.toArray (List.range N)) f n).kasWp ask Q s
  | 0, n, _, e => by
    have : n = N := by omega
    subst this
    exact hq
  | f + 1, n, h1, e => by
    show ask ((List.toArray (List.range N)).getD n 0) ((List.toArray (List.range N)).getD (n - 1) 0) _ s
    rw [getD_range (by omega), getD_range (by omega)]
    refine hask n _ h1 (by omega) ?_
    exact asc_run hask hq f (n + 1) (by omega) (by omega)
theorem sort_run {N : Nat} {ask : Nat → Nat → (Bool → Shared → Prop) → Shared → Prop} {s : Shared} {G : Array Nat → Shared → Prop} (h1 : 1 ≤ N) (hask : ∀ n C, 1 ≤ n → n < N → C false s → ask n (n - 1) C s) (hG : G (List.toArray (List.range N)) s) :
    (kas_sort N).kasWp ask G s := by
  unfold kas_sort kas_count
  rw [KasT.kasWp_bind, KasT.kasWp_bind]
  refine asc_run hask ?_ _ _ (Nat.le_refl _) (by omega)
  rw [if_pos (by rw [beq_iff_eq])]
  show KasT.kasWp ask (if N < N then _ else _) G s
  rw [if_neg (Nat.lt_irrefl _)]
  exact hG
theorem range_getD (vs : List Value) : (List.toArray (List.range vs.length)).toList.map (fun i => vs.getD i Value.none) = vs := by
  refine List.ext_getElem (by simp) fun i h1 h2 => ?_
  simp [h2]
section
variable {prog : Program} {w : World} {A : Around} {E : Value → Shared → Prop} {s : Shared} {h₀ : Heap} {L : Addr} {m : Str → Option Value} {news : List (Addr × Obj)}
theorem sorted_t {l : Addr} {vs : List Value} {k : Nat} {ds : List Tri} {ts : List (Addr × Obj)} {Q : Value → Shared → Prop} (F : Fr h₀ L s.heap m) (N : News h₀ L s.heap news) (hm : (l, W.listOf vs.toArray k) ∈ news)
    (hd : DatAll ts vs (ds.map triD)) (hs : ∀ p ∈ ts, p ∈ news) (asc : ascT ds = true) (h2 : 2 ≤ ds.length) (h64 : ds.length < 64)
    (h : ∀ D c h', Fr h₀ L h' m → News h₀ L h' ((D, W.listOf vs.toArray c) :: news) → (∀ q ∈ news, q.1 < D) → Q (.ref D) { s with heap := h' }) :
    wpAny (model prog w) A (call (.builtin "sorted") [.ref l]) Q E s := by
  have hl : vs.length = ds.length := by rw [hd.length, List.length_map]
  refine kat_sorted F N (News.isList N hm) (by omega) (by omega) fun D e1 h' F' N' l1 => ?_
  have hk : ∀ p ∈ ts, h'.get? p.1 = some p.2 := fun p hp => (N' p (.tail _ (hs p hp))).1
  obtain ⟨fs, T, n, hty⟩ := tri_tups hk hd
  refine kat_kind (T := .type "int") T (by omega) ?_ rfl ?_
  · intro v hv
    obtain ⟨i, t, rfl⟩ := hty v hv
    exact Looks.of_pure rfl
  show (kas_sort vs.length).kasWp (kas_ask prog w A.in1.in1 (tuples' true) vs) _ _
  refine sort_run (by omega) (fun n C h1 hn hC => ?_) ?_
  · obtain ⟨x, t, u, z, nx, ex, mx⟩ := tri_get hd (k := n) (by omega)
    obtain ⟨y, t', u', z', ny, ey, my⟩ := tri_get hd (k := n - 1) (by omega)
    show wpAny _ _ (keyLt' (tuples' true) (vs.getD n Value.none) (vs.getD (n - 1) Value.none)) _ _ _
    rw [List.getD_eq_getElem?_getD, List.getD_eq_getElem?_getD, ex, ey]
    refine key_lt_t (hk _ mx) (hk _ my) ?_
    have q := ltT_anti (asc_at (n := n - 1) asc (by omega))
    rw [show n - 1 + 1 = n by omega] at q
    rw [q]; exact hC
  · refine KasFin.intro F' N' (.head fun p hp => Nat.ne_of_lt (l1 p hp)) fun h'' c F'' N'' => ?_
    rw [range_getD] at N''
    exact h D c h'' F'' N'' l1
end

end Mine
end
section
namespace Mine
section
variable {prog : Program} {w : World} {A : Around} {h₀ : Heap} {L : Addr} {m : Str → Option Value} {env : Env} {ct elt : Expr} {x : Str} {scope : Scope} {cl : List (Str × Addr)} {s : Shared} {S : List (Addr × Obj) → Prop} {P : Nat → Value → Prop} {Fin : List Value → List (Addr × Obj) → Prop}
theorem compEnd_mono {I C D : Addr} {oI oC oD : Obj} {s₁ s₂ : Shared} {y : Value} {R R' : Value → List (Addr × Obj) → Prop} (h : ∀ n, R y n → R' y n) (q : LCg.CompEnd h₀ L m s₁ I oI C oC D oD S R y s₂) : LCg.CompEnd h₀ L m s₁ I oI C oC D oD S R' y s₂ := by
  obtain ⟨h', tk, news', e, F, N, off, hS, r⟩ := q
  exact ⟨h', tk, news', e, F, N, off, hS, h _ r⟩
theorem compT_loop {n : Nat} (J : Nat → List Value → List (Addr × Obj) → Prop) {news : List (Addr × Obj)} (j0 : J 0 [] news)
    (turn : ∀ i ys nw v I oI C oC D m₂ h tk (E' : Value → Shared → Prop), i < n → J i ys nw → P i v → LCg.NsObj oC m₂ → m₂ x = some v → Fr h₀ L h m → News h₀ L h ((I, oI) :: (C, oC) :: (D, LCg.lst ys) :: nw) → LCg.Off3 I C D nw → ((@Ne Nat I C) ∧ (@Ne Nat I D) ∧ (@Ne Nat C D)) →
      wpAny (model prog w) A (isTrue ct (compEnvC scope cl C env) (eval ct (compEnvC scope cl C env))) (fun ok s' => if ok = true then
        wpAny (model prog w) A (eval elt (compEnvC scope cl C env)) (LCg.CompEnd h₀ L m { s with heap := h, toks := tk } I oI C oC D (LCg.lst ys) S (fun y news' => J (i + 1) (ys ++ [y]) news')) E' s'
        else LCg.CompEnd h₀ L m { s with heap := h, toks := tk } I oI C oC D (LCg.lst ys) S (fun _ news' => J (i + 1) ys news') Value.none s') E' { s with heap := h, toks := tk })
    (fin : ∀ ys nw, J n ys nw → Fin ys nw) : LCt.CompRestT prog w A h₀ L m env ct elt x scope cl s S P Fin n 0 [] news := by
  have key : ∀ (j i : Nat) (ys : List Value) (nw : List (Addr × Obj)), i + j = n → J i ys nw → LCt.CompRestT prog w A h₀ L m env ct elt x scope cl s S P Fin j i ys nw := by
    intro j
    induction j with
    | zero => exact fun i ys nw e hj => LCt.CompRestT.zero (fin ys nw ((show i = n by omega) ▸ hj))
    | succ j ih =>
      intro i ys nw e hj
      refine LCt.CompRestT.succ ?_
      intro v I oI C oC D m₂ h tk E' hv hC hx F N off ne
      refine wpAny_mono (turn i ys nw v I oI C oC D m₂ h tk E' (by omega) hj hv hC hx F N off ne) (fun ok s' q => ?_) fun _ _ q => q
      cases ok with
      | true =>
        rw [if_pos rfl] at q ⊢
        exact wpAny_mono q (fun y s'' r => compEnd_mono (fun nw' j' => ih (i + 1) _ _ (by omega) j') r) fun _ _ q => q
      | false =>
        rw [if_neg Bool.false_ne_true] at q ⊢
        exact compEnd_mono (fun nw' j' => ih (i + 1) _ _ (by omega) j') q
  exact key n 0 [] news (Nat.zero_add _) j0
end

end Mine
end
section
namespace Mine
open PyProof.Rows.LCg in
def TriSrc (prog : Program) (w : World) (A : Around) (h₀ : Heap) (L : Addr) (m : Str → Option Value) (env : Env) (elt : PySem.Expr) (a b c : Str) (scope : Scope) (cl : List (Str × Addr)) (y₀ : Str) (Q : Flow → Shared → Prop) (xv : Value) (s₁ : Shared) : Prop :=
  ∃ (l : Addr) (vs : List Value) (k : Nat) (ds : List Tri) (news : List (Addr × Obj)), ∃ J : Nat → List Value → List (Addr × Obj) → Prop, xv = .ref l ∧ A.handled = none ∧ Fr h₀ L s₁.heap m ∧ News h₀ L s₁.heap news ∧ vs.length = ds.length ∧ ds.length ≤ 100 ∧ J 0 [] news ∧
    (∀ i ys nw, J i ys nw → (l, W.listOf (List.toArray vs) k) ∈ nw ∧ ∀ j, j < ds.length → ∃ a t u z n, vs[j]? = some (.ref a) ∧ (a, triO (ds.getD j default) t u z n) ∈ nw) ∧
    (∀ (g : Heap) i ys nw t t' t'' I oI C oC D m₂ h tk (E' : Value → Shared → Prop), i < ds.length → J i ys nw → NsObj oC m₂ → m₂ a = some (.int (ds.getD i default).1 t) → m₂ b = some (.int (ds.getD i default).2.1 t') → m₂ c = some (.int (ds.getD i default).2.2 t'') →
      Fr h₀ L h m → News h₀ L h ((I, oI) :: (C, oC) :: (D, lst ys) :: nw) → Off3 I C D nw → ((@Ne Nat I C) ∧ (@Ne Nat I D) ∧ (@Ne Nat C D)) →
      wpAny (model prog w) A (eval elt (compEnvC scope cl C env)) (CompEnd h₀ L m ({ s₁ with heap := h, toks := tk } : Shared) I oI C oC D (lst ys) (fun _ => True) (fun y nw' => J (i + 1) (ys ++ [y]) nw')) E' ({ s₁ with heap := h, toks := tk } : Shared)) ∧
    (∀ D h tk ys nw, Fr h₀ L h (fun z => if z = y₀ then some (.ref D) else m z) → News h₀ L h ((D, lst ys) :: nw) → Off1 D nw → J ds.length ys nw → Q .next ({ s₁ with heap := h, toks := tk } : Shared))
section
open PyProof.Rows.LCg
variable {prog : Program} {w : World} {A : Around} {E : Value → Shared → Prop} {s : Shared} {h₀ : Heap} {L : Addr} {m : Str → Option Value} {env : Env}
theorem tri_assign {elt iter : PySem.Expr} {a b c : Str} {pa pb pc tp : Pos} {kk : Nat} {scope : Scope} {cl : List (Str × Addr)} {pos spos py : Pos} {y₀ : Str} {Q : Flow → Shared → Prop} (hLe : env.locals = L)
    (hsw : swapsWith (.ListComp elt [⟨.Tuple [.Name a pa, .Name b pb, .Name c pc] kk tp, iter, [], 0⟩] scope pos) (some (.Name y₀ py)) spos.line env = pure true)
    (hclos : closureFor scope env = pure cl) (hcell : ∀ y ∈ scope.names, y.2 ≠ .cell) (hkind : scope.kind = .function)
    (hnames : ∀ y ∈ scope.names, y.2 = .local → scope.names.lookup y.1 = some .local) (hxa : scope.names.lookup a = some .local) (hxb : scope.names.lookup b = some .local) (hxc : scope.names.lookup c = some .local) (hab : ¬ a = b) (hac : ¬ a = c) (hbc : ¬ b = c)
    (hy : env.kindOf y₀ = some .local) (hp : (env.scope.kind == .class || (env.scope.kind == .module && env.locals != env.globals)) = false)
    (h : wpAny (model prog w) A (eval iter env) (TriSrc prog w A h₀ L m env elt a b c scope cl y₀ Q) E s)
    (hs : ∀ x, foldedSetIterable iter env x = pure x := by intro _; rfl) :
    wpAny (model prog w) A (exec (.Assign [.Name y₀ py] (.ListComp elt [⟨.Tuple [.Name a pa, .Name b pb, .Name c pc] kk tp, iter, [], 0⟩] scope pos) spos) env) Q E s := by
  rw [exec_Assign_Name_used _ _ _ _ hsw]
  refine wpAny_bind (wpAny_standAt (wpAny_bind ?_))
  show wpAny _ A (do let _ ← comprehension (.ListComp elt [⟨.Tuple [.Name a pa, .Name b pb, .Name c pc] kk tp, iter, [], 0⟩] scope pos) scope env _ (newList []) false (eval iter env) (some (assign (.Name y₀ py) env))) _ _ s
  refine wpAny_bind (wpAny_mono (wpAny_comprehension_free (use := some (assign (.Name y₀ py) env)) (Q := fun _ s' => Q .next s') rfl hs hclos hkind hnames (wpAny_mono h (fun xv s₀ h₂ => ?_) fun _ _ e => e)) (fun _ s' hq => wpAny_pure (wpAny_pure hq)) fun _ _ e => e)
  obtain ⟨l, vs, k, ds, news, J, rfl, hh, F₀, N₀, hvl, hlen, j0, hJ, turn, fin⟩ := h₂
  have hl₀ : s₀.heap.IsList l vs.toArray := ⟨_, (N₀ _ (hJ 0 [] news j0).1).1, rfl, k, rfl⟩
  have hlt : l < s₀.heap.objs.size := by obtain ⟨_, e, _⟩ := hl₀; exact Heap.lt_size e
  refine wpAny_pyIter_list hl₀ ?_
  have up₀ : ∀ b o, s₀.heap.get? b = some o → (s₀.heap.push { cls := .type "list_iterator", data := .fields #[.ref l, .int 0 0] }).get? b = some o := fun b o e => Heap.get?_push_of_some _ e
  generalize hI9 : s₀.heap.objs.size = I
  generalize hH1 : s₀.heap.push { cls := .type "list_iterator", data := .fields #[.ref l, .int 0 0] } = H1 at up₀
  have hIt₁ : H1.IsListIter I l 0 := by subst hH1; subst hI9; exact ⟨_, Heap.get?_push_size _ rfl, rfl, rfl⟩
  have hsz₁ : H1.objs.size = I + 1 := by subst hH1; rw [Heap.size_push, hI9]
  have hl₁ : H1.IsList l vs.toArray := hl₀.at fun o x => up₀ _ _ x
  have F : Fr h₀ L H1 m := F₀.keeps up₀
  have N : News h₀ L H1 news := N₀.grown up₀
  have hLI : L ≠ I := hI9 ▸ Nat.ne_of_lt F₀.ns.lt
  have hI0 : h₀.get? I = none := hI9 ▸ next_is_new F₀
  have hoffI : ∀ p ∈ news, p.1 ≠ I := fun p hp => hI9 ▸ Nat.ne_of_lt (Heap.lt_size (N₀ p hp).1)
  have hlI : l ≠ I := hI9 ▸ Nat.ne_of_lt hlt
  refine wpAny_newObj_type (wpAny_newFunctionEnv hcell (by intro y hy; simp at hy) (fun h₁ hns₁ hsb₁ => ?_) hkind)
  dsimp only at hns₁ hsb₁ ⊢
  generalize hH2 : H1.push { cls := .type "list", dict := none, data := .seq ([] : List Value).toArray } = H2 at hns₁ hsb₁ ⊢
  have hC : H2.objs.size = H1.objs.size + 1 := by rw [← hH2, Heap.size_push]
  have hDC : H1.objs.size ≠ H2.objs.size := by rw [hC]; exact Nat.ne_of_lt (Nat.lt_succ_self _)
  have below : ∀ b, b < H1.objs.size → b ≠ H2.objs.size ∧ b ≠ H1.objs.size := fun b hb => ⟨by rw [hC]; exact Nat.ne_of_lt (Nat.lt_succ_of_lt hb), Nat.ne_of_lt hb⟩
  have hIlt : I < H1.objs.size := by obtain ⟨o, ho, _⟩ := hIt₁; exact Heap.lt_size ho
  have old : ∀ b o, H1.get? b = some o → h₁.get? b = some o := fun b o e => hsb₁.extBut b o (below b (Heap.lt_size e)).1 (Heap.get?_push_of_some _ (hH2 ▸ Heap.get?_push_of_some _ e))
  have hacc : h₁.get? H1.objs.size = some (lst []) := hsb₁.extBut _ _ hDC (Heap.get?_push_of_some _ (hH2 ▸ Heap.get?_push_size _ rfl))
  have fresh : ∀ a, H1.objs.size ≤ a → H1.get? a = none := fun a ha => by
    cases e : H1.get? a with
    | none => rfl
    | some o' => exact absurd (Heap.lt_size e) (Nat.not_lt.mpr ha)
  have fresh₀ : ∀ a, H1.objs.size ≤ a → h₀.get? a = none := fun a ha => by
    cases e : h₀.get? a with
    | none => rfl
    | some o' => have := F.keep a o' e; rw [fresh a ha] at this; cases this
  have hD₀ : h₀.get? H1.objs.size = none := fresh₀ _ (Nat.le_refl _)
  have hC₀ : h₀.get? H2.objs.size = none := fresh₀ _ (by rw [hC]; exact Nat.le_succ _)
  have hLlt : L < H1.objs.size := F.ns.lt
  have hDL : H1.objs.size ≠ L := Ne.symm (below L hLlt).2
  have hCL : H2.objs.size ≠ L := Ne.symm (below L hLlt).1
  have hCI : I ≠ H2.objs.size := (below I hIlt).1
  have hDI : I ≠ H1.objs.size := (below I hIlt).2
  have off₀ : Off3 I H2.objs.size H1.objs.size news := off3_mk fun p hp => ⟨hoffI p hp, (below _ (Heap.lt_size (N p hp).1)).1, (below _ (Heap.lt_size (N p hp).1)).2⟩
  have hsz : vs.toArray.size = ds.length := by rw [List.size_toArray]; exact hvl
  have W := Walks.list (prog := prog) (w := w) hh I l hlI vs.toArray
  have wr0 : ∀ c o, h₀.get? c = some o → c ∉ [I] := by
    intro c o hc h
    rw [List.mem_singleton.mp h, hI0] at hc; cases hc
  have hLne : L ∉ [I] := fun h => hLI (List.mem_singleton.mp h)
  have hCn : H2.objs.size ∉ [I] := fun h => hCI (List.mem_singleton.mp h).symm
  have loop : ∀ s₃ : Shared, s₃ = { s₀ with heap := h₁, toks := s₀.toks + ([] : List (Str × Value)).length } →
      codeAny (model prog w) A (.compLoop (.ListComp elt [⟨.Tuple [.Name a pa, .Name b pb, .Name c pc] kk tp, iter, [], 0⟩] scope pos) 0 (.ref I) (.ref H1.objs.size) (compEnvC scope cl H2.objs.size env))
        (fun r s' => r = .ok .next ∧ ∃ h tk ys m' nw, s' = { s₀ with heap := h, toks := tk } ∧ Fr h₀ L h m ∧ News h₀ L h ((H1.objs.size, lst ys) :: nw) ∧ h.Ns H2.objs.size m' ∧ Off3 I H2.objs.size H1.objs.size nw ∧ J ds.length ys nw) s₃ := by
    rintro s₃ rfl
    refine LCp.codeAny_compLoop_pair
      (fun q s' => ∃ h' tk i ys m' nw, s' = { s₀ with heap := h', toks := tk } ∧ i ≤ ds.length ∧ q = ds.length + 1 - i ∧ ys.length = i ∧ (h'.IsListIter I l i ∧ h'.IsList l vs.toArray) ∧ Fr h₀ L h' m ∧ h'.Ns H2.objs.size m' ∧
        News h₀ L h' ((H1.objs.size, lst ys) :: nw) ∧ Off3 I H2.objs.size H1.objs.size nw ∧ J i ys nw) ?_ (ds.length + 1)
      ⟨h₁, _, 0, [], _, news, rfl, Nat.zero_le _, rfl, rfl, ⟨hIt₁.at fun o x => old _ _ x, hl₁.at fun o x => old _ _ x⟩, F.keeps old, hns₁, fun p hp => ?_, off₀, j0⟩
    · rintro q s' ⟨h', tk, i, ys, m', nw, rfl, hi, rfl, hyl, hst', F', hn', N', off', j'⟩
      by_cases hlt : i < ds.length
      · refine W.item i _ _ _ (by rw [hsz]; exact hlt) hst' fun v h₂ tk₂ hPv hst₂ hk₂ => ?_
        obtain ⟨a₉, t, u, z, n, e9, hm9⟩ := (hJ i ys nw j').2 i hlt
        have ev : v = .ref a₉ := by
          have q9 : vs.toArray[i]? = some v := hPv
          rw [List.getElem?_toArray, e9] at q9
          exact (Option.some.inj q9).symm
        subst ev
        have off3 := off3_mem off'
        have nin : ∀ p ∈ (H1.objs.size, lst ys) :: nw, p.1 ∉ [I] := by
          intro p hp h
          rcases List.mem_cons.mp hp with rfl | hp
          · exact hDI (List.mem_singleton.mp h).symm
          · exact (off3 p hp).1 (List.mem_singleton.mp h)
        have N₂ : News h₀ L h₂ ((H1.objs.size, lst ys) :: nw) := fun q hq => ⟨hk₂ _ _ (nin q hq) (N' q hq).1, (N' q hq).2⟩
        have ht : IsTup h₂ a₉ #[.int (ds.getD i default).1 t, .int (ds.getD i default).2.1 u, .int (ds.getD i default).2.2 z] := ⟨_, (N₂ _ (.tail _ hm9)).1, rfl, n, rfl⟩
        refine wpAny_letOwnedTupleGo_listiter hst₂.1 ?_
        refine assign_Tuple_tuple hh ht rfl rfl fun h₅ he => ?_
        have he' : ∀ b o, h₂.get? b = some o → h₅.get? b = some o := fun b o e => he b o (Nat.ne_of_lt (Heap.lt_size e)) e
        refine assignInOrder_cons (wpAny_assign_Name (wpAny_storeName_local (lookup_relabel_local hxa) ((hn'.at' fun o e => hk₂ _ o hCn e).at' fun o e => he' _ o e) (fun h₆ hn₆ hs₆ => ?_) (by simp [compEnvC, relabel, hkind])))
        refine assignInOrder_cons (wpAny_assign_Name (wpAny_storeName_local (lookup_relabel_local hxb) hn₆ (fun h₇ hn₇ hs₇ => ?_) (by simp [compEnvC, relabel, hkind])))
        refine assignInOrder_cons (wpAny_assign_Name (wpAny_storeName_local (lookup_relabel_local hxc) hn₇ (fun h₃ hn₃ hs₃ => ?_) (by simp [compEnvC, relabel, hkind])))
        refine assignInOrder_nil ?_
        have old3 : ∀ b o, b ≠ H2.objs.size → h₂.get? b = some o → h₃.get? b = some o := fun b o hb e => hs₃.extBut b o hb (hs₇.extBut b o hb (hs₆.extBut b o hb (he' b o e)))
        have hI₃ : h₃.IsListIter I l (i + 1) := hst₂.1.at fun o x => old3 I o hCI x
        obtain ⟨oI, heI, hoI⟩ := id hI₃
        obtain ⟨oC, heC, hoC⟩ := ns_obj hn₃
        have F₂ : Fr h₀ L h₂ m := ⟨F'.ns.at' fun o e => hk₂ _ o hLne e, fun c o e => hk₂ c o (wr0 c o e) (F'.keep c o e), F'.above⟩
        have F₃ : Fr h₀ L h₃ m := (((F₂.keeps he').change hs₆ hCL hC₀).change hs₇ hCL hC₀).change hs₃ hCL hC₀
        have N₃ : News h₀ L h₃ ((I, oI) :: (H2.objs.size, oC) :: (H1.objs.size, lst ys) :: nw) := fun p hp => by
          rcases List.mem_cons.mp hp with rfl | hp
          · exact ⟨heI, Ne.symm hLI, hI0⟩
          · rcases List.mem_cons.mp hp with rfl | hp
            · exact ⟨heC, hCL, hC₀⟩
            · have z := N₂ p hp
              refine ⟨old3 _ _ ?_ z.1, z.2⟩
              rcases List.mem_cons.mp hp with rfl | hp
              · exact hDC
              · exact (off3 p hp).2.1
        refine wpAny_mono (turn h₃ i ys nw t u z I oI H2.objs.size oC H1.objs.size _ h₃ _ _ hlt j' hoC (by simp [hab, hac]) (by simp [hbc]) (by simp) F₃ N₃ off' ⟨hCI, hDI, Ne.symm hDC⟩) (fun y s₄ h₄ => ?_) fun _ _ e => e
        obtain ⟨h₄, tk₄, news₄, rfl, F₄, N₄, off₄, _, j₄⟩ := h₄
        have zI := (N₄ (I, oI) List.mem_cons_self).1
        have zC := (N₄ (H2.objs.size, oC) (List.mem_cons_of_mem _ List.mem_cons_self)).1
        have zD := (N₄ (H1.objs.size, lst ys) (List.mem_cons_of_mem _ (List.mem_cons_of_mem _ List.mem_cons_self))).1
        have N₄' : News h₀ L h₄ news₄ := fun p hp => N₄ p (List.mem_cons_of_mem _ (List.mem_cons_of_mem _ (List.mem_cons_of_mem _ hp)))
        have off4 := off3_mem off₄
        have hm₄ := (hJ _ _ _ j₄).1
        have hl₄ : h₄.IsList l vs.toArray := ⟨_, (N₄' _ hm₄).1, rfl, k, rfl⟩
        refine append_at (hsz := by show ys.toArray.size ≤ sizeLine; rw [List.size_toArray, hyl, sizeLine_eq]; omega) zD fun h₈ hs₈ hD₈ => ?_
        refine ⟨ds.length + 1 - (i + 1), by omega, h₈, tk₄, i + 1, ys ++ [y], _, news₄, rfl, hlt, rfl, by rw [List.length_append, List.length_singleton, hyl], ⟨⟨oI, hs₈.extBut I oI hDI zI, hoI⟩, hl₄.at fun o x => hs₈.extBut l o (off4 _ hm₄).2.2 x⟩, F₄.change hs₈ hDL hD₀,
          (hoC.ns zC).sameBut hs₈ (Ne.symm hDC), fun p hp => ?_, off₄, j₄⟩
        rcases List.mem_cons.mp hp with rfl | hp
        · exact ⟨hD₈.trans (congrArg some (lst_snoc ys y)), hDL, hD₀⟩
        · exact ⟨hs₈.extBut _ _ (off4 p hp).2.2 (N₄' p hp).1, (N₄' p hp).2⟩
      · have hin : i = ds.length := Nat.le_antisymm hi (Nat.not_lt.mp hlt)
        subst hin
        refine W.done _ _ _ (by rw [hsz]; exact hst') fun h₂ tk₂ hk₂ => ?_
        have off3 := off3_mem off'
        have nin : ∀ p ∈ (H1.objs.size, lst ys) :: nw, p.1 ∉ [I] := by
          intro p hp h
          rcases List.mem_cons.mp hp with rfl | hp
          · exact hDI (List.mem_singleton.mp h).symm
          · exact (off3 p hp).1 (List.mem_singleton.mp h)
        exact ⟨rfl, h₂, tk₂, ys, m', nw, rfl, ⟨F'.ns.at' fun o e => hk₂ _ o hLne e, fun c o e => hk₂ c o (wr0 c o e) (F'.keep c o e), F'.above⟩, fun q hq => ⟨hk₂ _ _ (nin q hq) (N' q hq).1, (N' q hq).2⟩, hn'.at' fun o e => hk₂ _ o hCn e, off', j'⟩
    · rcases List.mem_cons.mp hp with rfl | hp
      · exact ⟨hacc, hDL, hD₀⟩
      · exact ⟨old _ _ (N p hp).1, (N p hp).2⟩
  refine codeAny_mono (codeAny_compStart_list (loop _ rfl) (W.self 0 _ _ _ ⟨hIt₁.at fun o x => old _ _ x, hl₁.at fun o x => old _ _ x⟩ (loop _ rfl))) fun r s' hr => ?_
  obtain ⟨rfl, h', tk, ys, m', nw, rfl, F', N', hn', off', j'⟩ := hr
  have o3 := off3_mem off'
  show wpAny _ A (assign (.Name y₀ py) env (.ref H1.objs.size)) _ _ _
  have ns' : h'.Ns env.locals m := by rw [hLe]; exact F'.ns
  refine wpAny_assign_Name (wpAny_storeName_local hy ns' (fun h₂ hn₂ hs₂ => ?_) hp)
  rw [hLe] at hn₂ hs₂
  have hL₀ : h₀.get? L = none := Heap.get?_none_of_le F'.above
  have F₂ : Fr h₀ L h₂ (fun z => if z = y₀ then some (.ref H1.objs.size) else m z) := ⟨hn₂, fun b o e => hs₂.extBut b o (fun q => by rw [q, hL₀] at e; cases e) (F'.keep b o e), F'.above⟩
  refine ⟨m', hn'.sameBut hs₂ hCL, fun h'' hs'' => fin _ h'' _ ys nw (F₂.change hs'' hCL hC₀) (fun p hp => ?_) (Off3.one off') j'⟩
  have z : h₂.get? p.1 = some p.2 := hs₂.extBut _ _ (N' p hp).2.1 (N' p hp).1
  refine ⟨hs''.extBut _ _ ?_ z, (N' p hp).2⟩
  rcases List.mem_cons.mp hp with rfl | hp
  · exact hDC
  · exact (o3 p hp).2.1
end

end Mine
end
section
namespace Mine
def TurnT (h₀ : Heap) (L : Addr) (s₁ : Shared) (I : Addr) (it : Obj) (J : (Str → Option Value) → List (Addr × Obj) → Prop) (f : Flow) (s₂ : Shared) : Prop :=
  f = .next ∧ UnrEnd h₀ L s₁ I it J s₂
theorem fr_store {h₀ h h₂ : Heap} {L : Addr} {m m' : Str → Option Value} {news : List (Addr × Obj)} (F : Fr h₀ L h m) (N : News h₀ L h news) (hs : Heap.SameBut L h h₂) (hn : h₂.Ns L m') : Fr h₀ L h₂ m' ∧ News h₀ L h₂ news := by
  have hL₀ : h₀.get? L = none := Heap.get?_none_of_le F.above
  exact ⟨⟨hn, fun b o e => hs.extBut b o (fun q => by rw [q, hL₀] at e; cases e) (F.keep b o e), F.above⟩, fun p hp => ⟨hs.extBut _ _ (N p hp).2.1 (N p hp).1, (N p hp).2⟩⟩
theorem tri_for {prog : Program} {w : World} {A : Around} {E : Value → Shared → Prop} {s : Shared} {env : Env} {h₀ : Heap} {a b c : Str} {pa pb pc tp : Pos} {kk : Nat} {body : List Stmt} {Q : Flow → Shared → Prop} {l : Addr} {vs : List Value} {k : Nat} {ds : List Tri} {m₀ : Str → Option Value} {news : List (Addr × Obj)}
    (J : Nat → List (Addr × Obj) → Prop)
    (hh : A.handled = none) (hpl : (env.scope.kind == .class || (env.scope.kind == .module && env.locals != env.globals)) = false) (ka : env.kindOf a = some .local) (kb : env.kindOf b = some .local) (kc : env.kindOf c = some .local)
    (F : Fr h₀ env.locals s.heap m₀) (N : News h₀ env.locals s.heap news) (hvl : vs.length = ds.length) (j0 : J 0 news)
    (hJ : ∀ i nw, J i nw → (l, W.listOf (List.toArray vs) k) ∈ nw ∧ ∀ j, j < ds.length → ∃ a t u z n, vs[j]? = some (.ref a) ∧ (a, triO (ds.getD j default) t u z n) ∈ nw)
    (turn : ∀ (I : Addr) (oI : Obj) (i : Nat) (m₁ : Str → Option Value) (nw : List (Addr × Obj)) (t u z : Tok) (s₁ : Shared), i < ds.length → J i nw → (∀ p ∈ news, p.1 < I) → (∀ p ∈ nw, p.1 ≠ I) →
      Fr h₀ env.locals s₁.heap (fun y => if y = c then some (.int (ds.getD i default).2.2 z) else if y = b then some (.int (ds.getD i default).2.1 u) else if y = a then some (.int (ds.getD i default).1 t) else m₁ y) → News h₀ env.locals s₁.heap ((I, oI) :: nw) →
      wpAny (model prog w) A (execs body env) (TurnT h₀ env.locals s₁ I oI (fun _ nw' => J (i + 1) nw')) E s₁)
    (done : ∀ m₁ nw h tk, J ds.length nw → Fr h₀ env.locals h m₁ → News h₀ env.locals h nw → Q .next { s with heap := h, toks := tk }) :
    wpAny (model prog w) A (pyIter (.ref l)) (fun it s₂ => LoopAtT prog w A h₀ env (.Tuple [.Name a pa, .Name b pb, .Name c pc] kk tp) body Q E it s₂) E s := by
  have hm := (hJ 0 news j0).1
  have hl₀ : s.heap.IsList l vs.toArray := ⟨_, (N _ hm).1, rfl, k, rfl⟩
  have hlt : l < s.heap.objs.size := by obtain ⟨_, e, _⟩ := hl₀; exact Heap.lt_size e
  refine wpAny_pyIter_list hl₀ ?_
  have up₀ : ∀ b o, s.heap.get? b = some o → (s.heap.push { cls := .type "list_iterator", data := .fields #[.ref l, .int 0 0] }).get? b = some o := fun b o e => Heap.get?_push_of_some _ e
  have hne : l ≠ s.heap.objs.size := Nat.ne_of_lt hlt
  have hnew := next_is_new F
  have hsz : vs.toArray.size = ds.length := by rw [List.size_toArray]; exact hvl
  have Wk := Walks.list (prog := prog) (w := w) hh s.heap.objs.size l hne vs.toArray
  rw [hsz] at Wk
  refine ⟨_, _, _, ds.length, _, _, m₀, news, (fun i _ nw => J i nw), rfl, Wk, ?_, ?_, ?_, ⟨⟨_, Heap.get?_push_size _ rfl, rfl, rfl⟩, hl₀.at fun o e => up₀ _ _ e⟩, F.push _, N.grown up₀, ?_, j0, ?_, ?_⟩
  · intro hq
    rcases List.mem_cons.mp hq with e | hq
    · exact absurd F.ns.lt (e ▸ Nat.lt_irrefl _)
    · exact (N _ hm).2.1 (List.mem_singleton.mp hq).symm
  · intro b hb
    rw [List.mem_singleton.mp hb]
    exact hnew
  · intro p hp hI
    exact absurd (Heap.lt_size (N p hp).1) ((List.mem_singleton.mp hI) ▸ Nat.lt_irrefl _)
  · intro i s' v Q' st hQ'
    exact letGo_listiter st.1 hQ'
  · intro i v m₁ nw s₁ own hi hP hj hoff hown hget hall hst F₁ N₁
    obtain ⟨hml, hg⟩ := hJ i nw hj
    obtain ⟨a₉, t, u, z, n, e9, hm9⟩ := hg i hi
    have ev : v = .ref a₉ := by
      have q9 : vs.toArray[i]? = some v := hP
      rw [List.getElem?_toArray, e9] at q9
      exact (Option.some.inj q9).symm
    subst ev
    obtain ⟨oI, heI, hoI⟩ := id hst.1
    have hmem := hall s.heap.objs.size (.head _) hnew oI heI
    have offI : ∀ p ∈ nw, p.1 ≠ s.heap.objs.size := fun p hp e => hoff p hp (List.mem_singleton.mpr e)
    have N₂ : News h₀ env.locals s₁.heap ((s.heap.objs.size, oI) :: nw) := fun p hp => by
      rcases List.mem_cons.mp hp with rfl | hp
      · exact N₁ _ (List.mem_append_left _ hmem)
      · exact N₁ _ (List.mem_append_right _ hp)
    have ht : IsTup s₁.heap a₉ #[.int (ds.getD i default).1 t, .int (ds.getD i default).2.1 u, .int (ds.getD i default).2.2 z] := ⟨_, (N₂ _ (.tail _ hm9)).1, rfl, n, rfl⟩
    refine assign_Tuple_tuple hh ht rfl rfl fun h₅ he => ?_
    have he' : ∀ b o, s₁.heap.get? b = some o → h₅.get? b = some o := fun b o e => he b o (Nat.ne_of_lt (Heap.lt_size e)) e
    have F₅ : Fr h₀ env.locals h₅ m₁ := F₁.keeps he'
    have N₅ : News h₀ env.locals h₅ ((s.heap.objs.size, oI) :: nw) := N₂.grown he'
    refine assignInOrder_cons (wpAny_assign_Name (wpAny_storeName_local ka F₅.ns (fun h₆ hn₆ hs₆ => ?_) hpl))
    obtain ⟨F₆, N₆⟩ := fr_store F₅ N₅ hs₆ hn₆
    refine assignInOrder_cons (wpAny_assign_Name (wpAny_storeName_local kb F₆.ns (fun h₇ hn₇ hs₇ => ?_) hpl))
    obtain ⟨F₇, N₇⟩ := fr_store F₆ N₆ hs₇ hn₇
    refine assignInOrder_cons (wpAny_assign_Name (wpAny_storeName_local kc F₇.ns (fun h₈ hn₈ hs₈ => ?_) hpl))
    obtain ⟨F₈, N₈⟩ := fr_store F₇ N₇ hs₈ hn₈
    refine assignInOrder_nil ?_
    refine wpAny_mono (turn s.heap.objs.size oI i m₁ nw t u z _ hi hj (fun p hp => Heap.lt_size (N p hp).1) offI F₈ N₈) (fun f s₂ q => ?_) fun _ _ e => e
    obtain ⟨rfl, h', tk, m', nw', e, F', N', ho, j⟩ := q
    refine ⟨rfl, h', tk, m', nw', e, F', fun p hp => ?_, fun p hp hI => ho p hp (List.mem_singleton.mp hI), j⟩
    rcases List.mem_append.mp hp with hp | hp
    · have h2 : s₁.heap.get? p.1 = some p.2 := hget p hp
      rcases List.mem_cons.mp (hown p hp) with h1 | h1
      · have h3 : p = (s.heap.objs.size, oI) := by
          rw [h1, heI] at h2
          exact Prod.ext h1 (Option.some.inj h2).symm
        rw [h3]; exact N' _ (.head _)
      · have h1 := List.mem_singleton.mp h1
        have h3 : p = (l, W.listOf (List.toArray vs) k) := by
          rw [h1, (N₂ _ (.tail _ hml)).1] at h2
          exact Prod.ext h1 (Option.some.inj h2).symm
        rw [h3]; exact N' _ (.tail _ (hJ _ _ j).1)
    · exact N' _ (.tail _ hp)
  · intro h' tk m' nw F' N' _ hj
    exact done m' nw h' tk hj F' N'

end Mine
end
section
namespace Mine
local macro_rules | `(tactic| walk_at "in ts") => `(tactic| first | with_reducible assumption | exact List.mem_append_left _ (by with_reducible assumption) | (refine List.mem_append_right _ ?_; walk_at "in ts") | (refine List.mem_cons_of_mem _ ?_; walk_at "in ts"))
local macro_rules | `(tactic| walk_at "call ref") => `(tactic| (k_here; (with_reducible show wpAny _ _ (call (Value.ref 81) _) _ _ _); refine Mine.hold ?_))
local macro_rules | `(tactic| walk_at "call ref") => `(tactic| (k_here; (with_reducible show wpAny _ _ (call (Value.ref 56) _) _ _ _); refine Mine.hold ?_))
local macro_rules | `(tactic| walk_at "call ref") => `(tactic| (k_here; (with_reducible show wpAny _ _ (call (Value.ref 88) _) _ _ _); refine Mine.hold ?_))
local macro_rules | `(tactic| walk_at "call ref") => `(tactic| (k_here; (with_reducible show wpAny _ _ (call (Value.ref 74) _) _ _ _); refine Mine.hold ?_))
local macro_rules | `(tactic| walk_at "subscriptTail") => `(tactic| ((with_reducible show wpAny _ _ (subscriptTail (PySem.Expr.Name (PySem.Str.ofString "order") _) _ _ _) _ _ _); refine Mine.hold ?_))
local macro_rules | `(tactic| walk_at "call type:range") => `(tactic| ((rename Fr _ _ _ _ => F'); (rename News _ _ _ _ => N'); first | (with_unfolding_all refine range1_rows F' N' ?_; intro _ _ _ _ _ _ _ _ _) | (with_unfolding_all refine range2_rows F' N' ?_; intro _ _ _ _ _ _ _ _ _)))
local macro_rules | `(tactic| walk_at "subscriptTail Name Slice ref ref") => `(tactic| (refine Mine.hold ?_))
local macro_rules | `(tactic| walk_at "binaryOp Mult int int") => `(tactic| (k_here; refine mul_int ?_ (Mine.mul_ok (by omega) (by omega))))
local macro_rules | `(tactic| walk_at "ite") => `(tactic| first | with_reducible refine ite_ff ?_ | with_reducible refine ite_tt ?_ | refine Mine.hold ?_)
local macro_rules | `(tactic| walk_at "exec For") => `(tactic| (refine Mine.hold ?_))
local macro_rules | `(tactic| walk_at "exec For Name Call cons nil") => `(tactic| (refine Mine.hold ?_))
local macro_rules | `(tactic| walk_at "call builtin:len") => `(tactic| (k_here; (with_reducible show wpAny _ _ (call (Value.builtin "len") [Value.ref _]) _ _ _); k_dflt (refine' Mine.tri_len ?N ?m ?d ?l ?_; (case N => k_asm); (case m => walk_at "mem"); (case d => with_reducible assumption); (case l => with_reducible assumption)); intro t9 tk9))
local macro_rules | `(tactic| walk_at "call builtin:sorted") => `(tactic| (refine Mine.hold ?_))
local macro_rules | `(tactic| walk_at "compareOp NotEq ref ref") => `(tactic| (refine Mine.hold ?_))
local macro_rules | `(tactic| walk_at "execs cons") => `(tactic| ((with_reducible show wpAny _ _ (execs (PySem.Stmt.For _ _ _ _ _ :: _) _) _ _ _); refine Mine.hold ?_))
theorem pick_first {vs : List Value} : (slicePick vs.toArray none (some 1) none).toList = vs.take 1 := by
  have e : sliceBounds none (some 1) none vs.toArray.size = (((0 : Nat) : Int), ((min 1 vs.toArray.size : Nat) : Int), 1) := by
    simp only [sliceBounds, Option.getD_none, show (1 : Int) > 0 by decide, if_true, if_neg (show ¬ ((1 : Int) < 0) by decide)]
    congr 1
    congr 1
    omega
  rw [kmk_pick_nat _ e]
  show (vs.drop 0).take (min 1 vs.toArray.size - 0) = _
  rw [List.drop_zero, Nat.sub_zero, List.size_toArray, kmk_take_min]
theorem pick_last {vs : List Value} : (slicePick vs.toArray (some (-1)) none none).toList = vs.drop (vs.length - 1) := by
  have e : sliceBounds (some (-1)) none none vs.toArray.size = (((vs.toArray.size - 1 : Nat) : Int), ((vs.toArray.size : Nat) : Int), 1) := by
    simp only [sliceBounds, Option.getD_none, show (1 : Int) > 0 by decide, if_true, if_pos (show (-1 : Int) < 0 by decide)]
    congr 1
    omega
  rw [kmk_pick_nat _ e]
  show (vs.drop (vs.toArray.size - 1)).take (vs.toArray.size - (vs.toArray.size - 1)) = _
  rw [List.size_toArray, List.take_of_length_le (by rw [List.length_drop]; omega)]
theorem pl_at2 {b : Int} (b0 : 1 ≤ b) (b6 : b ≤ 6) : ascT (partsT b.toNat) = true ∧ (partsT b.toNat).take 1 = [(0, 0, 1)] ∧ (partsT b.toNat).drop ((partsT b.toNat).length - 1) = [(2520, 1, 1)] := by
  obtain ⟨h1, h2, h3⟩ := pl_2 b.toNat (by omega) (by omega)
  exact ⟨h1, eqTs_eq h2, eqTs_eq h3⟩
theorem two_out {a b c d : Addr × Obj} {l : List (Addr × Obj)} : ∀ q ∈ b :: c :: d :: l, q ∈ a :: b :: c :: d :: l := fun _ h => .tail _ h
section
variable {p : Program} {loose : List Str} {mean : ExcName → Option Value} {mg mb : Str → Option Value} {w : World} {cs : Scope} {body : List Stmt} {H h : Heap} {tk : Nat} {L fa : Addr} {cd : Value} {sB : Shared} {E : Value → Shared → Prop} {Q : Flow → Shared → Prop}
set_option linter.unusedVariables false
theorem seg2 {o c1 c2 : Addr} {o1 o2 : Obj} {vs : List Value} {kx : Nat} {tl ts : List (Addr × Obj)} {m₁ : Str → Option Value} {b : Int} {tb : Tok}
    (hcs : cs = lawScope) (hb : body = lawBody.drop 2)
    (B : Below callerA H [] H) (X : (Mine.hd.heap_39 w.params).In H) (T : Top p loose mean mg mb H) (C1 : CodeHd H 41 37) (C2 : CodeHd H 34 30)
    (F : Fr H L h m₁) (N : News H L h ((o, W.listOf vs.toArray kx) :: (c2, o2) :: (c1, o1) :: (tl ++ ts)))
    (hT : TBs tl) (hA : Apart tl ((o, W.listOf vs.toArray kx) :: (c2, o2) :: (c1, o1) :: ts))
    (e1 : c1 = L + 1) (e2 : c2 = L + 1 + 1) (d1 : o1.data = .cell (some (.int b tb))) (d2 : o2.data = .cell (some (.ref o)))
    (hd : DatAll ts vs ((partsT b.toNat).map triD)) (b0 : 1 ≤ b) (b6 : b ≤ 6)
    (g0 : @LT.lt Nat _ 37 c1) (g1 : @LT.lt Nat _ c2 o) (hE : PassesOwn (model PySem.Challenge.rw_hi0005_01.row.prog w) (callerA.deeper (envOfC (PySem.Str.ofString "law") cs L fa cd)) (envOfC (PySem.Str.ofString "law") cs L fa cd) E)
    (cont : ∀ tl (m₁ : Str → Option Value) h tk, TBs tl → Apart tl ((o, W.listOf vs.toArray kx) :: (c2, o2) :: (c1, o1) :: ts) → Fr H L h m₁ → News H L h ((o, W.listOf vs.toArray kx) :: (c2, o2) :: (c1, o1) :: (tl ++ ts)) → wpAny (model PySem.Challenge.rw_hi0005_01.row.prog w) (callerA.deeper (envOfC (PySem.Str.ofString "law") cs L fa cd)) (execs (lawBody.drop 3) (envOfC (PySem.Str.ofString "law") cs L fa cd)) Q E { sB with heap := h, toks := tk }) :
    wpAny (model PySem.Challenge.rw_hi0005_01.row.prog w) (callerA.deeper (envOfC (PySem.Str.ofString "law") cs L fa cd)) (execs body (envOfC (PySem.Str.ofString "law") cs L fa cd)) Q E { sB with heap := h, toks := tk } := by
  conv at hcs => rhs; whnf
  conv at hb => rhs; whnf
  subst hcs
  subst hb
  subst e1 e2
  revert X; k_fill; intro X
  have hlen : (partsT b.toNat).length ≤ 100 := Nat.le_trans (partsT_len b.toNat (by omega)) (by omega)
  have hA0 := hA
  (repeat (have hx9 := (List.forall_mem_cons.mp hA0).1; replace hA0 := (List.forall_mem_cons.mp hA0).2; dsimp only at hx9))
  obtain ⟨pA, pB, pC⟩ := pl_at2 b0 b6
  have hl2 := pl_len b.toNat (by omega) (by omega)
  have hvs : vs.length = (partsT b.toNat).length := by rw [hd.length, List.length_map]
  have hfirst : DatAll ts (vs.take 1) [triD (0, 0, 1)] := by
    have q := dat_take 1 hd
    rw [← List.map_take, pB] at q
    exact q
  have hlast : DatAll ts (vs.drop (vs.length - 1)) [triD (2520, 1, 1)] := by
    have q := dat_drop (vs.length - 1) hd
    rw [← List.map_drop, hvs, pC] at q
    rw [hvs]
    exact q
  k_steps
  refine unhold ?_
  (try dsimp only)
  (rename News _ _ _ _ => N9; rename Fr _ _ _ _ => F9)
  refine sorted_t F9 N9 (by walk_at "mem") hd (fun p9 hp9 => by walk_at "in ts") pA hl2.1 (by omega) fun D c h' F' N' l1 => ?_
  clear F9 N9
  replace l1 := allLt_of l1
  k_steps
  refine unhold ?_
  (rename News _ _ _ _ => N9; rename Fr _ _ _ _ => F9)
  refine kqd_ne N9 (by walk_at "mem") rfl rfl hd (fun p9 hp9 => by walk_at "in ts") (by walk_at "mem") rfl rfl hd (fun p9 hp9 => by walk_at "in ts") tri_oks tri_oks (by first | ktr_units | omega) ?_
  rw [dec_not rfl]
  replace N9 := news_sub N9 two_out
  k_steps
  refine unhold ?_
  (rename News _ _ _ _ => N9; rename Fr _ _ _ _ => F9)
  refine kmk_slice_lit (its := vs.toArray) F9 N9 (News.isList N9 (by walk_at "mem")) IsPart.none (IsPart.int _ _) pick_first (fun D2 h' F' N' l2 => ?_) (by with_unfolding_all rfl) (by intro _; with_unfolding_all rfl) (by rw [List.size_toArray, hvs, sizeLine_eq]; omega)
  clear F9 N9
  replace l2 := allLt_of l2
  k_steps
  refine unhold ?_
  (rename News _ _ _ _ => N9; rename Fr _ _ _ _ => F9)
  refine kqd_ne N9 (by walk_at "mem") rfl rfl hfirst (fun p9 hp9 => by walk_at "in ts") (List.Mem.head _) rfl rfl (.cons (tri_mk (d := (0, 0, 1)) (by walk_at "mem")) .nil) (fun _ h => h) (ds := [triD (0, 0, 1)]) (tri_oks (ds := [(0, 0, 1)])) (tri_oks (ds := [(0, 0, 1)])) (by first | ktr_units | omega) ?_
  rw [dec_not rfl]
  replace N9 := news_sub N9 (l' := (o, W.listOf vs.toArray kx) :: (L + 1 + 1, o2) :: (L + 1, o1) :: (tl ++ ts)) (by walk_at "sub")
  k_steps
  refine unhold ?_
  (rename News _ _ _ _ => N9; rename Fr _ _ _ _ => F9)
  refine kmk_slice_lit (its := vs.toArray) F9 N9 (News.isList N9 (by walk_at "mem")) (IsPart.int _ _) IsPart.none pick_last (fun D3 h' F' N' l2 => ?_) (by with_unfolding_all rfl) (by intro _; with_unfolding_all rfl) (by rw [List.size_toArray, hvs, sizeLine_eq]; omega)
  clear F9 N9
  replace l2 := allLt_of l2
  k_steps
  refine unhold ?_
  (rename News _ _ _ _ => N9; rename Fr _ _ _ _ => F9)
  refine kqd_ne N9 (by walk_at "mem") rfl rfl hlast (fun p9 hp9 => by walk_at "in ts") (List.Mem.head _) rfl rfl (.cons (tri_mk (d := (2520, 1, 1)) (by walk_at "mem")) .nil) (fun _ h => h) (ds := [triD (2520, 1, 1)]) (tri_oks (ds := [(2520, 1, 1)])) (tri_oks (ds := [(2520, 1, 1)])) (by first | ktr_units | omega) ?_
  rw [dec_not rfl]
  replace N9 := news_sub N9 (l' := (o, W.listOf vs.toArray kx) :: (L + 1 + 1, o2) :: (L + 1, o1) :: (tl ++ ts)) (by walk_at "sub")
  k_steps
  refine unhold ?_
  (rename News _ _ _ _ => N9; rename Fr _ _ _ _ => F9)
  exact cont tl _ _ _ hT hA F9 N9
end

end Mine
end
section
local macro_rules | `(tactic| walk_at "pyIter ref") => `(tactic| ((with_reducible show wpAny _ _ (pyIter (Value.ref _)) (fun it s₂ => LoopAtV _ _ _ _ _ _ _ _ _ it s₂) _ _); refine Mine.hold ?_))
namespace Mine
local macro_rules | `(tactic| walk_at "in ts") => `(tactic| first | with_reducible assumption | exact List.mem_append_left _ (by with_reducible assumption) | (refine List.mem_append_right _ ?_; walk_at "in ts") | (refine List.mem_cons_of_mem _ ?_; walk_at "in ts"))
local macro_rules | `(tactic| walk_at "call ref") => `(tactic| (k_here; (with_reducible show wpAny _ _ (call (Value.ref 81) _) _ _ _); refine Mine.hold ?_))
local macro_rules | `(tactic| walk_at "call ref") => `(tactic| (k_here; (with_reducible show wpAny _ _ (call (Value.ref 56) _) _ _ _); refine Mine.hold ?_))
local macro_rules | `(tactic| walk_at "call ref") => `(tactic| (k_here; (with_reducible show wpAny _ _ (call (Value.ref 88) _) _ _ _); refine Mine.hold ?_))
local macro_rules | `(tactic| walk_at "call ref") => `(tactic| (k_here; (with_reducible show wpAny _ _ (call (Value.ref 74) _) _ _ _); refine Mine.hold ?_))
local macro_rules | `(tactic| walk_at "subscriptTail") => `(tactic| ((with_reducible show wpAny _ _ (subscriptTail (PySem.Expr.Name (PySem.Str.ofString "order") _) _ _ _) _ _ _); refine Mine.hold ?_))
local macro_rules | `(tactic| walk_at "call type:range") => `(tactic| ((rename Fr _ _ _ _ => F'); (rename News _ _ _ _ => N'); first | (with_unfolding_all refine range1_rows F' N' ?_; intro _ _ _ _ _ _ _ _ _) | (with_unfolding_all refine range2_rows F' N' ?_; intro _ _ _ _ _ _ _ _ _)))
local macro_rules | `(tactic| walk_at "subscriptTail Name Slice ref ref") => `(tactic| (refine Mine.hold ?_))
local macro_rules | `(tactic| walk_at "binaryOp Mult int int") => `(tactic| (k_here; refine mul_int ?_ (Mine.mul_ok (by omega) (by omega))))
local macro_rules | `(tactic| walk_at "ite") => `(tactic| first | with_reducible refine ite_ff ?_ | with_reducible refine ite_tt ?_ | refine Mine.hold ?_)
local macro_rules | `(tactic| walk_at "exec For") => `(tactic| (refine Mine.hold ?_))
local macro_rules | `(tactic| walk_at "exec For Name Call cons nil") => `(tactic| (refine Mine.hold ?_))
local macro_rules | `(tactic| walk_at "call builtin:len") => `(tactic| (k_here; (with_reducible show wpAny _ _ (call (Value.builtin "len") [Value.ref _]) _ _ _); k_dflt (refine' Mine.tri_len ?N ?m ?d ?l ?_; (case N => k_asm); (case m => walk_at "mem"); (case d => with_reducible assumption); (case l => with_reducible assumption)); intro t9 tk9))
section
variable {p : Program} {loose : List Str} {mean : ExcName → Option Value} {mg mb : Str → Option Value} {w : World} {cs : Scope} {body : List Stmt} {H h : Heap} {tk : Nat} {L fa : Addr} {cd : Value} {sB : Shared} {E : Value → Shared → Prop} {Q : Flow → Shared → Prop}
set_option linter.unusedVariables false
theorem seg3 {o c1 c2 : Addr} {o1 o2 : Obj} {vs : List Value} {kx : Nat} {tl ts : List (Addr × Obj)} {m₁ : Str → Option Value} {b : Int} {tb : Tok}
    (hcs : cs = lawScope) (hb : body = lawBody.drop 3)
    (B : Below callerA H [] H) (X : (Mine.hd.heap_39 w.params).In H) (T : Top p loose mean mg mb H) (C1 : CodeHd H 41 37) (C2 : CodeHd H 34 30)
    (F : Fr H L h m₁) (N : News H L h ((o, W.listOf vs.toArray kx) :: (c2, o2) :: (c1, o1) :: (tl ++ ts)))
    (hT : TBs tl) (hA : Apart tl ((o, W.listOf vs.toArray kx) :: (c2, o2) :: (c1, o1) :: ts))
    (e1 : c1 = L + 1) (e2 : c2 = L + 1 + 1) (d1 : o1.data = .cell (some (.int b tb))) (d2 : o2.data = .cell (some (.ref o)))
    (hd : DatAll ts vs ((partsT b.toNat).map triD)) (b0 : 1 ≤ b) (b6 : b ≤ 6)
    (g0 : @LT.lt Nat _ 37 c1) (g1 : @LT.lt Nat _ c2 o) (hE : PassesOwn (model PySem.Challenge.rw_hi0005_01.row.prog w) (callerA.deeper (envOfC (PySem.Str.ofString "law") cs L fa cd)) (envOfC (PySem.Str.ofString "law") cs L fa cd) E)
    (cont : ∀ tl (m₁ : Str → Option Value) h tk, TBs tl → Apart tl ((o, W.listOf vs.toArray kx) :: (c2, o2) :: (c1, o1) :: ts) → Fr H L h m₁ → News H L h ((o, W.listOf vs.toArray kx) :: (c2, o2) :: (c1, o1) :: (tl ++ ts)) → wpAny (model PySem.Challenge.rw_hi0005_01.row.prog w) (callerA.deeper (envOfC (PySem.Str.ofString "law") cs L fa cd)) (execs (lawBody.drop 4) (envOfC (PySem.Str.ofString "law") cs L fa cd)) Q E { sB with heap := h, toks := tk }) :
    wpAny (model PySem.Challenge.rw_hi0005_01.row.prog w) (callerA.deeper (envOfC (PySem.Str.ofString "law") cs L fa cd)) (execs body (envOfC (PySem.Str.ofString "law") cs L fa cd)) Q E { sB with heap := h, toks := tk } := by
  conv at hcs => rhs; whnf
  conv at hb => rhs; whnf
  subst hcs
  subst hb
  subst e1 e2
  revert X; k_fill; intro X
  have hlen : (partsT b.toNat).length ≤ 100 := Nat.le_trans (partsT_len b.toNat (by omega)) (by omega)
  k_steps
  refine unhold ?_
  (rename Fr _ _ _ _ => lF')
  with_unfolding_all refine' For_invVF lF' ?k1 ?k2 ?_ ?k3 ?k4
  case k1 => exact rfl
  case k2 => exact rfl
  case k3 => intro x; rfl
  case k4 => exact hE
  k_steps
  refine unhold ?_
  (rename IsRange _ _ _ _ _ _ _ _ => R9; rename News _ _ _ _ => N9; rename Fr _ _ _ _ => F9)
  refine k_loop (es := [(o, W.listOf vs.toArray kx), (L + 1 + 1, o2), (L + 1, o1)]) ((partsT b.toNat).length - 1) rfl R9 ?hb ⟨by omega, by omega, by omega⟩ F9 N9 rfl hT hA ?turn ?done
  case turn =>
    clear N9 F9 R9 cont
    intro I i tl m₁ t h tk c1 c2 c3 hi hT hA F N
    simp only [List.cons_append, List.nil_append] at N
    k_steps
    refine unhold ?_
    (try dsimp only)
    (rename News _ _ _ _ => N9; rename Fr _ _ _ _ => F9)
    refine tri_at (i) N9 (by walk_at "mem") hd (by omega) (by omega) hlen ?_
    intro A_a p_a x_a y_a t9 u9 v9 n9 e_a hm_a
    have N8 := put_in hm_a (fun p9 hp9 => by walk_at "in ts") N9
    clear N9
    k_steps
    refine unhold ?_
    (rename News _ _ _ _ => N9; rename Fr _ _ _ _ => F9)
    refine tri_cut F9 N9 (.head _) ?_
    clear F9 N9
    intro D_a h9 F9 N9 l_a
    replace l_a := allLt_of l_a
    replace N9 := drop2 N9
    k_steps
    refine unhold ?_
    (try dsimp only)
    (rename News _ _ _ _ => N9; rename Fr _ _ _ _ => F9)
    refine tri_at (i + 1) N9 (by walk_at "mem") hd (by omega) (by omega) hlen ?_
    intro A_b p_b x_b y_b t9 u9 v9 n9 e_b hm_b
    have N8 := put_in hm_b (fun p9 hp9 => by walk_at "in ts") N9
    clear N9
    k_steps
    refine unhold ?_
    (rename News _ _ _ _ => N9; rename Fr _ _ _ _ => F9)
    refine tri_cut F9 N9 (.head _) ?_
    clear F9 N9
    intro D_b h9 F9 N9 l_b
    replace l_b := allLt_of l_b
    replace N9 := drop2 N9
    obtain ⟨ba1, ba2, ba3, ba4, ba5, ba6⟩ := tri_bnd (by omega) (by omega) e_a
    obtain ⟨bb1, bb2, bb3, bb4, bb5, bb6⟩ := tri_bnd (by omega) (by omega) e_b
    obtain ⟨pA, pB, pC⟩ := pl_at b0 b6 hi e_a e_b
    k_steps
    refine unhold ?_
    rw [if_neg (by rw [pA]; decide)]
    (try dsimp only)
    k_steps
    refine unhold ?_
    rw [if_neg (by rw [decide_eq_true_eq]; omega)]
    (try dsimp only)
    k_steps
    refine unhold ?_
    (try dsimp only)
    (rename News _ _ _ _ => N9; rename Fr _ _ _ _ => F9)
    refine tri_at (i + 1) N9 (by walk_at "mem") hd (by omega) (by omega) hlen ?_
    intro A_c p_c x_c y_c t9 u9 v9 n9 e_c hm_c
    have N8 := put_in hm_c (fun p9 hp9 => by walk_at "in ts") N9
    clear N9
    obtain ⟨_, _, pC9⟩ := pl_at b0 b6 hi e_a e_c
    k_steps
    refine unhold ?_
    (rename News _ _ _ _ => N9; rename Fr _ _ _ _ => F9)
    k_dflt (refine' bisect2_t (x := (p_c, x_c, y_c)) ?B F9 ?X ?T ?hk N9 ?hl ?ht hd (fun p9 hp9 => by walk_at "in ts") hlen ?q1 ?q2 ?_)
    case B => k_asm
    case X => k_asm
    case T => k_asm
    case hk => first | exact rfl | assumption
    case hl => walk_at "mem"
    case ht => exact List.Mem.head _
    case q1 => first | omega | ktr_room
    case q2 => first | omega | ktr_units
    clear F9 N9
    intro t9 h9 tk9 F9 N9
    rw [pC9]
    k_steps
    refine unhold ?_
    rw [if_neg (by rw [show ((i + 1 : Nat) : Int) = 1 + (i : Int) by omega]; simp)]
    (try dsimp only)
    k_steps
    (rename News _ _ _ _ => N9; rename Fr _ _ _ _ => F9)
    exact k_end F9 N9 (by simp only [List.cons_append, List.nil_append]; walk_at "sub") c1 c2 c3 hT hA
  case hb =>
    have := pl_len b.toNat (by omega) (by omega)
    omega
  case done =>
    intro tl m₁ h tk hT hA F N
    exact cont tl m₁ h tk hT hA F N
end

end Mine
end
section
local macro_rules | `(tactic| walk_at "pad") => `(tactic| skip)
local macro_rules | `(tactic| walk_at "pyIter ref") => `(tactic| ((with_reducible show wpAny _ _ (pyIter (Value.ref _)) (fun it s₂ => LoopAtV _ _ _ _ _ _ _ _ _ it s₂) _ _); refine Mine.hold ?_))
namespace Mine
local macro_rules | `(tactic| walk_at "in ts") => `(tactic| first | with_reducible assumption | exact List.mem_append_left _ (by with_reducible assumption) | (refine List.mem_append_right _ ?_; walk_at "in ts") | (refine List.mem_cons_of_mem _ ?_; walk_at "in ts"))
local macro_rules | `(tactic| walk_at "call ref") => `(tactic| (k_here; (with_reducible show wpAny _ _ (call (Value.ref 81) _) _ _ _); refine Mine.hold ?_))
local macro_rules | `(tactic| walk_at "call ref") => `(tactic| (k_here; (with_reducible show wpAny _ _ (call (Value.ref 56) _) _ _ _); refine Mine.hold ?_))
local macro_rules | `(tactic| walk_at "call ref") => `(tactic| (k_here; (with_reducible show wpAny _ _ (call (Value.ref 88) _) _ _ _); refine Mine.hold ?_))
local macro_rules | `(tactic| walk_at "call ref") => `(tactic| (k_here; (with_reducible show wpAny _ _ (call (Value.ref 74) _) _ _ _); refine Mine.hold ?_))
local macro_rules | `(tactic| walk_at "subscriptTail") => `(tactic| ((with_reducible show wpAny _ _ (subscriptTail (PySem.Expr.Name (PySem.Str.ofString "order") _) _ _ _) _ _ _); refine Mine.hold ?_))
local macro_rules | `(tactic| walk_at "call type:range") => `(tactic| ((rename Fr _ _ _ _ => F'); (rename News _ _ _ _ => N'); first | (with_unfolding_all refine range1_rows F' N' ?_; intro _ _ _ _ _ _ _ _ _) | (with_unfolding_all refine range2_rows F' N' ?_; intro _ _ _ _ _ _ _ _ _)))
local macro_rules | `(tactic| walk_at "subscriptTail Name Slice ref ref") => `(tactic| (refine Mine.hold ?_))
local macro_rules | `(tactic| walk_at "binaryOp Mult int int") => `(tactic| (k_here; refine mul_int ?_ (Mine.mul_ok (by omega) (by omega))))
local macro_rules | `(tactic| walk_at "ite") => `(tactic| first | with_reducible refine ite_ff ?_ | with_reducible refine ite_tt ?_ | refine Mine.hold ?_)
local macro_rules | `(tactic| walk_at "exec For") => `(tactic| (refine Mine.hold ?_))
local macro_rules | `(tactic| walk_at "exec For Name Call cons nil") => `(tactic| (refine Mine.hold ?_))
local macro_rules | `(tactic| walk_at "call builtin:len") => `(tactic| (k_here; (with_reducible show wpAny _ _ (call (Value.builtin "len") [Value.ref _]) _ _ _); k_dflt (refine' Mine.tri_len ?N ?m ?d ?l ?_; (case N => k_asm); (case m => walk_at "mem"); (case d => with_reducible assumption); (case l => with_reducible assumption)); intro t9 tk9))
section
variable {p : Program} {loose : List Str} {mean : ExcName → Option Value} {mg mb : Str → Option Value} {w : World} {cs : Scope} {body : List Stmt} {H h : Heap} {tk : Nat} {L fa : Addr} {cd : Value} {sB : Shared} {E : Value → Shared → Prop} {Q : Flow → Shared → Prop}
set_option linter.unusedVariables false
theorem seg4 {o c1 c2 : Addr} {o1 o2 : Obj} {vs : List Value} {kx : Nat} {tl ts : List (Addr × Obj)} {m₁ : Str → Option Value} {b : Int} {tb : Tok}
    (hcs : cs = lawScope) (hb : body = lawBody.drop 4)
    (B : Below callerA H [] H) (X : (Mine.hd.heap_39 w.params).In H) (T : Top p loose mean mg mb H) (C1 : CodeHd H 41 37) (C2 : CodeHd H 34 30)
    (F : Fr H L h m₁) (N : News H L h ((o, W.listOf vs.toArray kx) :: (c2, o2) :: (c1, o1) :: (tl ++ ts)))
    (hT : TBs tl) (hA : Apart tl ((o, W.listOf vs.toArray kx) :: (c2, o2) :: (c1, o1) :: ts))
    (e1 : c1 = L + 1) (e2 : c2 = L + 1 + 1) (d1 : o1.data = .cell (some (.int b tb))) (d2 : o2.data = .cell (some (.ref o)))
    (hd : DatAll ts vs ((partsT b.toNat).map triD)) (b0 : 1 ≤ b) (b6 : b ≤ 6)
    (g0 : @LT.lt Nat _ 37 c1) (g1 : @LT.lt Nat _ c2 o) (hE : PassesOwn (model PySem.Challenge.rw_hi0005_01.row.prog w) (callerA.deeper (envOfC (PySem.Str.ofString "law") cs L fa cd)) (envOfC (PySem.Str.ofString "law") cs L fa cd) E)
    (cont : ∀ tl (m₁ : Str → Option Value) h tk, TBs tl → Apart tl ((o, W.listOf vs.toArray kx) :: (c2, o2) :: (c1, o1) :: ts) → Fr H L h m₁ → News H L h ((o, W.listOf vs.toArray kx) :: (c2, o2) :: (c1, o1) :: (tl ++ ts)) → wpAny (model PySem.Challenge.rw_hi0005_01.row.prog w) (callerA.deeper (envOfC (PySem.Str.ofString "law") cs L fa cd)) (execs (lawBody.drop 5) (envOfC (PySem.Str.ofString "law") cs L fa cd)) Q E { sB with heap := h, toks := tk }) :
    wpAny (model PySem.Challenge.rw_hi0005_01.row.prog w) (callerA.deeper (envOfC (PySem.Str.ofString "law") cs L fa cd)) (execs body (envOfC (PySem.Str.ofString "law") cs L fa cd)) Q E { sB with heap := h, toks := tk } := by
  conv at hcs => rhs; whnf
  conv at hb => rhs; whnf
  subst hcs
  subst hb
  subst e1 e2
  revert X; k_fill; intro X
  have hlen : (partsT b.toNat).length ≤ 100 := Nat.le_trans (partsT_len b.toNat (by omega)) (by omega)
  k_steps
  refine unhold ?_
  (rename Fr _ _ _ _ => lF')
  with_unfolding_all refine' For_invVF lF' ?k1 ?k2 ?_ ?k3 ?k4
  case k1 => exact rfl
  case k2 => exact rfl
  case k3 => intro x; rfl
  case k4 => exact hE
  k_steps
  refine unhold ?_
  (rename IsRange _ _ _ _ _ _ _ _ => R9; rename News _ _ _ _ => N9; rename Fr _ _ _ _ => F9)
  refine k_loop (es := [(o, W.listOf vs.toArray kx), (L + 1 + 1, o2), (L + 1, o1)]) ((partsT b.toNat).length - 2) rfl R9 ?hb ⟨by omega, by omega, by omega⟩ F9 N9 rfl hT hA ?turn ?done
  case turn =>
    clear N9 F9 R9 cont
    intro I i tl m₁ t h tk c1 c2 c3 hi hT hA F N
    simp only [List.cons_append, List.nil_append] at N hA
    have hA0 := hA
    (repeat (have hx9 := (List.forall_mem_cons.mp hA0).1; replace hA0 := (List.forall_mem_cons.mp hA0).2; dsimp only at hx9))
    k_steps
    refine unhold ?_
    (try dsimp only)
    (rename News _ _ _ _ => N9; rename Fr _ _ _ _ => F9)
    refine tri_at (i) N9 (by walk_at "mem") hd (by omega) (by omega) hlen ?_
    intro A_a p_a x_a y_a t9 u9 v9 n9 e_a hm_a
    have N8 := put_in hm_a (fun p9 hp9 => by walk_at "in ts") N9
    clear N9
    k_steps
    refine unhold ?_
    (rename News _ _ _ _ => N9; rename Fr _ _ _ _ => F9)
    refine tri_cut F9 N9 (.head _) ?_
    clear F9 N9
    intro D_a h9 F9 N9 l_a
    replace l_a := allLt_of l_a
    replace N9 := drop2 N9
    k_steps
    refine unhold ?_
    (try dsimp only)
    (rename News _ _ _ _ => N9; rename Fr _ _ _ _ => F9)
    refine tri_at (i + 1) N9 (by walk_at "mem") hd (by omega) (by omega) hlen ?_
    intro A_b p_b x_b y_b t9 u9 v9 n9 e_b hm_b
    have N8 := put_in hm_b (fun p9 hp9 => by walk_at "in ts") N9
    clear N9
    k_steps
    refine unhold ?_
    (rename News _ _ _ _ => N9; rename Fr _ _ _ _ => F9)
    refine tri_cut F9 N9 (.head _) ?_
    clear F9 N9
    intro D_b h9 F9 N9 l_b
    replace l_b := allLt_of l_b
    replace N9 := drop2 N9
    k_steps
    refine unhold ?_
    (try dsimp only)
    (rename News _ _ _ _ => N9; rename Fr _ _ _ _ => F9)
    refine tri_at (i + 2) N9 (by walk_at "mem") hd (by omega) (by omega) hlen ?_
    intro A_c p_c x_c y_c t9 u9 v9 n9 e_c hm_c
    have N8 := put_in hm_c (fun p9 hp9 => by walk_at "in ts") N9
    clear N9
    k_steps
    refine unhold ?_
    (rename News _ _ _ _ => N9; rename Fr _ _ _ _ => F9)
    refine tri_cut F9 N9 (.head _) ?_
    clear F9 N9
    intro D_c h9 F9 N9 l_c
    replace l_c := allLt_of l_c
    replace N9 := drop2 N9
    obtain ⟨ba1, ba2, ba3, ba4, ba5, ba6⟩ := tri_bnd (by omega) (by omega) e_a
    obtain ⟨bb1, bb2, bb3, bb4, bb5, bb6⟩ := tri_bnd (by omega) (by omega) e_b
    obtain ⟨bc1, bc2, bc3, bc4, bc5, bc6⟩ := tri_bnd (by omega) (by omega) e_c
    obtain ⟨pA, pB, pC, pD, pE, pF, pG, pH⟩ := pl_at4 b0 b6 hi e_a e_b e_c
    k_steps
    refine unhold ?_
    (try dsimp only)
    (rename News _ _ _ _ => N9; rename Fr _ _ _ _ => F9)
    k_dflt (refine' shared_e [_, _, _, _, _, _, _, _, _] ?Bs F9 ?Xs ?Ts ?hks ?Cs ?Ds N9 hT ?hAs ?r1s ?r2s ?r3s ?r4s ?r5s ?r6s ?_)
    case Bs => k_asm
    case Xs => k_asm
    case Ts => k_asm
    case hks => first | exact rfl | assumption
    case Cs => kn_code
    case Ds => kn_code
    case hAs => ((try simp only [List.cons_append, List.nil_append]); walk_at "apart")
    case r1s => first | omega | ktr_room
    case r2s => first | omega | ktr_units
    case r3s => omega
    case r4s => omega
    case r5s => omega
    case r6s => omega
    clear F9 N9
    intro tg9 tls h9 tk9 hTs hAs F9 N9
    (try simp only [List.cons_append, List.nil_append] at N9 hAs)
    (repeat (have hx9 := (List.forall_mem_cons.mp hAs).1; replace hAs := (List.forall_mem_cons.mp hAs).2; dsimp only at hx9))
    k_steps
    refine unhold ?_
    (try dsimp only)
    (rename News _ _ _ _ => N9; rename Fr _ _ _ _ => F9)
    k_dflt (refine' intdivmod_c [_, _, _, _, _, _, _, _, _] ?Bu F9 ?Xu ?Tu ?hku ?Cu ?Du N9 hTs ?hAu ?r1u ?r2u ?r3u ?r4u ?r5u ?r6u ?_)
    case Bu => k_asm
    case Xu => k_asm
    case Tu => k_asm
    case hku => first | exact rfl | assumption
    case Cu => kn_code
    case Du => kn_code
    case hAu => ((try simp only [List.cons_append, List.nil_append]); walk_at "apart")
    case r1u => first | omega | ktr_room
    case r2u => first | omega | ktr_units
    case r3u => omega
    case r4u => omega
    case r5u => omega
    case r6u => omega
    clear F9 N9
    intro ru tq9 tr9 tlu h9 tk9 hTu hAu hr9 l1u l2u F9 N9
    (try simp only [List.cons_append, List.nil_append] at N9 hAu)
    (repeat (have hx9 := (List.forall_mem_cons.mp hAu).1; replace hAu := (List.forall_mem_cons.mp hAu).2; dsimp only at hx9))
    replace l1u := allLt_of l1u
    replace l2u := allLt_of l2u
    rw [pC] at N9
    k_steps
    refine unhold ?_
    (try dsimp only)
    (rename News _ _ _ _ => N9; rename Fr _ _ _ _ => F9)
    k_dflt (refine' intdivmod_c [_, _, _, _, _, _, _, _, _, _] ?Bv F9 ?Xv ?Tv ?hkv ?Cv ?Dv N9 hTu ?hAv ?r1v ?r2v ?r3v ?r4v ?r5v ?r6v ?_)
    case Bv => k_asm
    case Xv => k_asm
    case Tv => k_asm
    case hkv => first | exact rfl | assumption
    case Cv => kn_code
    case Dv => kn_code
    case hAv => ((try simp only [List.cons_append, List.nil_append]); walk_at "apart")
    case r1v => first | omega | ktr_room
    case r2v => first | omega | ktr_units
    case r3v => omega
    case r4v => omega
    case r5v => omega
    case r6v => omega
    clear F9 N9
    intro rv tq9 tr9 tlv h9 tk9 hTv hAv hr9 l1v l2v F9 N9
    (try simp only [List.cons_append, List.nil_append] at N9 hAv)
    (repeat (have hx9 := (List.forall_mem_cons.mp hAv).1; replace hAv := (List.forall_mem_cons.mp hAv).2; dsimp only at hx9))
    replace l1v := allLt_of l1v
    replace l2v := allLt_of l2v
    rw [pD] at N9
    k_steps
    refine unhold ?_
    (try dsimp only)
    (rename News _ _ _ _ => N9; rename Fr _ _ _ _ => F9)
    k_dflt (refine' intdivmod_c [_, _, _, _, _, _, _, _, _, _, _, _] ?Bw F9 ?Xw ?Tw ?hkw ?Cw ?Dw N9 hTv ?hAw ?r1w ?r2w ?r3w ?r4w ?r5w ?r6w ?_)
    case Bw => k_asm
    case Xw => k_asm
    case Tw => k_asm
    case hkw => first | exact rfl | assumption
    case Cw => kn_code
    case Dw => kn_code
    case hAw => ((try simp only [List.cons_append, List.nil_append]); walk_at "apart")
    case r1w => first | omega | ktr_room
    case r2w => first | omega | ktr_units
    case r3w => omega
    case r4w => omega
    case r5w => omega
    case r6w => omega
    clear F9 N9
    intro rw tq9 tr9 tlw h9 tk9 hTw hAw hr9 l1w l2w F9 N9
    (try simp only [List.cons_append, List.nil_append] at N9 hAw)
    (repeat (have hx9 := (List.forall_mem_cons.mp hAw).1; replace hAw := (List.forall_mem_cons.mp hAw).2; dsimp only at hx9))
    replace l1w := allLt_of l1w
    replace l2w := allLt_of l2w
    k_steps
    refine unhold ?_
    rw [if_neg (by rw [pE, pF]; simp)]
    (try dsimp only)
    k_steps
    (rename News _ _ _ _ => N9; rename Fr _ _ _ _ => F9)
    exact k_end F9 N9 (by simp only [List.cons_append, List.nil_append]; walk_at "sub") c1 c2 (by with_reducible assumption) hTw (by ((try simp only [List.cons_append, List.nil_append]); walk_at "apart"))
  case hb =>
    have := pl_len b.toNat (by omega) (by omega)
    omega
  case done =>
    intro tl m₁ h tk hT hA F N
    exact cont tl m₁ h tk hT hA F N
end

end Mine
end
section
local macro_rules | `(tactic| walk_at "pyIter ref") => `(tactic| ((with_reducible show wpAny _ _ (pyIter (Value.ref _)) (fun it s₂ => LoopAtV _ _ _ _ _ _ _ _ _ it s₂) _ _); refine Mine.hold ?_))
namespace Mine
local macro_rules | `(tactic| walk_at "in ts") => `(tactic| first | with_reducible assumption | exact List.mem_append_left _ (by with_reducible assumption) | (refine List.mem_append_right _ ?_; walk_at "in ts") | (refine List.mem_cons_of_mem _ ?_; walk_at "in ts"))
local macro_rules | `(tactic| walk_at "call ref") => `(tactic| (k_here; (with_reducible show wpAny _ _ (call (Value.ref 81) _) _ _ _); refine Mine.hold ?_))
local macro_rules | `(tactic| walk_at "call ref") => `(tactic| (k_here; (with_reducible show wpAny _ _ (call (Value.ref 56) _) _ _ _); refine Mine.hold ?_))
local macro_rules | `(tactic| walk_at "call ref") => `(tactic| (k_here; (with_reducible show wpAny _ _ (call (Value.ref 88) _) _ _ _); refine Mine.hold ?_))
local macro_rules | `(tactic| walk_at "call ref") => `(tactic| (k_here; (with_reducible show wpAny _ _ (call (Value.ref 74) _) _ _ _); refine Mine.hold ?_))
local macro_rules | `(tactic| walk_at "subscriptTail") => `(tactic| ((with_reducible show wpAny _ _ (subscriptTail (PySem.Expr.Name (PySem.Str.ofString "order") _) _ _ _) _ _ _); refine Mine.hold ?_))
local macro_rules | `(tactic| walk_at "call type:range") => `(tactic| ((rename Fr _ _ _ _ => F'); (rename News _ _ _ _ => N'); first | (with_unfolding_all refine range1_rows F' N' ?_; intro _ _ _ _ _ _ _ _ _) | (with_unfolding_all refine range2_rows F' N' ?_; intro _ _ _ _ _ _ _ _ _)))
local macro_rules | `(tactic| walk_at "subscriptTail Name Slice ref ref") => `(tactic| (refine Mine.hold ?_))
local macro_rules | `(tactic| walk_at "binaryOp Mult int int") => `(tactic| (k_here; refine mul_int ?_ (Mine.mul_ok (by omega) (by omega))))
local macro_rules | `(tactic| walk_at "ite") => `(tactic| first | with_reducible refine ite_ff ?_ | with_reducible refine ite_tt ?_ | refine Mine.hold ?_)
local macro_rules | `(tactic| walk_at "exec For") => `(tactic| (refine Mine.hold ?_))
local macro_rules | `(tactic| walk_at "exec For Name Call cons nil") => `(tactic| (refine Mine.hold ?_))
local macro_rules | `(tactic| walk_at "call builtin:len") => `(tactic| (k_here; (with_reducible show wpAny _ _ (call (Value.builtin "len") [Value.ref _]) _ _ _); k_dflt (refine' Mine.tri_len ?N ?m ?d ?l ?_; (case N => k_asm); (case m => walk_at "mem"); (case d => with_reducible assumption); (case l => with_reducible assumption)); intro t9 tk9))
local macro_rules | `(tactic| walk_at "execs cons") => `(tactic| ((with_reducible show wpAny _ _ (execs (PySem.Stmt.Assign [PySem.Expr.Name (PySem.Str.ofString "turned") _] _ _ :: _) _) _ _ _); refine Mine.hold ?_))
local macro_rules | `(tactic| walk_at "CompSrcT") => `(tactic| (refine Mine.hold ?_))
local macro_rules | `(tactic| walk_at "compareOp NotIn") => `(tactic| (refine Mine.hold ?_))
local macro_rules | `(tactic| walk_at "CompEnd") => `(tactic| (refine Mine.hold ?_))
section
variable {p : Program} {loose : List Str} {mean : ExcName → Option Value} {mg mb : Str → Option Value} {w : World} {cs : Scope} {body : List Stmt} {H h : Heap} {tk : Nat} {L fa : Addr} {cd : Value} {sB : Shared} {E : Value → Shared → Prop} {Q : Flow → Shared → Prop}
set_option linter.unusedVariables false
theorem seg5 {o c1 c2 : Addr} {o1 o2 : Obj} {vs : List Value} {kx : Nat} {tl ts : List (Addr × Obj)} {m₁ : Str → Option Value} {b : Int} {tb : Tok}
    (hcs : cs = lawScope) (hb : body = lawBody.drop 5)
    (B : Below callerA H [] H) (X : (Mine.hd.heap_39 w.params).In H) (T : Top p loose mean mg mb H) (C1 : CodeHd H 41 37) (C2 : CodeHd H 34 30)
    (F : Fr H L h m₁) (N : News H L h ((o, W.listOf vs.toArray kx) :: (c2, o2) :: (c1, o1) :: (tl ++ ts)))
    (hT : TBs tl) (hA : Apart tl ((o, W.listOf vs.toArray kx) :: (c2, o2) :: (c1, o1) :: ts))
    (e1 : c1 = L + 1) (e2 : c2 = L + 1 + 1) (d1 : o1.data = .cell (some (.int b tb))) (d2 : o2.data = .cell (some (.ref o)))
    (hd : DatAll ts vs ((partsT b.toNat).map triD)) (b0 : 1 ≤ b) (b6 : b ≤ 6)
    (g0 : @LT.lt Nat _ 37 c1) (g1 : @LT.lt Nat _ c2 o) (hE : PassesOwn (model PySem.Challenge.rw_hi0005_01.row.prog w) (callerA.deeper (envOfC (PySem.Str.ofString "law") cs L fa cd)) (envOfC (PySem.Str.ofString "law") cs L fa cd) E)
    (cont : ∀ tl (m₁ : Str → Option Value) h tk, TBs tl → Apart tl ((o, W.listOf vs.toArray kx) :: (c2, o2) :: (c1, o1) :: ts) → Fr H L h m₁ → News H L h ((o, W.listOf vs.toArray kx) :: (c2, o2) :: (c1, o1) :: (tl ++ ts)) → wpAny (model PySem.Challenge.rw_hi0005_01.row.prog w) (callerA.deeper (envOfC (PySem.Str.ofString "law") cs L fa cd)) (execs (lawBody.drop 6) (envOfC (PySem.Str.ofString "law") cs L fa cd)) Q E { sB with heap := h, toks := tk }) :
    wpAny (model PySem.Challenge.rw_hi0005_01.row.prog w) (callerA.deeper (envOfC (PySem.Str.ofString "law") cs L fa cd)) (execs body (envOfC (PySem.Str.ofString "law") cs L fa cd)) Q E { sB with heap := h, toks := tk } := by
  conv at hcs => rhs; whnf
  conv at hb => rhs; whnf
  subst hcs
  subst hb
  subst e1 e2
  revert X; k_fill; intro X
  have hlen : (partsT b.toNat).length ≤ 100 := Nat.le_trans (partsT_len b.toNat (by omega)) (by omega)
  have hA0 := hA
  (repeat (have hx9 := (List.forall_mem_cons.mp hA0).1; replace hA0 := (List.forall_mem_cons.mp hA0).2; dsimp only at hx9))
  k_steps
  refine unhold ?_
  by_cases hb1 : 1 < b
  · rw [if_pos (by rw [decide_eq_true_eq]; exact hb1)]
    (try dsimp only)
    k_steps
    refine unhold ?_
    (try dsimp only)
    (rename News _ _ _ _ => N9; rename Fr _ _ _ _ => F9)
    k_dflt (refine' parts_e [_, _, _] ?Bp F9 ?Xp ?Tp ?hkp ?Cp ?Dp N9 hT ?hAp ?r1p ?r2p ?r3p ?r4p ?_)
    case Bp => k_asm
    case Xp => k_asm
    case Tp => k_asm
    case hkp => first | exact rfl | assumption
    case Cp => kn_code
    case Dp => kn_code
    case hAp => ((try simp only [List.cons_append, List.nil_append]); walk_at "apart")
    case r1p => first | omega | ktr_room
    case r2p => first | omega | ktr_units
    case r3p => omega
    case r4p => omega
    clear F9 N9
    intro l9 vl kl tlp tsp h9 tk9 hTp hAp hrp htp lp1 lp2 hdp F9 N9
    have hlen2 : (partsT (b - 1).toNat).length ≤ 100 := Nat.le_trans (partsT_len (b - 1).toNat (by omega)) (by omega)
    simp only [List.cons_append, List.nil_append] at N9
    replace lp1 := allLt_of lp1
    k_steps
    refine unhold ?_
    (rename IsRange _ _ _ _ _ _ _ _ => R9; rename News _ _ _ _ => N9; rename Fr _ _ _ _ => F9)
    obtain ⟨q1, q2, q3⟩ := pl_at5 hb1 b6
    refine LCt.CompSrcT.range (n := (b - 1).toNat) (by rfl) F9 N9 R9 (small_one (by omega) (by omega) (by omega) (by omega)) (range_n (by omega)) (by rw [sizeLine_eq]; omega) ?_
    intro g'
    refine compT_loop (fun i ys nw => ∃ tl, nw = (l9, W.listOf vl.toArray kl) :: (o, W.listOf vs.toArray kx) :: (L + 1 + 1, o2) :: (L + 1, o1) :: (tl ++ (tsp ++ ts)) ∧ TBs tl ∧ Apart tl ((l9, W.listOf vl.toArray kl) :: (o, W.listOf vs.toArray kx) :: (L + 1 + 1, o2) :: (L + 1, o1) :: (tsp ++ ts)) ∧ IntsAre ys (topsT b i)) ⟨tlp, rfl, hTp, ?a5, .nil⟩ ?turn5 ?fin5
    case a5 => exact apart_less hAp hrp
    case turn5 =>
      clear F9 N9 R9
      intro i ys nw v I' oI' C' oC' D' m' h' tk' E' hi hJ hv hC' hx' F' N' off' ne'
      obtain ⟨tl5, rfl, hT5, hA5, hI5⟩ := hJ
      obtain ⟨t5, rfl⟩ := hv
      obtain ⟨ne1, ne2, ne3⟩ := ne'
      have of5 := off3_mem off'
      have o51 : ∀ p ∈ tl5, p.1 ≠ I' := fun p hp => (of5 p (in_tl4 hp)).1
      have o52 : ∀ p ∈ tl5, p.1 ≠ C' := fun p hp => (of5 p (in_tl4 hp)).2.1
      have o53 : ∀ p ∈ tl5, p.1 ≠ D' := fun p hp => (of5 p (in_tl4 hp)).2.2
      have hA6 := hA5
      (repeat (have hx9 := (List.forall_mem_cons.mp hA6).1; replace hA6 := (List.forall_mem_cons.mp hA6).2; dsimp only at hx9))
      k_steps
      refine unhold ?_
      (try dsimp only)
      (rename News _ _ _ _ => N9; rename Fr _ _ _ _ => F9)
      k_dflt (refine' shared_e [_, _, _, _, _, _, _] ?Bx F9 ?Xx ?Tx ?hkx ?Cx ?Dx N9 hT5 ?hAx ?r1x ?r2x ?r3x ?r4x ?r5x ?r6x ?_)
      case Bx => k_asm
      case Xx => k_asm
      case Tx => k_asm
      case hkx => first | exact rfl | assumption
      case Cx => kn_code
      case Dx => kn_code
      case hAx => ((try simp only [List.cons_append, List.nil_append]); walk_at "apart")
      case r1x => first | omega | ktr_room
      case r2x => first | omega | ktr_units
      case r3x => omega
      case r4x => omega
      case r5x => omega
      case r6x => omega
      clear F9 N9
      intro tg9 tlx h9 tk9 hTx hAx F9 N9
      (try simp only [List.cons_append, List.nil_append] at N9 hAx)
      (repeat (have hx9 := (List.forall_mem_cons.mp hAx).1; replace hAx := (List.forall_mem_cons.mp hAx).2; dsimp only at hx9))
      k_steps
      refine unhold ?_
      by_cases hg5 : (Int.gcd (1 + (i : Int)) b : Int) = 1
      · rw [if_pos (by rw [hg5]; rfl)]
        (try dsimp only)
        k_steps
        refine unhold ?_
        (rename News _ _ _ _ => N9; rename Fr _ _ _ _ => F9)
        refine LCg.CompEnd.intro F9 N9 _ (by walk_at "sub") (off_tl of5 (by with_reducible assumption) (by with_reducible assumption) (by with_reducible assumption)) trivial ⟨_, rfl, hTx, ?_, ?_⟩
        · walk_at "apart"
        · rw [topsT_yes hg5]; exact IntsAre.append hI5 (.cons _ _ .nil)
      · rw [if_neg (by rw [beq_iff_eq]; exact hg5)]
        (try dsimp only)
        k_steps
        refine unhold ?_
        (rename News _ _ _ _ => N9; rename Fr _ _ _ _ => F9)
        refine LCg.CompEnd.intro F9 N9 _ (by walk_at "sub") (off_tl of5 (by with_reducible assumption) (by with_reducible assumption) (by with_reducible assumption)) trivial ⟨_, rfl, hTx, ?_, ?_⟩
        · walk_at "apart"
        · rw [topsT_no hg5]; exact hI5
    case fin5 =>
      clear F9 N9 R9
      rintro ys nw ⟨tl5, rfl, hT5, hA5, hI5⟩
      k_steps
      refine unhold ?_
      rw [if_neg (by rw [q1]; simp)]
      (try dsimp only)
      (rename News _ _ _ _ => N9)
      replace N9 := news_sub N9 (fun p hp => List.mem_cons_of_mem _ hp)
      k_steps
      refine unhold ?_
      (rename News _ _ _ _ => N9; rename Fr _ _ _ _ => F9)
      refine LCt.CompSrcT.ledger (by rfl) F9 N9 (by walk_at "mem") (by rw [List.size_toArray, hdp.length, List.length_map, sizeLine_eq]; omega) ?_
      intro g''
      refine compT_loop (fun i ys nw => ys = [] ∧ nw = (l9, W.listOf vl.toArray kl) :: (o, W.listOf vs.toArray kx) :: (L + 1 + 1, o2) :: (L + 1, o1) :: (tl5 ++ (tsp ++ ts))) ⟨rfl, rfl⟩ ?turn6 ?fin6
      case turn6 =>
        clear F9 N9
        intro i ys nw v I' oI' C' oC' D' m' h' tk' E' hi hJ hv hC' hx' F' N' off' ne'
        obtain ⟨rfl, rfl⟩ := hJ
        have hi2 : i < (partsT (b - 1).toNat).length := by rw [List.size_toArray, hdp.length, List.length_map] at hi; exact hi
        obtain ⟨A6, t1, t2, t3, n6, e6, hm6⟩ := tri_get hdp hi2
        have ev : v = .ref A6 := by rw [List.getElem?_toArray, e6] at hv; exact (Option.some.inj hv).symm
        subst ev
        k_steps
        refine unhold ?_
        (rename News _ _ _ _ => N9; rename Fr _ _ _ _ => F9)
        refine kqd_notIn N9 (by walk_at "mem") rfl rfl hd (fun p9 hp9 => by walk_at "in ts") (tri_mk hm6) (fun p9 hp9 => by walk_at "in ts") tri_oks rfl (by first | ktr_units | omega) ?_
        have hin := List.mem_map_of_mem (f := triD) (q3 _ (getD_mem hi2))
        rw [dec_not hin]
        k_steps
        refine unhold ?_
        (rename News _ _ _ _ => N9; rename Fr _ _ _ _ => F9)
        exact LCg.CompEnd.intro F9 N9 _ (by walk_at "sub") off' (.inr ⟨_, by walk_at "mem", rfl, _, rfl⟩) ⟨rfl, rfl⟩
      case fin6 =>
        clear F9 N9
        rintro ys nw ⟨rfl, rfl⟩
        k_steps
        refine unhold ?_
        (rename News _ _ _ _ => N9; rename Fr _ _ _ _ => F9)
        exact cont tl5 _ _ _ hT5 (apart_out hA5) F9 (news_sub N9 less_out)
  · rw [if_neg (by rw [decide_eq_true_eq]; exact hb1)]
    (try dsimp only)
    k_steps
    refine unhold ?_
    (rename News _ _ _ _ => N9; rename Fr _ _ _ _ => F9)
    exact cont tl _ _ _ hT hA F9 N9
end

end Mine
end
section
namespace Mine
local macro_rules | `(tactic| walk_at "in ts") => `(tactic| first | with_reducible assumption | exact List.mem_append_left _ (by with_reducible assumption) | (refine List.mem_append_right _ ?_; walk_at "in ts") | (refine List.mem_cons_of_mem _ ?_; walk_at "in ts"))
local macro_rules | `(tactic| walk_at "call ref") => `(tactic| (k_here; (with_reducible show wpAny _ _ (call (Value.ref 81) _) _ _ _); refine Mine.hold ?_))
local macro_rules | `(tactic| walk_at "call ref") => `(tactic| (k_here; (with_reducible show wpAny _ _ (call (Value.ref 56) _) _ _ _); refine Mine.hold ?_))
local macro_rules | `(tactic| walk_at "call ref") => `(tactic| (k_here; (with_reducible show wpAny _ _ (call (Value.ref 88) _) _ _ _); refine Mine.hold ?_))
local macro_rules | `(tactic| walk_at "call ref") => `(tactic| (k_here; (with_reducible show wpAny _ _ (call (Value.ref 74) _) _ _ _); refine Mine.hold ?_))
local macro_rules | `(tactic| walk_at "subscriptTail") => `(tactic| ((with_reducible show wpAny _ _ (subscriptTail (PySem.Expr.Name (PySem.Str.ofString "order") _) _ _ _) _ _ _); refine Mine.hold ?_))
local macro_rules | `(tactic| walk_at "call type:range") => `(tactic| ((rename Fr _ _ _ _ => F'); (rename News _ _ _ _ => N'); first | (with_unfolding_all refine range1_rows F' N' ?_; intro _ _ _ _ _ _ _ _ _) | (with_unfolding_all refine range2_rows F' N' ?_; intro _ _ _ _ _ _ _ _ _)))
local macro_rules | `(tactic| walk_at "subscriptTail Name Slice ref ref") => `(tactic| (refine Mine.hold ?_))
local macro_rules | `(tactic| walk_at "binaryOp Mult int int") => `(tactic| (k_here; refine mul_int ?_ (Mine.mul_ok (by omega) (by omega))))
local macro_rules | `(tactic| walk_at "ite") => `(tactic| first | with_reducible refine ite_ff ?_ | with_reducible refine ite_tt ?_ | refine Mine.hold ?_)
local macro_rules | `(tactic| walk_at "exec For") => `(tactic| (refine Mine.hold ?_))
local macro_rules | `(tactic| walk_at "exec For Name Call cons nil") => `(tactic| (refine Mine.hold ?_))
local macro_rules | `(tactic| walk_at "call builtin:len") => `(tactic| (k_here; (with_reducible show wpAny _ _ (call (Value.builtin "len") [Value.ref _]) _ _ _); k_dflt (refine' Mine.tri_len ?N ?m ?d ?l ?_; (case N => k_asm); (case m => walk_at "mem"); (case d => with_reducible assumption); (case l => with_reducible assumption)); intro t9 tk9))
local macro_rules | `(tactic| walk_at "TriSrc") => `(tactic| (refine Mine.hold ?_))
local macro_rules | `(tactic| walk_at "CompEnd") => `(tactic| (refine Mine.hold ?_))
local macro_rules | `(tactic| walk_at "compareOp NotEq ref ref") => `(tactic| (refine Mine.hold ?_))
local macro_rules | `(tactic| walk_at "execs cons") => `(tactic| ((with_reducible show wpAny _ _ (execs (PySem.Stmt.For (PySem.Expr.Tuple _ _ _) _ _ _ _ :: _) _) _ _ _); refine Mine.hold ?_))
def Rev6 (r o c1 c2 : Addr) (o1 o2 : Obj) (vs : List Value) (kx : Nat) (ds : List Tri) (tl ts : List (Addr × Obj)) (i : Nat) (ys : List Value) (nw : List (Addr × Obj)) : Prop :=
  ∃ tn, nw = (r, W.listOf vs.reverse.toArray 0) :: (o, W.listOf vs.toArray kx) :: (c2, o2) :: (c1, o1) :: (tl ++ (tn ++ ts)) ∧ DatAll tn ys ((ds.take i).map fun d => triD (turnT d))
theorem rev_next {x : Addr × Obj} {a b c d : Addr × Obj} {tl tn ts : List (Addr × Obj)} : ∀ q ∈ a :: b :: c :: d :: (tl ++ ((tn ++ [x]) ++ ts)), q ∈ x :: a :: b :: c :: d :: (tl ++ (tn ++ ts)) := by
  intro q hq
  simp only [List.mem_cons, List.mem_append, List.not_mem_nil, or_false] at hq ⊢
  rcases hq with h | h | h | h | h | (h | h) | h <;> simp [h]
theorem rev_out {x a b c d : Addr × Obj} {tl tn ts : List (Addr × Obj)} : ∀ q ∈ b :: c :: d :: (tl ++ ts), q ∈ x :: a :: b :: c :: d :: (tl ++ (tn ++ ts)) := by
  intro q hq
  simp only [List.mem_cons, List.mem_append] at hq ⊢
  rcases hq with h | h | h | h | h <;> simp [h]
theorem take_snoc {ds : List Tri} {i : Nat} (hi : i < ds.length) : ds.take (i + 1) = ds.take i ++ [ds.getD i default] := by
  rw [List.take_succ_eq_append_getElem hi, List.getD_eq_getElem?_getD, List.getElem?_eq_getElem hi]
  rfl
theorem rev_off {I C D : Addr} {x a b c d : Addr × Obj} {tl tn ts : List (Addr × Obj)} (h : LCg.Off3 I C D (a :: b :: c :: d :: (tl ++ (tn ++ ts)))) (h1 : x.1 ≠ I) (h2 : x.1 ≠ C) (h3 : x.1 ≠ D) : LCg.Off3 I C D (a :: b :: c :: d :: (tl ++ ((tn ++ [x]) ++ ts))) :=
  off3_mk fun p hp => by
    rcases List.mem_cons.mp (rev_next p hp) with e | e
    · exact e ▸ ⟨h1, h2, h3⟩
    · exact off3_mem h p e
theorem rev_sub {I C D x a b c d : Addr × Obj} {tl tn ts : List (Addr × Obj)} : ∀ q ∈ I :: C :: D :: a :: b :: c :: d :: (tl ++ ((tn ++ [x]) ++ ts)), q ∈ x :: I :: C :: D :: a :: b :: c :: d :: (tl ++ (tn ++ ts)) := by
  intro q hq
  simp only [List.mem_cons, List.mem_append, List.not_mem_nil, or_false] at hq ⊢
  rcases hq with h | h | h | h | h | h | h | h | (h | h) | h <;> simp [h]
theorem rev_dat {x : Addr × Obj} {tn : List (Addr × Obj)} {ys : List Value} {ds : List Tri} {i : Nat} {v : Value} (hi : i < ds.length) (h : DatAll tn ys ((ds.take i).map fun d => triD (turnT d))) (hv : DatIn (tn ++ [x]) v (triD (turnT (ds.getD i default)))) :
    DatAll (tn ++ [x]) (ys ++ [v]) ((ds.take (i + 1)).map fun d => triD (turnT d)) := by
  rw [take_snoc hi, List.map_append]
  exact (DatAll.mono (fun p hp => List.mem_append_left _ hp) h).append (.one hv)
theorem rev_fin {b : Int} (b0 : 1 ≤ b) (b6 : b ≤ 6) : (((partsT b.toNat).reverse.take (partsT b.toNat).reverse.length).map fun d => triD (turnT d)) = (partsT b.toNat).map triD := by
  rw [List.take_length]
  show List.map (triD ∘ turnT) _ = _
  rw [← List.map_map, pl_at6 b0 b6]
theorem tri_bndm {b : Int} (b6 : b ≤ 7) {p x y : Int} (hm : (p, x, y) ∈ partsT b.toNat) : 0 ≤ p ∧ p ≤ 2520 ∧ 0 ≤ x ∧ x ≤ 7 ∧ 1 ≤ y ∧ y ≤ 7 := by
  have h := List.all_eq_true.mp (pl_ok b.toNat (by omega)) _ hm
  simp only [triOk, Bool.and_eq_true, decide_eq_true_eq] at h
  omega
section
variable {p : Program} {loose : List Str} {mean : ExcName → Option Value} {mg mb : Str → Option Value} {w : World} {cs : Scope} {body : List Stmt} {H h : Heap} {tk : Nat} {L fa : Addr} {cd : Value} {sB : Shared} {E : Value → Shared → Prop} {Q : Flow → Shared → Prop}
set_option linter.unusedVariables false
theorem seg6 {o c1 c2 : Addr} {o1 o2 : Obj} {vs : List Value} {kx : Nat} {tl ts : List (Addr × Obj)} {m₁ : Str → Option Value} {b : Int} {tb : Tok}
    (hcs : cs = lawScope) (hb : body = lawBody.drop 6)
    (B : Below callerA H [] H) (X : (Mine.hd.heap_39 w.params).In H) (T : Top p loose mean mg mb H) (C1 : CodeHd H 41 37) (C2 : CodeHd H 34 30)
    (F : Fr H L h m₁) (N : News H L h ((o, W.listOf vs.toArray kx) :: (c2, o2) :: (c1, o1) :: (tl ++ ts)))
    (hT : TBs tl) (hA : Apart tl ((o, W.listOf vs.toArray kx) :: (c2, o2) :: (c1, o1) :: ts))
    (e1 : c1 = L + 1) (e2 : c2 = L + 1 + 1) (d1 : o1.data = .cell (some (.int b tb))) (d2 : o2.data = .cell (some (.ref o)))
    (hd : DatAll ts vs ((partsT b.toNat).map triD)) (b0 : 1 ≤ b) (b6 : b ≤ 6)
    (g0 : @LT.lt Nat _ 37 c1) (g1 : @LT.lt Nat _ c2 o) (hE : PassesOwn (model PySem.Challenge.rw_hi0005_01.row.prog w) (callerA.deeper (envOfC (PySem.Str.ofString "law") cs L fa cd)) (envOfC (PySem.Str.ofString "law") cs L fa cd) E)
    (cont : ∀ tl (m₁ : Str → Option Value) h tk, TBs tl → Apart tl ((o, W.listOf vs.toArray kx) :: (c2, o2) :: (c1, o1) :: ts) → Fr H L h m₁ → News H L h ((o, W.listOf vs.toArray kx) :: (c2, o2) :: (c1, o1) :: (tl ++ ts)) → wpAny (model PySem.Challenge.rw_hi0005_01.row.prog w) (callerA.deeper (envOfC (PySem.Str.ofString "law") cs L fa cd)) (execs (lawBody.drop 8) (envOfC (PySem.Str.ofString "law") cs L fa cd)) Q E { sB with heap := h, toks := tk }) :
    wpAny (model PySem.Challenge.rw_hi0005_01.row.prog w) (callerA.deeper (envOfC (PySem.Str.ofString "law") cs L fa cd)) (execs body (envOfC (PySem.Str.ofString "law") cs L fa cd)) Q E { sB with heap := h, toks := tk } := by
  conv at hcs => rhs; whnf
  conv at hb => rhs; whnf
  subst hcs
  subst hb
  subst e1 e2
  revert X; k_fill; intro X
  have hlen : (partsT b.toNat).length ≤ 100 := Nat.le_trans (partsT_len b.toNat (by omega)) (by omega)
  have hA0 := hA
  (repeat (have hx9 := (List.forall_mem_cons.mp hA0).1; replace hA0 := (List.forall_mem_cons.mp hA0).2; dsimp only at hx9))
  refine wpAny_execs_cons ?_
  refine' tri_assign (h₀ := H) (L := L) (m := m₁) (a := PySem.Str.ofString "part") (b := PySem.Str.ofString "top") (c := PySem.Str.ofString "low") ?p0 ?ps ?p1 ?p2 ?p3 ?p4 ?p5 ?p6 ?p7 ?p8 ?p9 ?p10 ?py ?pp ?_
  case p0 => rfl
  case ps => with_unfolding_all rfl
  case py => rfl
  case pp => rfl
  case p1 => with_unfolding_all rfl
  case p2 => decide
  case p3 => rfl
  case p4 => decide
  case p5 => rfl
  case p6 => rfl
  case p7 => rfl
  case p8 => decide
  case p9 => decide
  case p10 => decide
  k_steps
  refine unhold ?_
  (rename News _ _ _ _ => N9; rename Fr _ _ _ _ => F9)
  have hdr : DatAll ts vs.reverse ((partsT b.toNat).reverse.map triD) := by rw [List.map_reverse]; exact dat_rev hd
  have hvl : vs.reverse.length = (partsT b.toNat).reverse.length := by rw [hdr.length, List.length_map]
  have hrl : (partsT b.toNat).reverse.length ≤ 100 := by rw [List.length_reverse]; exact hlen
  have hvs : vs.length = (partsT b.toNat).length := by rw [hd.length, List.length_map]
  refine krv_lit (its := vs.toArray) (zs := vs.reverse) F9 N9 (News.isList N9 (by walk_at "mem")) (IsPart.int _ _) rfl (fun D h' F' N' l1 => ?_) (by with_unfolding_all rfl) (by intro _; with_unfolding_all rfl) (by rw [List.size_toArray, hvs, sizeLine_eq]; omega)
  clear F9 N9
  replace l1 := allLt_of l1
  refine ⟨D, vs.reverse, 0, (partsT b.toNat).reverse, _, Rev6 D o (L + 1) (L + 1 + 1) o1 o2 vs kx (partsT b.toNat).reverse tl ts, rfl, rfl, F', N', hvl, hrl, ⟨[], rfl, .nil⟩, ?hJ6, ?turn6, ?fin6⟩
  case hJ6 =>
    rintro i ys nw ⟨tn, rfl, _⟩
    refine ⟨.head _, fun j hj => ?_⟩
    obtain ⟨a, t, u, z, n, e1, e2⟩ := tri_get hdr hj
    exact ⟨a, t, u, z, n, e1, .tail _ (.tail _ (.tail _ (.tail _ (List.mem_append_right _ (List.mem_append_right _ e2)))))⟩
  case turn6 =>
    clear F' N' cont
    intro g i ys nw t t' t'' I oI C oC D' m₂ h tk E' hi hJ hC hxa hxb hxc F N off ne
    obtain ⟨tn, rfl, hdn⟩ := hJ
    obtain ⟨ne1, ne2, ne3⟩ := ne
    have hmi := List.mem_reverse.mp (getD_mem hi)
    have hi9 := hi
    rcases e9 : (partsT b.toNat).reverse.getD i default with ⟨p9, x9, y9⟩
    rw [e9] at hmi hxa hxb hxc
    dsimp only at hxa hxb hxc
    obtain ⟨q1, q2, q3, q4, q5, q6⟩ := tri_bndm (by omega) hmi
    k_steps
    refine unhold ?_
    (try dsimp only)
    (rename News _ _ _ _ => N9; rename Fr _ _ _ _ => F9)
    refine LCg.CompEnd.intro F9 N9 _ rev_sub (rev_off off (by k_ne) (by k_ne) (by k_ne)) trivial ⟨_, rfl, rev_dat hi9 hdn ?_⟩
    rw [e9]
    exact tri_mk (d := turnT (p9, x9, y9)) (List.mem_append_right _ (.head _))
  case fin6 =>
    clear F' N'
    intro D' h tk ys nw F N off hJ
    obtain ⟨tn, rfl, hdn⟩ := hJ
    rw [rev_fin b0 b6] at hdn
    (try dsimp only)
    k_steps
    refine unhold ?_
    (rename News _ _ _ _ => N9; rename Fr _ _ _ _ => F9)
    refine kqd_ne N9 (by walk_at "mem") rfl rfl hdn (fun p9 hp9 => by walk_at "in ts") (by walk_at "mem") rfl rfl hd (fun p9 hp9 => by walk_at "in ts") tri_oks tri_oks (by first | ktr_units | omega) ?_
    rw [dec_not rfl]
    k_steps
    refine unhold ?_
    (rename News _ _ _ _ => N9; rename Fr _ _ _ _ => F9)
    exact cont tl _ _ _ hT hA F9 (news_sub N9 rev_out)
end

end Mine
end
section
local macro_rules | `(tactic| walk_at "pyIter ref") => `(tactic| ((with_reducible show wpAny _ _ (pyIter (Value.ref _)) (fun it s₂ => LoopAtV _ _ _ _ _ _ _ _ _ it s₂) _ _); refine Mine.hold ?_))
namespace Mine
local macro_rules | `(tactic| walk_at "in ts") => `(tactic| first | with_reducible assumption | exact List.mem_append_left _ (by with_reducible assumption) | (refine List.mem_append_right _ ?_; walk_at "in ts") | (refine List.mem_cons_of_mem _ ?_; walk_at "in ts"))
local macro_rules | `(tactic| walk_at "call ref") => `(tactic| (k_here; (with_reducible show wpAny _ _ (call (Value.ref 81) _) _ _ _); refine Mine.hold ?_))
local macro_rules | `(tactic| walk_at "call ref") => `(tactic| (k_here; (with_reducible show wpAny _ _ (call (Value.ref 56) _) _ _ _); refine Mine.hold ?_))
local macro_rules | `(tactic| walk_at "call ref") => `(tactic| (k_here; (with_reducible show wpAny _ _ (call (Value.ref 88) _) _ _ _); refine Mine.hold ?_))
local macro_rules | `(tactic| walk_at "call ref") => `(tactic| (k_here; (with_reducible show wpAny _ _ (call (Value.ref 74) _) _ _ _); refine Mine.hold ?_))
local macro_rules | `(tactic| walk_at "subscriptTail") => `(tactic| ((with_reducible show wpAny _ _ (subscriptTail (PySem.Expr.Name (PySem.Str.ofString "order") _) _ _ _) _ _ _); refine Mine.hold ?_))
local macro_rules | `(tactic| walk_at "call type:range") => `(tactic| ((rename Fr _ _ _ _ => F'); (rename News _ _ _ _ => N'); first | (with_unfolding_all refine range1_rows F' N' ?_; intro _ _ _ _ _ _ _ _ _) | (with_unfolding_all refine range2_rows F' N' ?_; intro _ _ _ _ _ _ _ _ _)))
local macro_rules | `(tactic| walk_at "subscriptTail Name Slice ref ref") => `(tactic| (refine Mine.hold ?_))
local macro_rules | `(tactic| walk_at "binaryOp Mult int int") => `(tactic| (k_here; refine mul_int ?_ (Mine.mul_ok (by omega) (by omega))))
local macro_rules | `(tactic| walk_at "ite") => `(tactic| first | with_reducible refine ite_ff ?_ | with_reducible refine ite_tt ?_ | refine Mine.hold ?_)
local macro_rules | `(tactic| walk_at "exec For") => `(tactic| (refine Mine.hold ?_))
local macro_rules | `(tactic| walk_at "exec For Name Call cons nil") => `(tactic| (refine Mine.hold ?_))
local macro_rules | `(tactic| walk_at "call builtin:len") => `(tactic| (k_here; (with_reducible show wpAny _ _ (call (Value.builtin "len") [Value.ref _]) _ _ _); k_dflt (refine' Mine.tri_len ?N ?m ?d ?l ?_; (case N => k_asm); (case m => walk_at "mem"); (case d => with_reducible assumption); (case l => with_reducible assumption)); intro t9 tk9))
local macro_rules | `(tactic| walk_at "pyIter ref") => `(tactic| (refine Mine.hold ?_))
local macro_rules | `(tactic| walk_at "compareOp NotIn") => `(tactic| (refine Mine.hold ?_))
theorem dec_yes {P : Prop} {inst : Decidable P} (h : ¬ P) : (!(@decide P inst)) = true := by
  rw [decide_eq_false h]; rfl
theorem out8 {a b c d : Addr × Obj} {tl tsp ts : List (Addr × Obj)} : ∀ q ∈ b :: c :: d :: (tl ++ ts), q ∈ a :: b :: c :: d :: (tl ++ (tsp ++ ts)) := by
  intro q hq
  simp only [List.mem_cons, List.mem_append] at hq ⊢
  rcases hq with h | h | h | h | h <;> simp [h]
theorem triD_in {ds : List Tri} {d : Tri} (h : triD d ∈ ds.map triD) : d ∈ ds := by
  obtain ⟨e, he, q⟩ := List.mem_map.mp h
  injection q with q1
  injection q1 with a1 a2
  injection a2 with b1 b2
  injection b2 with c1 c2
  injection a1 with a1
  injection b1 with b1
  injection c1 with c1
  have : d = e := Prod.ext a1.symm (Prod.ext b1.symm c1.symm)
  exact this ▸ he
section
variable {p : Program} {loose : List Str} {mean : ExcName → Option Value} {mg mb : Str → Option Value} {w : World} {cs : Scope} {body : List Stmt} {H h : Heap} {tk : Nat} {L fa : Addr} {cd : Value} {sB : Shared} {E : Value → Shared → Prop} {Q : Flow → Shared → Prop}
set_option linter.unusedVariables false
theorem seg8 {o c1 c2 : Addr} {o1 o2 : Obj} {vs : List Value} {kx : Nat} {tl ts : List (Addr × Obj)} {m₁ : Str → Option Value} {b : Int} {tb : Tok}
    (hcs : cs = lawScope) (hb : body = lawBody.drop 8)
    (B : Below callerA H [] H) (X : (Mine.hd.heap_39 w.params).In H) (T : Top p loose mean mg mb H) (C1 : CodeHd H 41 37) (C2 : CodeHd H 34 30)
    (F : Fr H L h m₁) (N : News H L h ((o, W.listOf vs.toArray kx) :: (c2, o2) :: (c1, o1) :: (tl ++ ts)))
    (hT : TBs tl) (hA : Apart tl ((o, W.listOf vs.toArray kx) :: (c2, o2) :: (c1, o1) :: ts))
    (e1 : c1 = L + 1) (e2 : c2 = L + 1 + 1) (d1 : o1.data = .cell (some (.int b tb))) (d2 : o2.data = .cell (some (.ref o)))
    (hd : DatAll ts vs ((partsT b.toNat).map triD)) (b0 : 1 ≤ b) (b6 : b ≤ 6)
    (g0 : @LT.lt Nat _ 37 c1) (g1 : @LT.lt Nat _ c2 o) (hE : PassesOwn (model PySem.Challenge.rw_hi0005_01.row.prog w) (callerA.deeper (envOfC (PySem.Str.ofString "law") cs L fa cd)) (envOfC (PySem.Str.ofString "law") cs L fa cd) E)
    (cont : ∀ tl (m₁ : Str → Option Value) h tk, TBs tl → Apart tl ((o, W.listOf vs.toArray kx) :: (c2, o2) :: (c1, o1) :: ts) → Fr H L h m₁ → News H L h ((o, W.listOf vs.toArray kx) :: (c2, o2) :: (c1, o1) :: (tl ++ ts)) → wpAny (model PySem.Challenge.rw_hi0005_01.row.prog w) (callerA.deeper (envOfC (PySem.Str.ofString "law") cs L fa cd)) (execs (lawBody.drop 9) (envOfC (PySem.Str.ofString "law") cs L fa cd)) Q E { sB with heap := h, toks := tk }) :
    wpAny (model PySem.Challenge.rw_hi0005_01.row.prog w) (callerA.deeper (envOfC (PySem.Str.ofString "law") cs L fa cd)) (execs body (envOfC (PySem.Str.ofString "law") cs L fa cd)) Q E { sB with heap := h, toks := tk } := by
  conv at hcs => rhs; whnf
  conv at hb => rhs; whnf
  subst hcs
  subst hb
  subst e1 e2
  revert X; k_fill; intro X
  have hlen : (partsT b.toNat).length ≤ 100 := Nat.le_trans (partsT_len b.toNat (by omega)) (by omega)
  have hA0 := hA
  (repeat (have hx9 := (List.forall_mem_cons.mp hA0).1; replace hA0 := (List.forall_mem_cons.mp hA0).2; dsimp only at hx9))
  refine wpAny_execs_cons ?_
  with_unfolding_all refine' For_invTF F ?k1 ?k2 ?k3
  case k2 => intro x; rfl
  case k3 => exact hE
  k_steps
  refine unhold ?_
  (try dsimp only)
  (rename News _ _ _ _ => N9; rename Fr _ _ _ _ => F9)
  k_dflt (refine' parts_e [_, _, _] ?Bp F9 ?Xp ?Tp ?hkp ?Cp ?Dp N9 hT ?hAp ?r1p ?r2p ?r3p ?r4p ?_)
  case Bp => k_asm
  case Xp => k_asm
  case Tp => k_asm
  case hkp => first | exact rfl | assumption
  case Cp => kn_code
  case Dp => kn_code
  case hAp => ((try simp only [List.cons_append, List.nil_append]); walk_at "apart")
  case r1p => first | omega | ktr_room
  case r2p => first | omega | ktr_units
  case r3p => omega
  case r4p => omega
  clear F9 N9
  intro l9 vl kl tlp tsp h9 tk9 hTp hAp hrp htp lp1 lp2 hdp F9 N9
  have hlen2 : (partsT (b + 1).toNat).length ≤ 100 := Nat.le_trans (partsT_len (b + 1).toNat (by omega)) (by omega)
  simp only [List.cons_append, List.nil_append] at N9
  replace lp1 := allLt_of lp1
  k_steps
  refine unhold ?_
  with_unfolding_all refine' tri_for (fun i nw => ∃ tl, nw = (l9, W.listOf vl.toArray kl) :: (o, W.listOf vs.toArray kx) :: (L + 1 + 1, o2) :: (L + 1, o1) :: (tl ++ (tsp ++ ts)) ∧ TBs tl ∧ Apart tl ((l9, W.listOf vl.toArray kl) :: (o, W.listOf vs.toArray kx) :: (L + 1 + 1, o2) :: (L + 1, o1) :: (tsp ++ ts))) rfl rfl rfl rfl rfl F9 N9 (ds := partsT (b + 1).toNat) ?hvl ⟨tlp, rfl, hTp, apart_less hAp hrp⟩ ?hJ ?turn ?done
  case hvl => rw [hdp.length, List.length_map]
  case hJ =>
    rintro i nw ⟨tl5, rfl, _, _⟩
    refine ⟨.head _, fun j hj => ?_⟩
    obtain ⟨a, t, u, z, n, q1, q2⟩ := tri_get hdp hj
    exact ⟨a, t, u, z, n, q1, .tail _ (.tail _ (.tail _ (.tail _ (List.mem_append_right _ (List.mem_append_left _ q2)))))⟩
  case turn =>
    clear N9 F9 cont
    rintro I oI i m₁ nw t u z s₁ hi ⟨tl5, rfl, hT5, hA5⟩ ltI neI F N
    have hA6 := hA5
    (repeat (have hx9 := (List.forall_mem_cons.mp hA6).1; replace hA6 := (List.forall_mem_cons.mp hA6).2; dsimp only at hx9))
    have ltI := allLt_of ltI
    have hmi := getD_mem hi
    rcases e9 : (partsT (b + 1).toNat).getD i default with ⟨p9, x9, y9⟩
    rw [e9] at hmi
    simp only [e9] at F
    obtain ⟨q1, q2, q3, q4, q5, q6⟩ := tri_bndm (by omega) hmi
    change Fr H L s₁.heap _ at F
    change News H L s₁.heap _ at N
    k_steps
    refine unhold ?_
    (try dsimp only)
    (try clear F); (try clear N)
    (rename News _ _ _ _ => N9; rename Fr _ _ _ _ => F9)
    k_dflt (refine' bisect2_t (x := (p9, x9, y9)) ?B F9 ?X ?T ?hk N9 ?hl ?ht hd (fun p9 hp9 => by walk_at "in ts") hlen ?q1 ?q2 ?_)
    case B => k_asm
    case X => k_asm
    case T => k_asm
    case hk => first | exact rfl | assumption
    case hl => walk_at "mem"
    case ht => exact List.Mem.head _
    case q1 => first | omega | ktr_room
    case q2 => first | omega | ktr_units
    clear F9 N9
    intro t9 h9 tk9 F9 N9
    k_steps
    refine unhold ?_
    (try dsimp only)
    (try clear F9); (try clear N9)
    (rename News _ _ _ _ => N9; rename Fr _ _ _ _ => F9)
    refine kqd_notIn N9 (by walk_at "mem") rfl rfl hd (fun p9 hp9 => by walk_at "in ts") (tri_mk (d := (p9, x9, y9)) (List.Mem.head _)) (fun _ h => h) tri_oks rfl (by first | ktr_units | omega) ?_
    by_cases hin : (p9, x9, y9) ∈ partsT b.toNat
    · rw [dec_not (List.mem_map_of_mem (f := triD) hin)]
      k_steps
      (rename News _ _ _ _ => N9; rename Fr _ _ _ _ => F9)
      exact And.intro rfl (UnrEnd.intro F9 N9 _ (by walk_at "sub") neI ⟨tl5, rfl, hT5, hA5⟩)
    · rw [dec_yes (fun q => hin (triD_in q))]
      obtain ⟨pA, pB, pC⟩ := pl_at8 b0 b6 hmi hin
      k_steps
      refine unhold ?_
      (try dsimp only)
      (rename News _ _ _ _ => N9; rename Fr _ _ _ _ => F9)
      refine tri_at (bisT (partsT b.toNat) (p9, x9, y9) - 1) N9 (by walk_at "mem") hd (by omega) (by omega) hlen ?_
      intro A_a p_a x_a y_a t9 u9 v9 n9 e_a hm_a
      have N8 := put_in hm_a (fun p9 hp9 => by walk_at "in ts") N9
      clear N9
      k_steps
      refine unhold ?_
      (try dsimp only)
      (rename News _ _ _ _ => N9; rename Fr _ _ _ _ => F9)
      refine tri_at (bisT (partsT b.toNat) (p9, x9, y9)) N9 (by walk_at "mem") hd (by omega) (by omega) hlen ?_
      intro A_b p_b x_b y_b t9 u9 v9 n9 e_b hm_b
      have N8 := put_in hm_b (fun p9 hp9 => by walk_at "in ts") N9
      clear N9
      rw [e_a, e_b] at pC
      dsimp only at pC
      k_steps
      refine unhold ?_
      rw [if_neg (by rw [decide_eq_true_eq]; exact pC)]
      (try dsimp only)
      k_steps
      (rename News _ _ _ _ => N9; rename Fr _ _ _ _ => F9)
      exact And.intro rfl (UnrEnd.intro F9 N9 _ (by walk_at "sub") neI ⟨tl5, rfl, hT5, hA5⟩)
  case done =>
    clear N9 F9
    rintro m₁ nw h tk ⟨tl5, rfl, hT5, hA5⟩ F N
    exact cont tl5 _ _ _ hT5 (apart_out hA5) F (news_sub N out8)
end

end Mine
end
section
namespace Mine
local macro_rules | `(tactic| walk_at "call ref") => `(tactic| (k_here; (with_reducible show wpAny _ _ (call (Value.ref 81) _) _ _ _); refine Mine.hold ?_))
local macro_rules | `(tactic| walk_at "call ref") => `(tactic| (k_here; (with_reducible show wpAny _ _ (call (Value.ref 56) _) _ _ _); refine Mine.hold ?_))
local macro_rules | `(tactic| walk_at "call ref") => `(tactic| (k_here; (with_reducible show wpAny _ _ (call (Value.ref 88) _) _ _ _); refine Mine.hold ?_))
local macro_rules | `(tactic| walk_at "call ref") => `(tactic| (k_here; (with_reducible show wpAny _ _ (call (Value.ref 74) _) _ _ _); refine Mine.hold ?_))
theorem out_all {a b c : Addr × Obj} {tl ts : List (Addr × Obj)} : ∀ q ∈ tl ++ [], q ∈ a :: b :: c :: (tl ++ ts) := by
  intro q hq
  simp only [List.mem_cons, List.mem_append, List.not_mem_nil, or_false] at hq ⊢
  simp [hq]
theorem swap4 {h₀ h : Heap} {L : Addr} {a b c d : Addr × Obj} (N : News h₀ L h [a, b, c, d]) : News h₀ L h ([a, b] ++ (([d] ++ [c]) ++ [])) :=
  news_sub N (by
    intro q hq
    simp only [List.mem_cons, List.mem_append, List.not_mem_nil, or_false] at hq ⊢
    rcases hq with (h | h) | h | h <;> simp [h])
theorem ap_nat {L : Nat} (h : 37 < L) : (30 ≠ L + 1 + 1 ∧ 37 ≠ L + 1 + 1) ∧ (30 ≠ L + 1 ∧ 37 ≠ L + 1) := by omega
theorem apart_start {L : Addr} {x y z t : Obj} (h : @LT.lt Nat _ 37 L) : Apart ([(30, z)] ++ [(37, t)]) ([(L + 1 + 1, x), (L + 1, y)] ++ []) := by
  intro q hq p hp
  simp only [List.mem_cons, List.mem_append, List.not_mem_nil, or_false] at hq hp
  have k := ap_nat h
  rcases hq with rfl | rfl <;> rcases hp with rfl | rfl
  · exact k.1.1
  · exact k.1.2
  · exact k.2.1
  · exact k.2.2
theorem tabs_start {z t : Obj} : ∀ q ∈ [((37 : Addr), t)], q.1 ≠ 30 ∧ ∀ p ∈ [((30 : Addr), z)], p.1 ≠ q.1 := by
  intro q hq
  rw [List.mem_singleton.mp hq]
  refine ⟨show (37 : Addr) ≠ 30 by decide, fun p hp => ?_⟩
  rw [List.mem_singleton.mp hp]
  show (30 : Addr) ≠ 37
  decide
theorem tri_sift {ts : List (Addr × Obj)} : ∀ {vs : List Value} {ds : List Tri}, DatAll ts vs (ds.map triD) → ∃ ts', (∀ p ∈ ts', p ∈ ts) ∧ DatAll ts' vs (ds.map triD) ∧ ∀ p ∈ ts', ∃ xs n, p.2.data = .seq xs n
  | [], [], _ => ⟨[], fun _ q => absurd q List.not_mem_nil, .nil, fun _ q => absurd q List.not_mem_nil⟩
  | _ :: _, [], q => by cases q
  | [], _ :: _, q => by cases q
  | v :: vs, d :: ds, q => by
    cases q with
    | cons q1 q2 =>
      obtain ⟨a, t, u, z, n, rfl, hm⟩ := tri_in q1
      obtain ⟨ts', r1, r2, r3⟩ := tri_sift q2
      refine ⟨(a, triO d t u z n) :: ts', fun p hp => ?_, .cons (tri_mk (.head _)) (DatAll.mono (fun p hp => .tail _ hp) r2), fun p hp => ?_⟩
      · rcases List.mem_cons.mp hp with rfl | hp
        · exact hm
        · exact r1 p hp
      · rcases List.mem_cons.mp hp with rfl | hp
        · exact ⟨_, _, rfl⟩
        · exact r3 p hp
theorem sift_ne {h₀ h : Heap} {L c : Addr} {o : Obj} {v : Option Value} {led ts' : List (Addr × Obj)} (N : News h₀ L h led) (hc : (c, o) ∈ led) (hs : ∀ p ∈ ts', p ∈ led) (hd : o.data = .cell v) (hq : ∀ p ∈ ts', ∃ xs n, p.2.data = .seq xs n) : ∀ p ∈ ts', p.1 ≠ c := by
  intro p hp e
  obtain ⟨xs, n, hx⟩ := hq p hp
  have h1 := (N _ hc).1
  have h2 := (N _ (hs p hp)).1
  rw [e, h1] at h2
  have h3 := Option.some.inj h2
  dsimp only at h3
  rw [← h3, hd] at hx
  cases hx
theorem sift_sub {a b c : Addr × Obj} {tl ts ts' : List (Addr × Obj)} (h : ∀ p ∈ ts', p ∈ ts) : ∀ q ∈ a :: b :: c :: (tl ++ ts'), q ∈ a :: b :: c :: (tl ++ ts) := by
  intro q hq
  simp only [List.mem_cons, List.mem_append] at hq ⊢
  rcases hq with e | e | e | e | e
  · exact .inl e
  · exact .inr (.inl e)
  · exact .inr (.inr (.inl e))
  · exact .inr (.inr (.inr (.inl e)))
  · exact .inr (.inr (.inr (.inr (h q e))))
theorem apart_rest {x : Addr × Obj} {a b a' b' : Addr × Obj} {tl ts ts' : List (Addr × Obj)} (h : Apart tl (ts ++ ([a, b] ++ []))) (h0 : ∀ q ∈ tl, q.1 ≠ x.1) (ha : a'.1 = a.1) (hb : b'.1 = b.1) (hs : ∀ p ∈ ts', p ∈ ts) : Apart tl (x :: a' :: b' :: ts') := by
  intro q hq p hp
  rcases List.mem_cons.mp hq with rfl | hq
  · exact h0 p hp
  rcases List.mem_cons.mp hq with rfl | hq
  · rw [ha]; exact h a (List.mem_append_right _ (.head _)) p hp
  rcases List.mem_cons.mp hq with rfl | hq
  · rw [hb]; exact h b (List.mem_append_right _ (.tail _ (.head _))) p hp
  · exact h q (List.mem_append_left _ (hs q hq)) p hp
theorem fmod6 (x : Int) : 1 ≤ 1 + x.fmod 6 ∧ 1 + x.fmod 6 ≤ 6 := by
  have h1 := Int.fmod_nonneg_of_pos x (show (0 : Int) < 6 by decide)
  have h2 := Int.fmod_lt_of_pos x (show (0 : Int) < 6 by decide)
  omega
section
variable {p : Program} {loose : List Str} {mean : ExcName → Option Value} {mg mb : Str → Option Value} {w : World} {cs : Scope} {body : List Stmt} {H h : Heap} {tk : Nat} {L fa : Addr} {cd : Value} {sB : Shared} {E : Value → Shared → Prop} {Q : Flow → Shared → Prop}
set_option linter.unusedVariables false
theorem seg9 {m₁ : Str → Option Value} (hcs : cs = lawScope) (hb : body = lawBody.drop 9) (h9 : ∀ tk', Q (.ret (.bool true)) { sB with heap := h, toks := tk' }) :
    wpAny (model PySem.Challenge.rw_hi0005_01.row.prog w) (callerA.deeper (envOfC (PySem.Str.ofString "law") cs L fa cd)) (execs body (envOfC (PySem.Str.ofString "law") cs L fa cd)) Q E { sB with heap := h, toks := tk } := by
  conv at hcs => rhs; whnf
  conv at hb => rhs; whnf
  subst hcs
  subst hb
  k_steps
  exact h9 _
theorem law_rest {o c1 c2 : Addr} {o1 o2 : Obj} {vs : List Value} {kx : Nat} {tl ts : List (Addr × Obj)} {m₁ : Str → Option Value} {b : Int} {tb : Tok}
    (hcs : cs = lawScope) (hb : body = lawBody.drop 2)
    (B : Below callerA H [] H) (X : (Mine.hd.heap_39 w.params).In H) (T : Top p loose mean mg mb H) (C1 : CodeHd H 41 37) (C2 : CodeHd H 34 30)
    (F : Fr H L h m₁) (N : News H L h ((o, W.listOf vs.toArray kx) :: (c2, o2) :: (c1, o1) :: (tl ++ ts)))
    (hT : TBs tl) (hA : Apart tl ((o, W.listOf vs.toArray kx) :: (c2, o2) :: (c1, o1) :: ts))
    (e1 : c1 = L + 1) (e2 : c2 = L + 1 + 1) (d1 : o1.data = .cell (some (.int b tb))) (d2 : o2.data = .cell (some (.ref o)))
    (hd : DatAll ts vs ((partsT b.toNat).map triD)) (b0 : 1 ≤ b) (b6 : b ≤ 6)
    (g0 : @LT.lt Nat _ 37 c1) (g1 : @LT.lt Nat _ c2 o) (hE : PassesOwn (model PySem.Challenge.rw_hi0005_01.row.prog w) (callerA.deeper (envOfC (PySem.Str.ofString "law") cs L fa cd)) (envOfC (PySem.Str.ofString "law") cs L fa cd) E)
    (hret : ∀ h' tk' m' tl, TBs tl → Fr H L h' m' → News H L h' (tl ++ []) → Q (.ret (.bool true)) { sB with heap := h', toks := tk' }) :
    wpAny (model PySem.Challenge.rw_hi0005_01.row.prog w) (callerA.deeper (envOfC (PySem.Str.ofString "law") cs L fa cd)) (execs body (envOfC (PySem.Str.ofString "law") cs L fa cd)) Q E { sB with heap := h, toks := tk } := by
  subst hb
  refine seg2 hcs rfl B X T C1 C2 F N hT hA e1 e2 d1 d2 hd b0 b6 g0 g1 hE ?_
  clear F N hT hA
  intro tl m₁ h tk hT hA F N
  refine seg3 hcs rfl B X T C1 C2 F N hT hA e1 e2 d1 d2 hd b0 b6 g0 g1 hE ?_
  clear F N hT hA
  intro tl m₁ h tk hT hA F N
  refine seg4 hcs rfl B X T C1 C2 F N hT hA e1 e2 d1 d2 hd b0 b6 g0 g1 hE ?_
  clear F N hT hA
  intro tl m₁ h tk hT hA F N
  refine seg5 hcs rfl B X T C1 C2 F N hT hA e1 e2 d1 d2 hd b0 b6 g0 g1 hE ?_
  clear F N hT hA
  intro tl m₁ h tk hT hA F N
  refine seg6 hcs rfl B X T C1 C2 F N hT hA e1 e2 d1 d2 hd b0 b6 g0 g1 hE ?_
  clear F N hT hA
  intro tl m₁ h tk hT hA F N
  refine seg8 hcs rfl B X T C1 C2 F N hT hA e1 e2 d1 d2 hd b0 b6 g0 g1 hE ?_
  clear F N hT hA
  intro tl m₁ h tk hT hA F N
  refine seg9 (m₁ := m₁) hcs rfl fun tk' => ?_
  exact hret _ _ _ _ hT F (news_sub N out_all)
end
local macro_rules | `(tactic| walk_at "execs cons") => `(tactic| ((with_reducible show wpAny _ _ (execs (PySem.Stmt.If (PySem.Expr.BoolOp _ _ _) _ _ _ :: _) _) _ _ _); refine Mine.hold ?_))
set_option maxHeartbeats 4000000 in
theorem law_w : PySem.Challenge.rw_hi0005_01.Holds := Mine.hd (by
  k_go0
  (all_goals try k_fold)
  (rename AllLt _ _ => u0)
  have u1 := Mine.allLt_up u0
  have u2 := Mine.allLt_up u1
  have u3 := Mine.allLt_up u2
  k_steps
  refine unhold ?_
  (try dsimp only)
  (rename_i w7 _)
  generalize hbb : (1 + Int.fmod _ 6 : Int) = bb at *
  have hb6 : 1 ≤ bb ∧ bb ≤ 6 := by rw [← hbb]; exact fmod6 _
  obtain ⟨b0, b6⟩ := hb6
  (rename News _ _ _ _ => N9; rename Fr _ _ _ _ => F9)
  k_dflt (refine' parts_e [_, _] ?Bp F9 ?Xp ?Tp ?hkp ?Cp ?Dp (swap4 N9) (TBs.mk T30.no T37.no tabs_start) (apart_start u0.1) ?r1p ?r2p ?r3p ?r4p ?_)
  case Bp => k_asm
  case Xp => k_asm
  case Tp => k_asm
  case hkp => first | exact rfl | assumption
  case Cp => kn_code
  case Dp => kn_code
  case r1p => first | omega | ktr_room
  case r2p => first | omega | ktr_units
  case r3p => omega
  case r4p => omega
  clear F9 N9
  intro l9 vl kl tlp tsp h9 tk9 hTp hAp hrp htp lp1 lp2 hdp F9 N9
  simp only [List.cons_append, List.nil_append, List.append_nil] at N9
  replace lp1 := allLt_of lp1
  obtain ⟨ts9, s1, s2, s3⟩ := tri_sift hdp
  have s4 := sift_ne N9 (c := _ + 1 + 1) (.tail _ (.head _)) (fun p hp => .tail _ (.tail _ (.tail _ (List.mem_append_right _ (s1 p hp))))) (by with_reducible assumption) s3
  replace N9 := news_sub N9 (sift_sub s1)
  have s5 : ∀ p ∈ tlp, p.1 ≠ _ := hAp _ (List.mem_append_right _ (.head _))
  dsimp only at s5
  k_steps
  refine unhold ?_
  (try dsimp only)
  (rename News _ _ _ _ => N9; rename Fr _ _ _ _ => F9)
  refine' law_rest rfl rfl ?B ?X ?T ?C1 ?C2 F9 N9 hTp (apart_rest hAp hrp rfl rfl s1) rfl rfl ?d1 ?d2 s2 b0 b6 (Nat.lt_succ_of_lt u0.1) lp1.1 ?hE ?hr
  case B => k_asm
  case X => k_asm
  case T => k_asm
  case C1 => first | assumption | kn_code
  case C2 => first | assumption | kn_code
  case d1 => with_reducible assumption
  case d2 => with_reducible assumption
  case hE => passes_own
  case hr =>
    clear F9 N9
    intro h' tk' m' tl q3 F' N'
    refine And.intro ?_ (grown_tbs N' q3)
    k_steps)

end Mine
end
end
end
theorem PySem.Challenge.cw_hi0005_01_holds : PySem.Challenge.rw_hi0005_01.Holds := by
  exact Mine.law_w
